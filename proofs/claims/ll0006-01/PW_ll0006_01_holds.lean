import PyProof.Rows.All
import KE.KxBytes
import KE.KFromBytes
import KE.KIntText
import KE.KIsBytes
import KE.KToBytes
import Open.Tops
import Wide.FinOn
import OpenK.AllK
import Wide.All
import Lean
import PySem.Challenge.RW_ll0006_01
open PySem PySem.W PyProof.Rows PySem.Calls
set_option maxRecDepth 100000
set_option linter.all false
set_option Elab.async false
set_option maxHeartbeats 0
namespace Mine.Internal
noncomputable section
set_option genSizeOf false
set_option genInjectivity false
theorem AZ{x y:Bool}(h:(x&&y)=true):x=true∧y=true:=Bool.and_eq_true_iff.mp h
theorem aI{a b:Prop}(x:a)(y:b):a∧b:=⟨x,y⟩
theorem oJ{α:Type}{a b:α}(h:some a=some b):a=b:=Option.some.inj h
theorem fE{p:Prop}(h:False):p:=False.elim h
theorem nQ{a b:Nat}(x:a≤b)(y:b≤a):a=b:=Nat.le_antisymm x y
theorem zA{a b:Int}(x:a≤b)(y:b≤a):a=b:=Int.le_antisymm x y
theorem tN{a:Int}(h:0≤a):(a.toNat:Int)=a:=Int.toNat_of_nonneg h
theorem Ej{a b:Nat}(h:b≤a):a - b+b=a:=Nat.sub_add_cancel h
theorem mM{α β:Type}{f:α→β}{l:List α}{b:β}(h:∃a,a∈l∧f a=b):b∈l.map f:=List.mem_map.mpr h
theorem bE{α:Type}[BEq α][LawfulBEq α]{a b:α}(h:(a==b)=true):a=b:=beq_iff_eq.mp h
section
section
inductive CF|v(i:Nat)|k(n:Nat)|a(x y:CF)|s(x y:CF)|g(x:CF)|m(n:Nat)(x:CF)|w(x:CF)(n:Nat)|c(x:CF)
inductive EM|nl(x y:CF)|nt(x y:CF)|ne(x y:CF)|il(x y:CF)|it(x y:CF)|ie(x y:CF)|no(f:EM)
structure LP where
 c:Int
 n:List Int
 i:List Int
end
noncomputable abbrev AA:CF:= .v 0
noncomputable abbrev v1:CF:= .v 1
noncomputable abbrev AT:CF:= .v 2
noncomputable abbrev v3:CF:= .v 3
noncomputable abbrev v4:CF:= .v 4
noncomputable abbrev v5:CF:= .v 5
noncomputable abbrev v6:CF:= .v 6
noncomputable abbrev AO:CF:= .k 1
noncomputable abbrev k0:CF:= .k 0
noncomputable abbrev Aa:CF:= .k 16777216
noncomputable abbrev A7:CF:= .k 1000
noncomputable abbrev AE:CF:= .k 1000000
noncomputable abbrev Bt:CF:= .k 100000
noncomputable abbrev k4:CF:= .k 4
noncomputable abbrev J9:CF:= .k 2
noncomputable abbrev CZ:CF:= .k 128
noncomputable abbrev k8:CF:= .k 8
noncomputable abbrev k7:CF:= .k 7
noncomputable abbrev Jj:CF:= .k 20
noncomputable abbrev Fg:CF:= .k 10
noncomputable abbrev A9:CF:= .k 600
noncomputable abbrev DO:CF:= .k 100
noncomputable abbrev Ll:CF:= .k 27
def ui(l:List Nat):Nat→Nat:=@List.rec Nat (fun _=>Nat→Nat) (fun _=>0) (fun x _ r i=> @Nat.rec (fun _=>Nat) x (fun j _=>r j) i) l
def zb(l:List Int):Nat→Int:=@List.rec Int (fun _=>Nat→Int) (fun _=>0) (fun x _ r i=> @Nat.rec (fun _=>Int) x (fun j _=>r j) i) l
def CF.dn(ns:List Nat)(e:CF):Nat:=@CF.rec (fun _=>Nat) (fun i=>ui ns i) (fun n=>n) (fun _ _ a b=>a+b) (fun _ _ _ _=>0) (fun _ _=>0) (fun n _ a=>n*a) (fun _ n a=>a*n) (fun _ _=>0) e
def CF.di(ns:List Nat)(is:List Int)(e:CF):Int:=@CF.rec (fun _=>Int) (fun i=>zb is i) (fun n=> @OfNat.ofNat Int n _) (fun _ _ a b=>a+b) (fun _ _ a b=>a - b) (fun _ a=> -a) (fun n _ a=>(@OfNat.ofNat Int n _)*a) (fun _ n a=>a*(@OfNat.ofNat Int n _)) (fun x _=>((x.dn ns:Nat):Int)) e
def EM.den(ns:List Nat)(is:List Int)(f:EM):Prop:=@EM.rec (fun _=>Prop) (fun x y=>x.dn ns≤y.dn ns) (fun x y=>x.dn ns<y.dn ns) (fun x y=>x.dn ns=y.dn ns) (fun x y=>x.di ns is≤y.di ns is) (fun x y=>x.di ns is<y.di ns is) (fun x y=>x.di ns is=y.di ns is) (fun _ p=>¬p) f
def Pk(ns:List Nat)(is:List Int)(fs:List EM)(p:Prop):Prop:=@List.rec EM (fun _=>Prop) p (fun f _ r=>f.den ns is→r) fs
def Mp(p:List Int):List Int→List Int:=@List.rec Int (fun _=>List Int→List Int) (fun q=>q) (fun a p r q=> @List.casesOn Int (fun _=>List Int) q (a::p) fun b q=>(a+b)::r q) p
def Mk(k:Int)(p:List Int):List Int:=@List.rec Int (fun _=>List Int) [] (fun a _ r=>(k*a)::r) p
noncomputable def Le(i:Nat):List Int:=@Nat.rec (fun _=>List Int) [1] (fun _ r=>0::r) i
def Gz(p:List Int):(Nat→Int)→Int:=@List.rec Int (fun _=>(Nat→Int)→Int) (fun _=>0) (fun a _ r x=>a*x 0+r fun j=>x (j+1)) p
theorem Li(p:List Int):∀(q:List Int) (x:Nat→Int),Gz (Mp p q) x=Gz p x+Gz q x:=by
 induction p with
 |nil=>exact fun q x=>(Int.zero_add _).symm
 |cons a p ih=>
  intro q x
  cases q with
  |nil=>exact(Int.add_zero _).symm
  |cons b q=>
   show(a+b)*x 0+Gz (Mp p q) _=(a*x 0+Gz p _)+(b*x 0+Gz q _)
   rw[ih,Int.add_mul];ac_rfl
theorem Lh(k:Int)(p:List Int):∀x:Nat→Int,Gz (Mk k p) x=k*Gz p x:=by
 induction p with
 |nil=>exact fun x=>(Int.mul_zero k).symm
 |cons a p ih=>
  intro x
  show k*a*x 0+Gz (Mk k p) _=k*(a*x 0+Gz p _)
  rw[ih,Int.mul_add,Int.mul_assoc]
theorem Je(i:Nat):∀x:Nat→Int,Gz (Le i) x=x i:=by
 induction i with
 |zero=>exact fun x=>(Int.add_zero _).trans (Int.one_mul _)
 |succ i ih=>exact fun x=>((congrArg (·+Gz (Le i) fun j=>x (j+1)) (Int.zero_mul _)).trans (Int.zero_add _)).trans (ih _)
def LP.add(p q:LP):LP:=⟨p.c+q.c,Mp p.n q.n,Mp p.i q.i⟩
def LP.mul(k:Int)(p:LP):LP:=⟨k*p.c,Mk k p.n,Mk k p.i⟩
def LP.ev(ns:List Nat)(is:List Int)(p:LP):Int:=p.c+(Gz p.n (fun j=>(ui ns j:Int))+Gz p.i (zb is))
noncomputable def LP.num(z:Int):LP:=⟨z,[],[]⟩
section
variable{ns:List Nat}{is:List Int}
theorem LP.ev_add(p q:LP):(p.add q).ev ns is=p.ev ns is+q.ev ns is:=by
 show p.c+q.c+(Gz (Mp p.n q.n) _+Gz (Mp p.i q.i) _)=_
 rw[Li,Li];unfold LP.ev;ac_rfl
theorem LP.ev_mul(k:Int)(p:LP):(LP.mul k p).ev ns is=k*p.ev ns is:=by
 show k*p.c+(Gz (Mk k p.n) _+Gz (Mk k p.i) _)=_
 rw[Lh,Lh];unfold LP.ev;rw[Int.mul_add,Int.mul_add]
theorem LP.ev_num(z:Int):(LP.num z).ev ns is=z:=Int.add_zero z
end
def CF.pn(e:CF):LP:=@CF.rec (fun _=>LP) (fun i=>⟨0,Le i,[]⟩) (fun n=> .num n) (fun _ _ a b=>a.add b) (fun _ _ _ _=> .num 0) (fun _ _=> .num 0) (fun n _ a=> .mul n a) (fun _ n a=> .mul n a) (fun _ _=> .num 0) e
def CF.pi(e:CF):LP:=@CF.rec (fun _=>LP) (fun i=>⟨0,[],Le i⟩) (fun n=> .num n) (fun _ _ a b=>a.add b) (fun _ _ a b=>a.add (.mul (-1) b)) (fun _ a=> .mul (-1) a) (fun n _ a=> .mul n a) (fun _ n a=> .mul n a) (fun x _=>x.pn) e
section
variable{ns:List Nat}{is:List Int}
theorem CF.pn_ok(e:CF):e.pn.ev ns is=(e.dn ns:Int):=by
 induction e with
 |v i=>exact(Int.zero_add _).trans ((Int.add_zero _).trans (Je i _))
 |k n=>exact LP.ev_num _
 |a x y ih1 ih2=>exact((LP.ev_add _ _).trans (congr (congrArg _ ih1) ih2)).trans (Int.natCast_add _ _).symm
 |s x y=>exact LP.ev_num _
 |g x=>exact LP.ev_num _
 |m n x ih=>exact((LP.ev_mul _ _).trans (congrArg _ ih)).trans (Int.natCast_mul _ _).symm
 |w x n ih=>exact(((LP.ev_mul _ _).trans (congrArg _ ih)).trans (Int.mul_comm _ _)).trans (Int.natCast_mul _ _).symm
 |c x=>exact LP.ev_num _
theorem CF.pi_ok(e:CF):e.pi.ev ns is=e.di ns is:=by
 induction e with
 |v i=>exact(Int.zero_add _).trans ((Int.zero_add _).trans (Je i _))
 |k n=>exact LP.ev_num _
 |a x y ih1 ih2=>exact(LP.ev_add _ _).trans (congr (congrArg _ ih1) ih2)
 |s x y ih1 ih2=>exact(LP.ev_add _ _).trans (congr (congrArg _ ih1) ((LP.ev_mul _ _).trans ((congrArg _ ih2).trans (Int.neg_one_mul _))))
 |g x ih=>exact(LP.ev_mul _ _).trans ((congrArg _ ih).trans (Int.neg_one_mul _))
 |m n x ih=>exact(LP.ev_mul _ _).trans (congrArg _ ih)
 |w x n ih=>exact((LP.ev_mul _ _).trans (congrArg _ ih)).trans (Int.mul_comm _ _)
 |c x=>exact CF.pn_ok x
end
def Eo(x y:LP)(k:Int):LP:=y.add (LP.add (.mul (-1) x) (.num k))
def EM.np(f:EM):LP:=@EM.casesOn (fun _=>LP) f (fun x y=>Eo y.pn x.pn (-1)) (fun x y=>Eo y.pn x.pn 0) (fun _ _=> .num 0) (fun x y=>Eo y.pi x.pi (-1)) (fun x y=>Eo y.pi x.pi 0) (fun _ _=> .num 0) (fun _=> .num 0)
def EM.p(f:EM):LP:=@EM.casesOn (fun _=>LP) f (fun x y=>Eo x.pn y.pn 0) (fun x y=>Eo x.pn y.pn (-1)) (fun x y=>Eo x.pn y.pn 0) (fun x y=>Eo x.pi y.pi 0) (fun x y=>Eo x.pi y.pi (-1)) (fun x y=>Eo x.pi y.pi 0) (fun f=>f.np)
noncomputable def EM.q(f:EM):Bool:=@EM.casesOn (fun _=>Bool) f (fun _ _=>false) (fun _ _=>false) (fun _ _=>true) (fun _ _=>false) (fun _ _=>false) (fun _ _=>true) (fun _=>false)
section
variable{ns:List Nat}{is:List Int}
theorem IZ{x y:LP}{a b:Int}(k:Int)(hx:x.ev ns is=a)(hy:y.ev ns is=b):(Eo x y k).ev ns is=b - a+k:=by
 unfold Eo
 rw[LP.ev_add,LP.ev_add,LP.ev_mul,LP.ev_num,hx,hy,Int.neg_one_mul,←Int.add_assoc];rfl
theorem Ib{x y:LP}{a b:Int}(hx:x.ev ns is=a)(hy:y.ev ns is=b)(h:a≤b):0≤(Eo x y 0).ev ns is:=by
 rw[IZ 0 hx hy,Int.add_zero];exact Int.sub_nonneg_of_le h
theorem Ia{x y:LP}{a b:Int}(hx:x.ev ns is=a)(hy:y.ev ns is=b)(h:a<b):0≤(Eo x y (-1)).ev ns is:=by
 rw[IZ (-1) hx hy];exact Int.le_sub_one_of_lt (Int.sub_pos_of_lt h)
theorem IY{x y:LP}{a b:Int}(hx:x.ev ns is=a)(hy:y.ev ns is=b)(h:a=b):(Eo x y 0).ev ns is=0:=by
 rw[IZ 0 hx hy,h,Int.add_zero,Int.sub_self]
theorem OA:0≤(LP.num 0).ev ns is:=by rw[LP.ev_num];exact Int.le_refl 0
theorem EM.np_ok(f:EM)(h:¬f.den ns is):0≤f.np.ev ns is:=by
 cases f with
 |nl x y=>exact Ia y.pn_ok x.pn_ok (Int.ofNat_lt.mpr (Nat.lt_of_not_le h))
 |nt x y=>exact Ib y.pn_ok x.pn_ok (Int.ofNat_le.mpr (Nat.le_of_not_lt h))
 |il x y=>exact Ia y.pi_ok x.pi_ok (Int.lt_of_not_ge h)
 |it x y=>exact Ib y.pi_ok x.pi_ok (Int.not_lt.mp h)
 |_=>exact OA
theorem EM.p_ok(f:EM)(h:f.den ns is):0≤f.p.ev ns is:=by
 cases f with
 |nl x y=>exact Ib x.pn_ok y.pn_ok (Int.ofNat_le.mpr h)
 |nt x y=>exact Ia x.pn_ok y.pn_ok (Int.ofNat_lt.mpr h)
 |ne x y=>exact Int.le_of_eq (IY x.pn_ok y.pn_ok (congrArg Int.ofNat h)).symm
 |il x y=>exact Ib x.pi_ok y.pi_ok h
 |it x y=>exact Ia x.pi_ok y.pi_ok h
 |ie x y=>exact Int.le_of_eq (IY x.pi_ok y.pi_ok h).symm
 |no f=>exact f.np_ok h
theorem EM.q_ok(f:EM)(hq:f.q=true)(h:f.den ns is):f.p.ev ns is=0:=by
 cases f with
 |ne x y=>exact IY x.pn_ok y.pn_ok (congrArg Int.ofNat h)
 |ie x y=>exact IY x.pi_ok y.pi_ok h
 |_=>cases hq
end
def F8(fs:List EM):List Int→LP:=@List.rec EM (fun _=>List Int→LP) (fun _=> .num 0) (fun f _ r cs=> @List.casesOn Int (fun _=>LP) cs (.num 0) fun c cs=>(LP.mul c f.p).add (r cs)) fs
def OP(fs:List EM):List Int→Bool:=@List.rec EM (fun _=>List Int→Bool) (fun _=>true) (fun f _ r cs=> @List.casesOn Int (fun _=>Bool) cs true fun c cs=>(f.q||decide (0≤c))&&r cs) fs
noncomputable def G0(p:LP):Bool:=decide (p.c<0)&&(p.n.all (fun c=>decide (c≤0))&&p.i.all (fun c=>decide (c=0)))
section
variable{ns:List Nat}{is:List Int}
theorem Qn{p:Prop}(fs:List EM):∀cs:List Int,OP fs cs=true→(0≤(F8 fs cs).ev ns is→p)→Pk ns is fs p:=by
 induction fs with
 |nil=>exact fun _ _ k=>k OA
 |cons f fs ih=>
  intro cs h k hf
  cases cs with
  |nil=>exact ih [] (by cases fs<;>rfl) fun _=>k OA
  |cons c cs=>
   have h:=AZ h
   refine ih cs h.2 fun h'=>k ?_
   show 0≤((LP.mul c f.p).add (F8 fs cs)).ev ns is
   rw[LP.ev_add,LP.ev_mul]
   refine Int.add_nonneg ?_ h'
   rcases Bool.or_eq_true_iff.mp h.1 with q|q
   ·rw[f.q_ok q hf,Int.mul_zero];exact Int.le_refl 0
   ·exact Int.mul_nonneg (of_decide_eq_true q) (f.p_ok hf)
theorem Vm(p:List Int):∀x:Nat→Nat,p.all (fun c=>decide (c≤0))=true→Gz p (fun j=>(x j:Int))≤0:=by
 induction p with
 |nil=>exact fun _ _=>Int.le_refl 0
 |cons a p ih=>exact fun x h=>
   have h:=AZ h
   Int.add_le_add (Int.mul_nonpos_of_nonpos_of_nonneg (of_decide_eq_true h.1) (Int.natCast_nonneg _)) (ih (fun j=>x (j+1)) h.2)
theorem rR(p:List Int):∀x:Nat→Int,p.all (fun c=>decide (c=0))=true→Gz p x=0:=by
 induction p with
 |nil=>exact fun _ _=>rfl
 |cons a p ih=>
  intro x h
  have h:=AZ h
  show a*x 0+Gz p _=0
  rw[ih _ h.2,of_decide_eq_true h.1,Int.zero_mul];rfl
theorem Qu{p:LP}(h:G0 p=true)(k:0≤p.ev ns is):False:=by
 have h:=AZ h
 have h2:=AZ h.2
 have e:p.ev ns is=p.c+(Gz p.n (fun j=>(ui ns j:Int))+0):=congrArg (fun z=>p.c+(Gz p.n (fun j=>(ui ns j:Int))+z)) (rR p.i _ h2.2)
 rw[e,Int.add_zero] at k
 exact absurd k (Int.not_le.mpr (Int.add_neg_of_neg_of_nonpos (of_decide_eq_true h.1) (Vm p.n _ h2.1)))
theorem DF(ns:List Nat)(is:List Int)(fs:List EM)(cs:List Int)(h:(OP fs cs&&G0 (F8 fs cs))=true):Pk ns is fs False:=
 have h:=AZ h
 Qn fs cs h.1 (Qu h.2)
theorem rq{p q:Prop}(fs:List EM)(k:p→q):Pk ns is fs p→Pk ns is fs q:=by
 induction fs with
 |nil=>exact k
 |cons f fs ih=>exact fun h hf=>ih (h hf)
theorem rt{p:Prop}(fs:List EM)(k:p):Pk ns is fs p:=by
 induction fs with
 |nil=>exact k
 |cons f fs ih=>exact fun _=>ih
theorem AK(ns:List Nat)(is:List Int)(fs:List EM)(g:EM)(cs:List Int)(h:(OP (.no g::fs) cs&&G0 (F8 (.no g::fs) cs))=true):Pk ns is fs (g.den ns is):=by
 by_cases q:g.den ns is
 ·exact rt fs q
 ·exact rq fs fE (DF ns is (.no g::fs) cs h q)
theorem SW{p q r:Prop}(fs:List EM)(k:p→q→r):Pk ns is fs p→Pk ns is fs q→Pk ns is fs r:=by
 induction fs with
 |nil=>exact k
 |cons f fs ih=>exact fun a b h=>ih (a h) (b h)
theorem Ka(ns:List Nat)(is:List Int)(fs:List EM)(x y:CF)(cs cs':List Int)(h:((OP (.no (.il x y)::fs) cs&&G0 (F8 (.no (.il x y)::fs) cs))&&(OP (.no (.il y x)::fs) cs'&&G0 (F8 (.no (.il y x)::fs) cs')))=true):Pk ns is fs (x.di ns is=y.di ns is):=
 have h:=AZ h
 SW fs zA (AK ns is fs (.il x y) cs h.1) (AK ns is fs (.il y x) cs' h.2)
theorem DM(ns:List Nat)(is:List Int)(fs:List EM)(x y:CF)(cs cs':List Int)(h:((OP (.no (.nl x y)::fs) cs&&G0 (F8 (.no (.nl x y)::fs) cs))&&(OP (.no (.nl y x)::fs) cs'&&G0 (F8 (.no (.nl y x)::fs) cs')))=true):Pk ns is fs (x.dn ns=y.dn ns):=
 have h:=AZ h
 SW fs nQ (AK ns is fs (.nl x y) cs h.1) (AK ns is fs (.nl y x) cs' h.2)
theorem HX(ns:List Nat)(is:List Int)(x y:CF)(h:((OP [.no (.il x y)] [1]&&G0 (F8 [.no (.il x y)] [1]))&&(OP [.no (.il y x)] [1]&&G0 (F8 [.no (.il y x)] [1])))=true):x.di ns is=y.di ns is:=Ka ns is [] x y [1] [1] h
theorem Sa(ns:List Nat)(is:List Int)(x y:CF)(h:((OP [.no (.nl x y)] [1]&&G0 (F8 [.no (.nl x y)] [1]))&&(OP [.no (.nl y x)] [1]&&G0 (F8 [.no (.nl y x)] [1])))=true):x.dn ns=y.dn ns:=DM ns is [] x y [1] [1] h
end
end
section
noncomputable abbrev P0:Program:=PySem.Challenge.pw_ll0006_01
noncomputable abbrev S(x:String):Str:=Str.ofString x
noncomputable abbrev N:Value:= .none
noncomputable abbrev R(a:Nat):Value:= .ref a
noncomputable def E(P:Params)(x:Str)(t:Nat)(v:Value):DictEntry:=⟨PyData.keyHash P x,.str x t,v⟩
noncomputable def AH(i:Nat):Stmt:=(P0.main.body[i]?).getD default
noncomputable def rI(i j:Nat):Stmt:=match AH i with
 | .ClassDef _ _ _ b .. =>(b[j]?).getD default
 |_=>default
noncomputable def fnB(s:Stmt):FuncBody:=match s with
 | .FunctionDef _ _ b .. => .stmts b
 |_=> .stmts []
noncomputable def zj(s:Stmt):Arguments:=match s with
 | .FunctionDef _ a .. =>a
 |_=>default
noncomputable def zi(s:Stmt):Scope:=match s with
 | .FunctionDef _ _ _ _ _ _ sc .. =>sc
 |_=>default
noncomputable def T(i:Nat):Stmt:=AH i
noncomputable def M(i j:Nat):Stmt:=rI i j
noncomputable def FN(s:Stmt)(name qual:Str)(g:Nat)(clo:List (Str×Nat))(d k doc m:Value)(an:Option Nat)(code ct:Value)(bl:Nat):Data:=
 .func {name,qualname:=qual,params:=zj s,body:=fnB s,scope:=zi s,globals:=g,closure:=clo,defaults:=d,kwdefaults:=k,doc,pyModule:=m,annotations:=an,code,closureTuple:=ct,builtins:=bl}
noncomputable def CL(name:Str)(bases mro:List Value)(ns:Nat)(qual:Str)(hd:Bool)(sn:List Str)(sub:List Value)(ab:Bool)(coll:Option Bool)(del:Bool):Data:=
 .cls {name,bases,mro,ns,qualname:=qual,hasDict:=hd,slotNames:=sn,subclasses:=sub,abstract:=ab,collection:=coll,hasDel:=del}
structure MS where
 T:BT
 old:List (Nat×Obj)
 m:Nat
 gens:Array GenState
 drawn:Drawn
 toks:Nat
 os:OsState
def DD(l:List (Nat×Obj))(a:Nat):Option Obj:=
 @List.rec (Nat×Obj) (fun _=>Option Obj) none (fun p _ ih=> @Bool.rec (fun _=>Option Obj) ih (some p.2) (Nat.beq p.1 a)) l
def DW(l:List (Nat×Obj))(a:Nat)(o:Obj):List (Nat×Obj):=
 @List.rec (Nat×Obj) (fun _=>List (Nat×Obj)) [(a,o)] (fun p r ih=> @Bool.rec (fun _=>List (Nat×Obj)) (p::ih) ((a,o)::r) (Nat.beq p.1 a)) l
def BX(nk:Nat)(base:Nat→Option Obj)(s:MS)(a:Nat):Option Obj:=
 @Bool.rec (fun _=>Option Obj) (@Bool.rec (fun _=>Option Obj) none (s.T.get (a - nk)) (Nat.blt (a - nk) s.m)) (@Option.rec Obj (fun _=>Option Obj) (base a) (fun o=>some o) (DD s.old a)) (Nat.blt a nk)
def Fq(stp:Shared→Thread→Step)(nk:Nat)(base:Nat→Option Obj)(s:MS)(t:Thread):Option (MS×Thread):=match t with
 |⟨cur,code,pos,stack⟩=>match cur with
  | .load a _ k=>match BX nk base s a with
   |some o=>match alive o with
    |some o'=>some (s,⟨k o',code,pos,stack⟩)
    |none=>none
   |none=>none
  | .update a _ f k=>match BX nk base s a with
   |some o=>match alive o with
    |some _=>match Nat.blt a nk with
     |true=>some ({s with old:=DW s.old a (f o)},⟨k (),code,pos,stack⟩)
     |false=>some ({s with T:=s.T.set (a - nk) f},⟨k (),code,pos,stack⟩)
    |none=>none
   |none=>none
  | .alloc o k=>match((s.T.ins s.m o).get s.m).isSome with
   |true=>some ({s with T:=s.T.ins s.m o,m:=s.m+1},⟨k (nk+s.m),code,pos,stack⟩)
   |false=>none
  | .loadIfAlive a k=>match BX nk base s a with
   |some o=>some (s,⟨k (alive o),code,pos,stack⟩)
   |none=>none
  |c=>match stp ⟨{},s.gens,s.drawn,s.toks,s.os⟩ ⟨c,code,pos,stack⟩ with
   | .go s' t'=>some ({s with gens:=s'.gens,drawn:=s'.drawn,toks:=s'.toks,os:=s'.os},t')
   | .halt _ _=>none
def MQ(sok:Nat→Option Value→Thread→Bool)(stp:Shared→Thread→Step)(n₀:Nat)(ann:Option Value)(nk:Nat)(base:Nat→Option Obj)(n:Nat):MS→Thread→Option (Flow×MS×Code×Pos):=
 @Nat.rec (fun _=>MS→Thread→Option (Flow×MS×Code×Pos)) (fun _ _=>none)
  (fun _ ih s t=>match endAt 1 t with
   |some f=>some (f,s,t.code,t.pos)
   |none=>match sok n₀ ann t with
    |false=>none
    |true=>match Fq stp nk base s t with
     |some (s',t')=>ih s' t'
     |none=>none) n
/-! what it says of the machine -/
theorem B5(p:Nat×Obj)(l:List (Nat×Obj))(a:Nat):DD (p::l) a=if p.1=a then some p.2 else DD l a:=by
 show@Bool.rec (fun _=>Option Obj) (DD l a) (some p.2) (Nat.beq p.1 a)=_
 rw[BT.beq_eq]
 by_cases h:p.1=a<;>simp[h]
theorem JR(p:Nat×Obj)(l:List (Nat×Obj))(a:Nat)(o:Obj):DW (p::l) a o=if p.1=a then(a,o)::l else p::DW l a o:=by
 show@Bool.rec (fun _=>List (Nat×Obj)) (p::DW l a o) ((a,o)::l) (Nat.beq p.1 a)=_
 rw[BT.beq_eq]
 by_cases h:p.1=a<;>simp[h]
theorem Gk(l:List (Nat×Obj))(a:Nat)(o:Obj)(b:Nat):DD (DW l a o) b=if b=a then some o else DD l b:=by
 induction l with
 |nil=>
  show DD [(a,o)] b=_
  rw[B5]
  by_cases h:a=b
  ·simp[h]
  ·rw[if_neg h,if_neg (Ne.symm h)]
 |cons p l ih=>
  rw[JR]
  by_cases h:p.1=a
  ·rw[if_pos h,B5,B5]
   by_cases q:a=b
   ·simp[q]
   ·have:p.1≠b:=h▸q
    rw[if_neg q,if_neg (Ne.symm q),if_neg this]
  ·rw[if_neg h,B5,B5,ih]
   by_cases q:p.1=b
   ·have:b≠a:=q▸h
    rw[if_pos q,if_pos q,if_neg this]
   ·rw[if_neg q,if_neg q]
theorem PC(a b:Nat):Nat.blt a b=decide (a<b):=by
 by_cases h:a<b
 ·rw[decide_eq_true h];exact Nat.ble_eq_true_of_le h
 ·rw[decide_eq_false h]
  cases q:Nat.blt a b with
  |false=>rfl
  |true=>exact absurd (Nat.le_of_ble_eq_true q) h
theorem Bk(nk:Nat)(base:Nat→Option Obj)(s:MS)(a:Nat):
  BX nk base s a=if a<nk then(match DD s.old a with|some o=>some o|none=>base a) else if a - nk<s.m then s.T.get (a - nk) else none:=by
 unfold BX
 rw[PC,PC]
 by_cases h:a<nk
 ·rw[decide_eq_true h,if_pos h]
  cases DD s.old a<;>rfl
 ·rw[decide_eq_false h,if_neg h]
  by_cases q:a - nk<s.m
  ·rw[decide_eq_true q,if_pos q]
  ·rw[decide_eq_false q,if_neg q]
def DI(nk:Nat)(base:Nat→Option Obj)(s:MS):Array Obj:=((List.range (nk+s.m)).map fun a=>(BX nk base s a).getD default).toArray
def BR(nk:Nat)(base:Nat→Option Obj)(life:Life)(s:MS):Shared:=⟨⟨DI nk base s,life⟩,s.gens,s.drawn,s.toks,s.os⟩
section
variable{nk:Nat}{base:Nat→Option Obj}{life:Life}{s:MS}{a:Nat}{o:Obj}
theorem Dh:(DI nk base s)[a]? =if a<nk+s.m then some ((BX nk base s a).getD default) else none:=by
 unfold DI
 rw[List.getElem?_toArray,List.getElem?_map]
 by_cases h:a<nk+s.m
 ·rw[List.getElem?_range h,if_pos h];rfl
 ·rw[List.getElem?_eq_none (by rw[List.length_range];exact AK [_,_,_] [] [.no (.nt AT (.a AA v1))] (.nl (.a AA v1) AT) [1,1] rfl h),if_neg h];rfl
theorem IA:(DI nk base s).size=nk+s.m:=by
 unfold DI
 rw[List.size_toArray,List.length_map,List.length_range]
theorem GH(h:BX nk base s a=some o):a<nk+s.m:=by
 rw[Bk] at h
 by_cases q:a<nk
 ·exact AK [_,_,_] [] [.nt AA v1] (.nt AA (.a v1 AT)) [1,1] rfl q
 ·rw[if_neg q] at h
  by_cases r:a - nk<s.m
  ·exact AK [_,_,_,_] [] [.nt v3 AT,.ne (.a v3 v1) AA] (.nt AA (.a v1 AT)) [1,1, -1] rfl r (Ej (AK [_,_] [] [.no (.nt v1 AA)] (.nl AA v1) [1,1] rfl q))
  ·rw[if_neg r] at h;cases h
theorem FQ(h:BX nk base s a=some o):(⟨DI nk base s,life⟩:Heap).get? a=alive o:=by
 unfold Heap.get?
 rw[Dh,if_pos (GH h),h]
 show(match some o with|some ⟨_,_,.freed,_⟩=>none|o=>o)=alive o
 obtain⟨c,d,dt,sl⟩:=o
 cases dt<;>rfl
theorem Rj{f:Obj→Obj}(h:BX nk base s a=some o)(ha:a<nk):DI nk base {s with old:=DW s.old a (f o)}=(DI nk base s).modify a f:=by
 apply Array.ext_getElem?
 intro i
 rw[Array.getElem?_modify,Dh,Dh]
 show(if i<nk+s.m then some ((BX nk base {s with old:=DW s.old a (f o)} i).getD default) else none)=_
 by_cases e:a=i
 ·subst e
  rw[if_pos rfl,if_pos (GH h),if_pos (GH h),h,Bk,if_pos ha]
  simp[Gk]
 ·rw[if_neg e]
  have:BX nk base {s with old:=DW s.old a (f o)} i=BX nk base s i:=by
   rw[Bk,Bk]
   simp only[Gk,if_neg (Ne.symm e)]
  rw[this]
theorem Rk{f:Obj→Obj}(h:BX nk base s a=some o)(ha:¬a<nk):DI nk base {s with T:=s.T.set (a - nk) f}=(DI nk base s).modify a f:=by
 have hl:=GH h
 have hT:s.T.get (a - nk)=some o:=by
  rw[Bk,if_neg ha,if_pos (by exact AK [_,_,_,_] [] [.nt AT (.a v3 v1),.ne (.a AA v3) AT] (.nt AA v1) [1,1,1] rfl hl (Ej (AK [_,_] [] [.no (.nt v1 AA)] (.nl AA v1) [1,1] rfl ha)))] at h;exact h
 apply Array.ext_getElem?
 intro i
 rw[Array.getElem?_modify,Dh,Dh]
 show(if i<nk+s.m then some ((BX nk base {s with T:=s.T.set (a - nk) f} i).getD default) else none)=_
 by_cases e:a=i
 ·subst e
  rw[if_pos rfl,if_pos hl,if_pos hl,h,Bk,if_neg ha,if_pos (by show a - nk<s.m;exact AK [_,_,_,_] [] [.nt AT (.a v3 v1),.ne (.a AA v3) AT] (.nt AA v1) [1,1,1] rfl hl (Ej (AK [_,_] [] [.no (.nt v1 AA)] (.nl AA v1) [1,1] rfl ha))),BT.get_set,if_pos rfl,hT]
  rfl
 ·rw[if_neg e]
  have:BX nk base {s with T:=s.T.set (a - nk) f} i=BX nk base s i:=by
   rw[Bk,Bk]
   by_cases q:i<nk
   ·rw[if_pos q,if_pos q]
   ·rw[if_neg q,if_neg q]
    show(if i - nk<s.m then(s.T.set (a - nk) f).get (i - nk) else none)=_
    have e2:i - nk≠a - nk:=fun z=>e (by rw[←Ej (Nat.le_of_not_lt ha),←z,Ej (Nat.le_of_not_lt q)])
    rw[BT.get_set,if_neg e2]
  rw[this]
theorem PK(h:((s.T.ins s.m o).get s.m).isSome=true):DI nk base {s with T:=s.T.ins s.m o,m:=s.m+1}=(DI nk base s).push o:=by
 apply Array.ext_getElem?
 intro i
 rw[Array.getElem?_push,Dh,Dh,IA]
 show(if i<nk+(s.m+1) then some ((BX nk base {s with T:=s.T.ins s.m o,m:=s.m+1} i).getD default) else none)=_
 have key:BX nk base {s with T:=s.T.ins s.m o,m:=s.m+1} i=if i=nk+s.m then some o else BX nk base s i:=by
  rw[Bk,Bk]
  by_cases q:i<nk
  ·rw[if_pos q,if_pos q,if_neg fun z:i=nk+s.m=>Nat.lt_irrefl _ (Nat.lt_of_le_of_lt (Nat.le_add_right nk s.m) (z▸q))]
  ·rw[if_neg q,if_neg q]
   show(if i - nk<s.m+1 then(s.T.ins s.m o).get (i - nk) else none)=_
   rw[BT.get_ins o s.T s.m h]
   by_cases e:i=nk+s.m
   ·rw[if_pos e,if_pos (by exact AK [_,_,_,_] [] [.ne AT (.a v3 v1),.ne (.a AA v3) AT] (.nt AA (.a v1 AO)) [1,1,1] rfl e (Ej (AK [_,_] [] [.no (.nt v1 AA)] (.nl AA v1) [1,1] rfl q))),if_pos (by exact DM [_,_,_,_] [] [.ne AT (.a v3 v1),.ne (.a AA v3) AT] AA v1 [1,1,1] [1, -1, -1] rfl e (Ej (AK [_,_] [] [.no (.nt v1 AA)] (.nl AA v1) [1,1] rfl q)))]
   ·rw[if_neg e]
    by_cases r:i - nk<s.m
    ·rw[if_pos (by exact AK [_,_] [] [.nt AA v1] (.nt AA (.a v1 AO)) [1,1] rfl r),if_neg (by exact fun q=>DF [_,_] [] [.ne AA v1,.nt AA v1] [-1,1] rfl q r),if_pos r]
    ·rw[if_neg r,if_neg fun z:i - nk<s.m+1=>e (by rw[←nQ (Nat.le_of_lt_succ z) (Nat.le_of_not_lt r),Nat.add_sub_cancel' (Nat.le_of_not_lt q)])]
 rw[key]
 by_cases e:i=nk+s.m
 ·simp[e]
 ·by_cases r:i<nk+s.m
  ·rw[if_neg e,if_pos r,if_pos (by exact AK [_,_,_] [] [.nt AA (.a v1 AT)] (.nt AA (.a v1 (.a AT AO))) [1,1] rfl r),if_neg e]
  ·have e2:¬i<nk+(s.m+1):=fun z:i<nk+s.m+1=>e (nQ (Nat.le_of_lt_succ z) (Nat.le_of_not_lt r))
   simp[e,r,e2]
end
section
variable{tb:String→Option Builtin}{p:Program}{w:World}{nk:Nat}{base:Nat→Option Obj}{life:Life}
theorem E9{α β:Type}{o:Option α}{f:α→Option β}{y:β}(h: @Option.casesOn α (fun _=>Option β) o none f=some y):∃x,o=some x∧f x=some y:=by
 cases o with
 |none=>exact nomatch h
 |some x=>exact⟨x,rfl,h⟩
theorem zg{α:Type}{o:Option α}{x:α}{f:α→Step}{n:Step}(h:o=some x): @Option.casesOn α (fun _=>Step) o n f=f x:=by subst h;rfl
theorem Vr{c:Bool}{x y:Step}(h:c=true):(if c=true then x else y)=x:=by rw[h];rfl
section
variable{s s':MS}{t':Thread}{a:Nat}{code:Code}{pos:Pos}{stack:List PySem.Frame}
theorem ML{q:Option Value}{k:Obj→Sem Fin}(h:Fq (step (denote tb) p w) nk base s ⟨.load a q k,code,pos,stack⟩=some (s',t')):step (denote tb) p w (BR nk base life s) ⟨.load a q k,code,pos,stack⟩= .go (BR nk base life s') t':=by
 obtain⟨o,g,h⟩:=E9 (Eq.trans (by kernel_rfl: @Option.casesOn Obj (fun _=>Option (MS×Thread)) (BX nk base s a) none (fun o=> @Option.casesOn Obj (fun _=>Option (MS×Thread)) (alive o) none fun o'=>some (s,⟨k o',code,pos,stack⟩))=_) h)
 obtain⟨o',al,h⟩:=E9 h
 obtain⟨rfl,rfl⟩:=Prod.mk.inj (oJ h)
 show step (denote tb) p w ⟨⟨DI nk base s,life⟩,s.gens,s.drawn,s.toks,s.os⟩ ⟨.load a q k,code,pos,stack⟩=_
 simp only[step,FQ g,al]
 rfl
theorem KH{k:Option Obj→Sem Fin}(h:Fq (step (denote tb) p w) nk base s ⟨.loadIfAlive a k,code,pos,stack⟩=some (s',t')):step (denote tb) p w (BR nk base life s) ⟨.loadIfAlive a k,code,pos,stack⟩= .go (BR nk base life s') t':=by
 obtain⟨o,g,h⟩:=E9 (Eq.trans (by kernel_rfl: @Option.casesOn Obj (fun _=>Option (MS×Thread)) (BX nk base s a) none (fun o=>some (s,⟨k (alive o),code,pos,stack⟩))=_) h)
 obtain⟨rfl,rfl⟩:=Prod.mk.inj (oJ h)
 rw[←FQ (life:=life) g]
 rfl
theorem KG{o:Obj}{k:Nat→Sem Fin}(h:Fq (step (denote tb) p w) nk base s ⟨.alloc o k,code,pos,stack⟩=some (s',t')):step (denote tb) p w (BR nk base life s) ⟨.alloc o k,code,pos,stack⟩= .go (BR nk base life s') t':=by
 have h:=Eq.trans (by kernel_rfl: @Bool.casesOn (fun _=>Option (MS×Thread)) ((s.T.ins s.m o).get s.m).isSome none (some ({s with T:=s.T.ins s.m o,m:=s.m+1},⟨k (nk+s.m),code,pos,stack⟩))=_) h
 cases e:((s.T.ins s.m o).get s.m).isSome with
 |false=>rw[e] at h;exact nomatch h
 |true=>
  rw[e] at h
  obtain⟨rfl,rfl⟩:=Prod.mk.inj (oJ h)
  show Step.go ⟨⟨(DI nk base s).push o,life⟩,s.gens,s.drawn,s.toks,s.os⟩ ⟨k (DI nk base s).size,code,pos,stack⟩=Step.go ⟨⟨DI nk base {s with T:=s.T.ins s.m o,m:=s.m+1},life⟩,s.gens,s.drawn,s.toks,s.os⟩ _
  rw[PK e,IA]
theorem JE{q:Option Value}{f:Obj→Obj}{k:Unit→Sem Fin}(h:Fq (step (denote tb) p w) nk base s ⟨.update a q f k,code,pos,stack⟩=some (s',t')):step (denote tb) p w (BR nk base life s) ⟨.update a q f k,code,pos,stack⟩= .go (BR nk base life s') t':=by
 obtain⟨o,g,h⟩:=E9 (Eq.trans (by kernel_rfl: @Option.casesOn Obj (fun _=>Option (MS×Thread)) (BX nk base s a) none (fun o=> @Option.casesOn Obj (fun _=>Option (MS×Thread)) (alive o) none fun _=> @Bool.casesOn (fun _=>Option (MS×Thread)) (Nat.blt a nk) (some ({s with T:=s.T.set (a - nk) f},⟨k (),code,pos,stack⟩)) (some ({s with old:=DW s.old a (f o)},⟨k (),code,pos,stack⟩)))=_) h)
 obtain⟨o',al,h⟩:=E9 h
 have hs:((⟨DI nk base s,life⟩:Heap).get? a).isSome=true:=by rw[FQ g,al];rfl
 refine Eq.trans (b:=Step.go ⟨⟨(DI nk base s).modify a f,life⟩,s.gens,s.drawn,s.toks,s.os⟩ ⟨k (),code,pos,stack⟩) (Vr hs) ?_
 cases e:Nat.blt a nk with
 |true=>
  rw[e] at h
  obtain⟨rfl,rfl⟩:=Prod.mk.inj (oJ h)
  rw[←Rj g (Nat.le_of_ble_eq_true e)]
  rfl
 |false=>
  rw[e] at h
  obtain⟨rfl,rfl⟩:=Prod.mk.inj (oJ h)
  rw[←Rk g fun q=>by rw[show Nat.blt a nk=true from Nat.ble_eq_true_of_le q] at e;exact nomatch e]
  rfl
theorem MM{cur:Sem Fin}(h1:∀a q k,cur≠.load a q k)(h2:∀a q f k,cur≠.update a q f k)(h3:∀o k,cur≠.alloc o k)(h4:∀a k,cur≠.loadIfAlive a k)
  (h:(match step (denote tb) p w ⟨{},s.gens,s.drawn,s.toks,s.os⟩ ⟨cur,code,pos,stack⟩ with
   | .go s' t'=>some ({s with gens:=s'.gens,drawn:=s'.drawn,toks:=s'.toks,os:=s'.os},t')
   | .halt _ _=>none)=some (s',t')):step (denote tb) p w (BR nk base life s) ⟨cur,code,pos,stack⟩= .go (BR nk base life s') t':=by
 cases q:step (denote tb) p w ⟨{},s.gens,s.drawn,s.toks,s.os⟩ ⟨cur,code,pos,stack⟩ with
 |halt o s=>rw[q] at h;exact nomatch h
 |go s₀ t₀=>
  rw[q] at h
  obtain⟨rfl,rfl⟩:=Prod.mk.inj (oJ h)
  exact step_heap h1 h2 h3 h4 q
end
theorem KE{s s':MS}{t t':Thread}(h:Fq (step (denote tb) p w) nk base s t=some (s',t')):step (denote tb) p w (BR nk base life s) t= .go (BR nk base life s') t':=by
 obtain⟨cur,code,pos,stack⟩:=t
 cases cur with
 |load a q k=>exact ML h
 |update a q f k=>exact JE h
 |alloc o k=>exact KG h
 |loadIfAlive a k=>exact KH h
 |_=>exact MM (fun _ _ _ e=>nomatch e) (fun _ _ _ _ e=>nomatch e) (fun _ _ e=>nomatch e) (fun _ _ e=>nomatch e) h
theorem MP{n₀:Nat}{ann:Option Value}{n:Nat}:∀{s s':MS} {t:Thread} {f:Flow} {c:Code} {q:Pos},MQ stepOk (step (denote tb) p w) n₀ ann nk base n s t=some (f,s',c,q)→segRun tb p w n₀ ann 1 n (BR nk base life s) t=some (f,BR nk base life s',c,q):=by
 induction n with
 |zero=>exact fun h=>nomatch h
 |succ n ih=>
  intro s s' t f c q h
  have h:(match endAt 1 t with
   |some f=>some (f,s,t.code,t.pos)
   |none=>match stepOk n₀ ann t with
    |false=>none
    |true=>match Fq (step (denote tb) p w) nk base s t with
     |some (s',t')=>MQ stepOk (step (denote tb) p w) n₀ ann nk base n s' t'
     |none=>none)=some (f,s',c,q):=h
  unfold segRun
  cases he:endAt 1 t with
  |some x=>rw[he] at h;cases h;rfl
  |none=>
   rw[he] at h
   cases hk:stepOk n₀ ann t with
   |false=>rw[hk] at h;exact nomatch h
   |true=>
    rw[hk] at h
    cases hs:Fq (step (denote tb) p w) nk base s t with
    |none=>rw[hs] at h;exact nomatch h
    |some r=>rw[hs] at h;rw[KE (life:=life) (s':=r.1) (t':=r.2) hs];exact ih h
end
abbrev tH:=Flow×List (Option Obj)×List (Option Obj)×Bool×Nat×Array GenState×Drawn×Nat×OsState×Code×Pos
def Hn(nk:Nat)(base:Nat→Option Obj)(m:Nat)(K:List Nat)(r:Flow×MS×Code×Pos):tH:=
 (r.1,(List.range m).map (fun i=>BX nk base r.2.1 (nk+i)),K.map (BX nk base r.2.1),r.2.1.old.all (fun p=>K.any fun a=>Nat.beq a p.1),r.2.1.m,r.2.1.gens,r.2.1.drawn,r.2.1.toks,r.2.1.os,r.2.2)
def Hk(f:Flow)(nk:Nat)(base:Nat→Option Obj)(m:Nat)(K:List Nat)(s':MS)(c:Code)(q:Pos):tH:=
 (f,(List.range m).map (fun i=>BX (nk+m) base s' (nk+i)),K.map (BX (nk+m) base s'),s'.old.all (fun p=>Nat.ble nk p.1||K.any fun a=>Nat.beq a p.1),m,s'.gens,s'.drawn,s'.toks,s'.os,c,q)
theorem Fu{l:List (Nat×Obj)}{a:Nat}(h:∀p∈l,p.1≠a):DD l a=none:=by
 induction l with
 |nil=>rfl
 |cons p l ih=>rw[B5,if_neg (h p (.head _)),ih fun q hq=>h q (.tail _ hq)]
theorem Nd{nk m:Nat}{base:Nat→Option Obj}{life:Life}{K:List Nat}{r:Flow×MS×Code×Pos}{s':MS}{c:Code}{q:Pos}{f:Flow}(hm:s'.m=0)
  (e:Hn nk base m K r=Hk f nk base m K s' c q) (hall:s'.old.all (fun p=>Nat.ble nk p.1||K.any fun a=>Nat.beq a p.1)=true):
  r.1=f∧BR nk base life r.2.1=BR (nk+m) base life s'∧r.2.2=(c,q):=by
 obtain⟨fl,s,cq⟩:=r
 simp only[Hn,Hk,Prod.mk.injEq] at e
 obtain⟨e1,e2,e3,e4,e5,e6,e7,e8,e9,e10⟩:=e
 refine⟨e1,?_,e10⟩
 have hO:DI nk base s=DI (nk+m) base s':=by
  unfold DI
  rw[e5,hm,Nat.add_zero]
  congr 1
  apply List.map_congr_left
  intro a ha
  have ha:a<nk+m:=List.mem_range.mp ha
  congr 1
  by_cases h:a<nk
  ·by_cases hk:a∈K
   ·exact List.map_inj_left.mp e3 a hk
   ·rw[Bk,Bk,if_pos h,if_pos ha]
    rw[hall] at e4
    rw[Fu (l:=s.old),Fu (l:=s'.old)]
    ·intro p hp he
     have:=List.all_eq_true.mp hall p hp
     simp only[Bool.or_eq_true,List.any_eq_true] at this
     rcases this with q|⟨x,hx,q⟩
     ·have:=Nat.le_of_ble_eq_true q;exact DF [_,_,_] [] [.nt AA v1,.ne AT AA,.nl v1 AT] [1,1,1] rfl h he this
     ·exact hk (by rw[←he,←Nat.eq_of_beq_eq_true q];exact hx)
    ·intro p hp he
     have:=List.all_eq_true.mp e4 p hp
     obtain⟨x,hx,q⟩:=List.any_eq_true.mp this
     exact hk (by rw[←he,←Nat.eq_of_beq_eq_true q];exact hx)
  ·have:=List.map_inj_left.mp e2 (a - nk) (List.mem_range.mpr (by exact AK [_,_,_,_] [] [.nt AT (.a v3 v1),.ne (.a AA v3) AT] (.nt AA v1) [1,1,1] rfl ha (Ej (AK [_,_] [] [.no (.nt v1 AA)] (.nl AA v1) [1,1] rfl h))))
   rw[show nk+(a - nk)=a by exact DM [_,_,_] [] [.ne (.a v1 AA) AT] (.a AA v1) AT [1,1] [1, -1] rfl (Ej (AK [_,_] [] [.no (.nt v1 AA)] (.nl AA v1) [1,1] rfl h))] at this
   exact this
 unfold BR
 rw[hO,e6,e7,e8,e9]
noncomputable def DC:Env:={scope:=P0.main.scope,locals:=mainNs,globals:=mainNs,cells:=[],code:= .ref 13,frame:=some 14}
noncomputable def A3:Code:= .body (behindTheImports P0) DC
def LV(l:List Stmt)(pos:Pos):Thread:=⟨(PySem.W.Fast.tw12563942051412417395 l DC).wrap doneF deadEnd id id,A3,pos,[topFrame ⟨0,0,0,0⟩]⟩
def NZ(w:World):Shared→Thread→Step:=PySem.W.Fast.tw8437177126325714943 (PySem.W.Fast.tw11892475500146522536 PySem.W.Fast.tw14364793385576792824) P0 w
section
variable{M:Model}{A:Around}{E:Value→Shared→Prop}
theorem CC{α:Type}{s:Shared}{Q:α→Shared→Prop}{t t':Sem α}(e:t=t')(h:wpAny M A t' Q E s):wpAny M A t Q E s:=e▸h
theorem Hs{β:Type}{f:Nat→β→Sem (ForInStep β)}{Q:β→Shared→Prop}(n:Nat)(I:Nat→β→Shared→Prop)(hs:∀i b s,i<n→I i b s→wpAny M A (f i b) (fun r s'=>∃b',r= .yield b'∧I (i+1) b' s') E s)(hf:∀b s,I n b s→Q b s):
  ∀(k i:Nat) (b:β) (s:Shared),i+k=n→I i b s→wpAny M A (forIn (List.range' i k) b f) Q E s:=by
 intro k
 induction k with
 |zero=>intro i b s e h;exact wpAny_pure (hf _ _ (e▸h))
 |succ k ih=>
  intro i b s e h
  refine CC (by rw[List.range'_succ,List.forIn_cons]) (wpAny_bind (wpAny_mono (hs i b s (by exact AK [_,_,_] [] [.ne (.a AA (.a AT AO)) v1] (.nt AA v1) [1,1] rfl e) h) (fun r s' q=> ?_) fun _ _ e=>e))
  obtain⟨b',rfl,q⟩:=q
  exact ih (i+1) b' s' (by exact DM [_,_,_] [] [.ne (.a AA (.a v1 AO)) AT] (.a (.a AA AO) v1) AT [1,1] [1, -1] rfl e) q
theorem KV{β:Type}{f:Nat→β→Sem (ForInStep β)}{Q:β→Shared→Prop}{n:Nat}{b:β}{s:Shared}(I:Nat→β→Shared→Prop)(h0:I 0 b s)(hs:∀i b s,i<n→I i b s→wpAny M A (f i b) (fun r s'=>∃b',r= .yield b'∧I (i+1) b' s') E s)(hf:∀b s,I n b s→Q b s):
  wpAny M A (forIn [0:n] b f) Q E s:=
 CC (Std.Legacy.Range.forIn_eq_forIn_range' _ _ _) (Hs n I hs hf _ 0 b s (by simp[Std.Legacy.Range.size]) h0)
end
theorem ED{x:Int}{k:Nat}(h0:0≤x)(h1:x<(k:Int)):x.natAbs<k:=Int.ofNat_lt.mp (by rw[Int.natAbs_of_nonneg h0];exact h1)
end
section
noncomputable def sv(x:String)(n:Nat):Value:= .str (S x) n
noncomputable def iv(k:Int):Value:= .int k 0
noncomputable def ev(P:Params)(x:String)(t:Nat)(v:Value):DictEntry:=E P (S x) t v
noncomputable def xO(k:String)(d:Data):Obj:=⟨.type k,none,d,([]).toArray⟩
noncomputable def nO(d:Data):Obj:=⟨N,none,d,([]).toArray⟩
noncomputable def tO(l:List Value):Obj:=xO "tuple" (.seq l.toArray 0)
noncomputable def kO(k:String)(l:List Value):Obj:=xO k (.fields l.toArray)
noncomputable def fO(l:List Value):Obj:=nO (.fields l.toArray)
noncomputable def dO(l:List DictEntry)(n:Nat):Obj:=xO "dict" (.dict l.toArray n)
noncomputable def cO(a b:String)(t l ac po ko nl v:Nat)(y:Bool)(c:Nat)(r:List Value)(u:Nat):Obj:=kO "code" ([sv a t,sv b (t+1),sv "/claim/cut.py" (t+2),.int l 0,.int ac 0,.int po 0,.int ko 0,.int nl 0,R v,.bool y,iv 181,R c]++r++[.int u 0,.int l 0,sv "/claim/cut.py" (u+1)])
noncomputable def gO(s:Stmt)(a b:String):Obj:=nO (FN s (S a) (S b) 0 [] N N N N none N N 0)
noncomputable def esO(o:Obj):List DictEntry:=match o.data with| .dict a _=>a.toList|_=>[]
noncomputable def dT(o:Obj)(k:Nat)(u:List (Nat×DictEntry))(n:Nat):Obj:=dO (u.foldl (fun l p=>l.set p.1 p.2) ((esO o).take k)) n
noncomputable def DA(x:Value)(y:Value):Obj:=kO "builtin_function_or_method" [x,y]
noncomputable def Ai:Value:=sv "asn1crypto.core" 288
noncomputable def AJ(o:Obj):BT:= .node o .nil .nil
def zZ:=tO []
def qi:=fO []
def zX:=cO "<module>" "<module>" 182 1 0 0 0 0 11 false 12 [N,N,N,N] 185
def zW:Obj:=⟨(.type "frame"),none,.plain,([some (R 13),some (R 3),some (R 3),none,some (sv "__main__" 164),none,some (R 0)]).toArray⟩
def Ak(P:Params):=dO [ev P "__name__" 165 (sv "law_ll0006_01" 1706),ev P "__doc__" 166 N,ev P "__package__" 167 N,ev P "__loader__" 168 (.builtin "__main__.__loader__#opaque"),ev P "__spec__" 169 N,ev P "__annotations__" 170 (R 6),ev P "__builtins__" 171 (R 4),ev P "__file__" 173 (sv "/claim/cut.py" 172),ev P "__cached__" 174 N,ev P "_wall" 193 (R 21),ev P "unwrap" 203 (R 28),ev P "str_cls" 206 (.type "str"),ev P "byte_cls" 207 (.type "bytes"),ev P "int_types" 208 (.type "int"),ev P "chr_cls" 215 (R 35),ev P "type_name" 222 (R 42),ev P "int_to_bytes" 234 (R 50),ev P "int_from_bytes" 242 (R 58),ev P "PY2_parser" 245 (.bool false),ev P "_INSUFFICIENT_DATA_MESSAGE" 247 (sv "Insufficient data - %s bytes requested but only %s available" 246),ev P "_MAX_DEPTH" 249 (.int (10) 248),ev P "_parse" 272 (R 66),ev P "_dump_header" 287 (R 73),ev P "PY2_core" 290 (.bool false),ev P "CLASS_NUM_TO_NAME_MAP" 303 (R 74),ev P "CLASS_NAME_TO_NUM_MAP" 328 (R 75),ev P "METHOD_NUM_TO_NAME_MAP" 335 (R 76),ev P "load" 343 (R 84),ev P "Asn1Value" 438 (R 121),ev P "Void" 495 (R 172),ev P "VOID" 511 (R 176),ev P "Primitive" 564 (R 210),ev P "Constructable" 606 (R 243),ev P "Boolean" 651 (R 277),ev P "Integer" 696 (R 311),ev P "_IntegerBitString" 745 (R 346),ev P "BitString" 818 (R 387),ev P "IntegerBitString" 860 (R 414),ev P "OctetString" 908 (R 448),ev P "Null" 945 (R 475),ev P "ObjectIdentifier" 1000 (R 510),ev P "Sequence" 1230 (R 646),ev P "SequenceOf" 1410 (R 776),ev P "SetOf" 1441 (R 796),ev P "Extension" 1463 (R 813),ev P "Extensions" 1480 (R 825),ev P "Accuracy" 1512 (R 844),ev P "BasicConstraints" 1535 (R 861),ev P "PolicyConstraints" 1564 (R 878),ev P "RSAPublicKey" 1583 (R 893),ev P "_KINDS" 1616 (R 896),ev P "_tag_type_to_explicit_implicit" 1623 (R 903),ev P "_build_id_tuple" 1633 (R 910),ev P "_int_to_bit_tuple" 1639 (R 915),ev P "_UNIVERSAL_SPECS" 1654 (R 916),ev P "_build" 1689 (R 924),ev P "_parse_build" 1705 (R 932),ev P "_law_digits" 1716 (R 939),ev P "_law_der" 1725 (R 946),ev P "_law_bits" 1731 (R 951)] 60
def wZ(P:Params):=dT (Ak P) 10 [(0,ev P "__name__" 165 (sv "__main__" 164))] 10
def SP:=fO [iv 1,iv 0,R 20]
def zV:=tO []
def zU:=fO []
def zT:=tO [sv "k" 190]
def zS:=tO []
def zR:=gO (T 0) "_wall" "_wall"
def zQ:=cO "_wall" "_wall" 187 1 1 0 0 3 15 true 16 [N,R 17,R 18,R 19] 191
def zP:=xO "function" (FN (T 0) (S "_wall") (S "_wall") 3 [] N N N (sv "__main__" 164) none (R 20) N 0)
def wY(P:Params):=dT (Ak P) 10 [(0,ev P "__name__" 165 (sv "asn1crypto._errors" 194))] 10
def wX(P:Params):=dT (Ak P) 11 [(0,ev P "__name__" 165 (sv "asn1crypto._errors" 194))] 11
def JS:=fO [iv 1,iv 0,R 20,iv 5,iv 0,R 27]
def zO:=tO []
def zN:=fO []
def zM:=tO [sv "string" 199,sv "params" 200]
def zL:=tO []
def zK:=gO (T 2) "unwrap" "unwrap"
def zJ:=cO "unwrap" "unwrap" 196 5 1 0 0 7 22 true 23 [N,R 24,R 25,R 26] 201
def zI:=xO "function" (FN (T 2) (S "unwrap") (S "unwrap") 3 [] N N N (sv "asn1crypto._errors" 194) none (R 27) N 0)
def wW(P:Params):=dT (Ak P) 11 [(0,ev P "__name__" 165 (sv "asn1crypto._types" 204))] 11
def wV(P:Params):=dT (Ak P) 12 [(0,ev P "__name__" 165 (sv "asn1crypto._types" 204))] 12
def wU(P:Params):=dT (Ak P) 13 [(0,ev P "__name__" 165 (sv "asn1crypto._types" 204))] 13
def wT(P:Params):=dT (Ak P) 14 [(0,ev P "__name__" 165 (sv "asn1crypto._types" 204))] 14
def lD(P:Params):=dT (Ak P) 15 [(0,ev P "__name__" 165 (sv "asn1crypto._types" 204))] 15
def VK:=fO [iv 1,iv 0,R 20,iv 5,iv 0,R 27,iv 11,iv 0,R 34]
def zH:=tO []
def zG:=fO []
def zF:=tO [sv "num" 212]
def zE:=tO []
def zD:=gO (T 7) "chr_cls" "chr_cls"
def wb:=cO "chr_cls" "chr_cls" 209 11 1 0 0 3 29 true 30 [N,R 31,R 32,R 33] 213
def wa:=xO "function" (FN (T 7) (S "chr_cls") (S "chr_cls") 3 [] N N N (sv "asn1crypto._types" 204) none (R 34) N 0)
def lC(P:Params):=dT (Ak P) 16 [(0,ev P "__name__" 165 (sv "asn1crypto._types" 204))] 16
def N9:=fO [iv 1,iv 0,R 20,iv 5,iv 0,R 27,iv 11,iv 0,R 34,iv 13,iv 0,R 41]
def zC:=tO []
def zB:=fO []
def y9:=tO [sv "value" 219]
def y8:=tO []
def y7:=gO (T 8) "type_name" "type_name"
def y6:=cO "type_name" "type_name" 216 13 1 0 0 3 36 true 37 [N,R 38,R 39,R 40] 220
def y5:=xO "function" (FN (T 8) (S "type_name") (S "type_name") 3 [] N N N (sv "asn1crypto._types" 204) none (R 41) N 0)
def lB(P:Params):=dT (Ak P) 16 [(0,ev P "__name__" 165 (sv "asn1crypto.util" 223))] 16
def k9(P:Params):=dT (Ak P) 17 [(0,ev P "__name__" 165 (sv "asn1crypto.util" 223))] 17
def VJ:=fO [iv 1,iv 0,R 20,iv 5,iv 0,R 27,iv 11,iv 0,R 34,iv 13,iv 0,R 41,iv 16,iv 0,R 49]
def wS:=tO [.bool false,N]
def y4:=tO []
def y3:=fO []
def y2:=tO [sv "value" 228,sv "signed" 229,sv "width" 230,sv "bits_required" 231]
def y1:=tO []
def yz:=gO (T 10) "int_to_bytes" "int_to_bytes"
def wR:=cO "int_to_bytes" "int_to_bytes" 225 16 3 0 0 3 44 true 45 [N,R 46,R 47,R 48] 232
def wQ:=xO "function" (FN (T 10) (S "int_to_bytes") (S "int_to_bytes") 3 [] (R 43) N N (sv "asn1crypto.util" 223) none (R 49) N 0)
def k6(P:Params):=dT (Ak P) 18 [(0,ev P "__name__" 165 (sv "asn1crypto.util" 223))] 18
def Gm:=fO [iv 1,iv 0,R 20,iv 5,iv 0,R 27,iv 11,iv 0,R 34,iv 13,iv 0,R 41,iv 16,iv 0,R 49,iv 29,iv 0,R 57]
def wP:=tO [.bool false]
def yy:=tO []
def yx:=fO []
def yw:=tO [sv "value" 238,sv "signed" 239]
def yu:=tO []
def yt:=gO (T 11) "int_from_bytes" "int_from_bytes"
def wO:=cO "int_from_bytes" "int_from_bytes" 235 29 2 0 0 3 52 true 53 [N,R 54,R 55,R 56] 240
def wN:=xO "function" (FN (T 11) (S "int_from_bytes") (S "int_from_bytes") 3 [] (R 51) N N (sv "asn1crypto.util" 223) none (R 57) N 0)
def k5(P:Params):=dT (Ak P) 18 [(0,ev P "__name__" 165 (sv "asn1crypto.parser" 243))] 18
def kz(P:Params):=dT (Ak P) 19 [(0,ev P "__name__" 165 (sv "asn1crypto.parser" 243))] 19
def ky(P:Params):=dT (Ak P) 20 [(0,ev P "__name__" 165 (sv "asn1crypto.parser" 243))] 20
def ku(P:Params):=dT (Ak P) 21 [(0,ev P "__name__" 165 (sv "asn1crypto.parser" 243))] 21
def kt(P:Params):=dT (Ak P) 22 [(0,ev P "__name__" 165 (sv "asn1crypto.parser" 243))] 22
def VI:=fO [iv 1,iv 0,R 20,iv 5,iv 0,R 27,iv 11,iv 0,R 34,iv 13,iv 0,R 41,iv 16,iv 0,R 49,iv 29,iv 0,R 57,iv 35,iv 0,R 65]
def wM:=tO [.int (0) 250,.bool false,.int (0) 251]
def yr:=tO []
def yq:=fO []
def yp:=tO [sv "encoded_data" 255,sv "data_len" 256,sv "pointer" 257,sv "lengths_only" 258,sv "depth" 259,sv "start" 260,sv "first_octet" 261,sv "tag" 262,sv "constructed" 263,sv "num" 264,sv "length_octet" 265,sv "trailer" 266,sv "contents_end" 267,sv "length_octets" 268,sv "_" 269]
def yo:=tO []
def yn:=gO (T 16) "_parse" "_parse"
def wL:=cO "_parse" "_parse" 252 35 5 0 0 3 60 true 61 [N,R 62,R 63,R 64] 270
def wK:=xO "function" (FN (T 16) (S "_parse") (S "_parse") 3 [] (R 59) N N (sv "asn1crypto.parser" 243) none (R 65) N 0)
def kr(P:Params):=dT (Ak P) 23 [(0,ev P "__name__" 165 (sv "asn1crypto.parser" 243))] 23
def DX:=fO [iv 1,iv 0,R 20,iv 5,iv 0,R 27,iv 11,iv 0,R 34,iv 13,iv 0,R 41,iv 16,iv 0,R 49,iv 29,iv 0,R 57,iv 35,iv 0,R 65,iv 87,iv 0,R 72]
def ym:=tO []
def yl:=fO []
def yk:=tO [sv "class_" 276,sv "method" 277,sv "tag" 278,sv "contents" 279,sv "header" 280,sv "id_num" 281,sv "cont_bit" 282,sv "length" 283,sv "length_bytes" 284]
def yj:=tO []
def yi:=gO (T 17) "_dump_header" "_dump_header"
def wJ:=cO "_dump_header" "_dump_header" 273 87 4 0 0 3 67 true 68 [N,R 69,R 70,R 71] 285
def wI:=xO "function" (FN (T 17) (S "_dump_header") (S "_dump_header") 3 [] N N N (sv "asn1crypto.parser" 243) none (R 72) N 0)
def kq(P:Params):=dT (Ak P) 23 [(0,ev P "__name__" 165 Ai)] 23
def kn(P:Params):=dT (Ak P) 24 [(0,ev P "__name__" 165 Ai)] 24
def N4(P:Params):=dT (Ak P) 25 [(0,ev P "__name__" 165 Ai)] 25
def wH:=dO [⟨0,(.int (0) 291),(sv "universal" 292)⟩,⟨1,(.int (1) 293),(sv "application" 294)⟩,⟨2,(.int (2) 295),(sv "context" 296)⟩,⟨3,(.int (3) 297),(sv "private" 298)⟩] 4
def SO(P:Params):=dT (Ak P) 26 [(0,ev P "__name__" 165 Ai)] 26
def wG(P:Params):=dO [ev P "universal" 304 (.int (0) 305),ev P "application" 306 (.int (1) 307),ev P "context" 308 (.int (2) 309),ev P "private" 310 (.int (3) 311),⟨0,(.int (0) 312),(.int (0) 313)⟩,⟨1,(.int (1) 314),(.int (1) 315)⟩,⟨2,(.int (2) 316),(.int (2) 317)⟩,⟨3,(.int (3) 318),(.int (3) 319)⟩] 8
def km(P:Params):=dT (Ak P) 27 [(0,ev P "__name__" 165 Ai)] 27
def yh:=dO [⟨0,(.int (0) 329),(sv "primitive" 330)⟩,⟨1,(.int (1) 331),(sv "constructed" 332)⟩] 2
def kl(P:Params):=dT (Ak P) 28 [(0,ev P "__name__" 165 Ai)] 28
def VH:=fO [iv 1,iv 0,R 20,iv 5,iv 0,R 27,iv 11,iv 0,R 34,iv 13,iv 0,R 41,iv 16,iv 0,R 49,iv 29,iv 0,R 57,iv 35,iv 0,R 65,iv 87,iv 0,R 72,iv 115,iv 0,R 83]
def wF:=tO [.bool false]
def yg:=tO []
def yf:=fO []
def ye:=tO [sv "encoded_data" 339,sv "strict" 340]
def yd:=tO []
def yc:=gO (T 23) "load" "load"
def wE:=cO "load" "load" 336 115 2 0 0 3 78 true 79 [N,R 80,R 81,R 82] 341
def wD:=xO "function" (FN (T 23) (S "load") (S "load") 3 [] (R 77) N N Ai none (R 83) N 0)
def kk(P:Params):=dT (Ak P) 29 [(0,ev P "__name__" 165 Ai)] 29
def VG:=fO [iv 1,iv 0,R 20,iv 5,iv 0,R 27,iv 11,iv 0,R 34,iv 13,iv 0,R 41,iv 16,iv 0,R 49,iv 29,iv 0,R 57,iv 35,iv 0,R 65,iv 87,iv 0,R 72,iv 115,iv 0,R 83,iv 117,iv 0,R 90]
def yb:=tO [.type "object"]
def ya:=DA (.builtin "type.__prepare__") (.type "type")
def yZ(P:Params):=dO [ev P "__module__" 351 Ai,ev P "__qualname__" 353 (sv "Asn1Value" 352),ev P "__firstlineno__" 355 (.int (117) 354),ev P "method" 356 N,ev P "class_" 357 N,ev P "tag" 358 N,ev P "_bad_tag" 359 N,ev P "implicit" 360 (.bool false),ev P "explicit" 361 N,ev P "_header" 362 N,ev P "contents" 363 N,ev P "_trailer" 365 (.bytes #[] 364),ev P "_native" 366 N,ev P "load" 391 (R 101),ev P "__init__" 410 (R 110),ev P "dump" 422 (R 118),ev P "__static_attributes__" 431 (R 119)] 17
def yY:=tO []
def yX:=fO [iv 130,iv 4,R 98,iv 139,iv 4,R 109,iv 223,iv 4,R 117]
def yW:=cO "Asn1Value" "Asn1Value" 346 117 0 0 0 0 88 false 89 [N,N,N,N] 349
def yV:Obj:=⟨(.type "frame"),none,.plain,([some (R 90),some (R 3),some (R 87),none,some Ai,none,some (R 0)]).toArray⟩
def wC:=tO [.bool false]
def yU:=tO []
def yT:=fO []
def yS:=tO [sv "cls" 370,sv "encoded_data" 371,sv "strict" 372,sv "kwargs" 373,sv "spec" 374,sv "value" 375,sv "_" 376]
def yR:=tO []
def yQ:=gO (M 24 10) "load" "Asn1Value.load"
def wB:=cO "load" "Asn1Value.load" 367 129 3 0 0 11 93 true 94 [N,R 95,R 96,R 97] 377
def v9:=xO "function" (FN (M 24 10) (S "load") (S "Asn1Value.load") 3 [] (R 92) N N Ai (some 102) (R 98) N 0)
def rC(P:Params):=dO [ev P "__module__" 380 Ai,ev P "__name__" 383 (sv "load" 382),ev P "__qualname__" 386 (sv "Asn1Value.load" 385),ev P "__doc__" 388 N,ev P "__annotations__" 390 (R 102)] 5
noncomputable def VV:Obj:=⟨(.type "classmethod"),(some 100),(.fields ([(R 99),(.bool false)]).toArray),([]).toArray⟩
def rA:=dO [] 0
def VU:=tO [N,N,.bool false,N,N,N,N,N,N,N]
def q9:=tO []
def q8:=fO []
def q0:=tO [sv "self" 395,sv "explicit" 396,sv "implicit" 397,sv "no_explicit" 398,sv "tag_type" 399,sv "class_" 400,sv "tag" 401,sv "optional" 402,sv "default" 403,sv "contents" 404,sv "method" 405,sv "invalid_class" 406,sv "e" 407]
def qz:=tO []
def qy:=gO (M 24 11) "__init__" "Asn1Value.__init__"
def VT:=cO "__init__" "Asn1Value.__init__" 392 139 11 0 0 3 104 true 105 [N,R 106,R 107,R 108] 408
def VS:=xO "function" (FN (M 24 11) (S "__init__") (S "Asn1Value.__init__") 3 [] (R 103) N N Ai none (R 109) N 0)
def VP:=tO [.bool false]
def qx:=tO []
def qw:=fO []
def qu:=tO [sv "self" 414,sv "force" 415,sv "contents" 416,sv "header" 417,sv "class_" 418,sv "tag" 419]
def qt:=tO []
def qs:=gO (M 24 12) "dump" "Asn1Value.dump"
def VO:=cO "dump" "Asn1Value.dump" 411 223 2 0 0 3 112 true 113 [N,R 114,R 115,R 116] 420
def VN:=xO "function" (FN (M 24 12) (S "dump") (S "Asn1Value.dump") 3 [] (R 111) N N Ai none (R 117) N 0)
def qr:=tO [sv "_header" 423,sv "_trailer" 424,sv "class_" 425,sv "contents" 426,sv "explicit" 427,sv "implicit" 428,sv "method" 429,sv "tag" 430]
def VM(P:Params):=dO [ev P "__module__" 351 Ai,ev P "__firstlineno__" 355 (.int (117) 354),ev P "method" 356 N,ev P "class_" 357 N,ev P "tag" 358 N,ev P "_bad_tag" 359 N,ev P "implicit" 360 (.bool false),ev P "explicit" 361 N,ev P "_header" 362 N,ev P "contents" 363 N,ev P "_trailer" 365 (.bytes #[] 364),ev P "_native" 366 N,ev P "load" 391 (R 101),ev P "__init__" 410 (R 110),ev P "dump" 422 (R 118),ev P "__static_attributes__" 431 (R 119),ev P "__dict__" 433 (R 122),ev P "__weakref__" 435 (R 123),ev P "__doc__" 436 N] 4
def QX:Obj:=⟨(.type "type"),none,(CL (S "Asn1Value") [(.type "object")] [(R 121),(.type "object")] 120 (S "Asn1Value") true [] [] false none false),([some (R 85),none,some (sv "Asn1Value" 344),some (sv "Asn1Value" 352),some (.builtin "object.__new__"),some (.bool true)]).toArray⟩
def qq:=kO "getset_descriptor" [sv "__dict__" 432,R 121,.builtin "function.__dict__",.builtin "function.__dict__#set"]
def qp:=kO "getset_descriptor" [sv "__weakref__" 434,R 121,.builtin "ExceptionGroup.__weakref__",N]
def qo:=kO "super" [R 121,R 121,R 121]
def qn:=DA (.builtin "object.__init_subclass__") (R 121)
def kj(P:Params):=dT (Ak P) 30 [(0,ev P "__name__" 165 Ai)] 30
def N8:=fO [iv 1,iv 0,R 20,iv 5,iv 0,R 27,iv 11,iv 0,R 34,iv 13,iv 0,R 41,iv 16,iv 0,R 49,iv 29,iv 0,R 57,iv 35,iv 0,R 65,iv 87,iv 0,R 72,iv 115,iv 0,R 83,iv 117,iv 0,R 90,iv 237,iv 0,R 131]
def LY:Obj:=⟨(.type "type"),none,(CL (S "Asn1Value") [(.type "object")] [(R 121),(.type "object")] 120 (S "Asn1Value") true [] [(R 172)] false none false),([some (R 85),none,some (sv "Asn1Value" 344),some (sv "Asn1Value" 352),some (.builtin "object.__new__"),some (.bool true)]).toArray⟩
def qm:=tO [R 121]
def ql:=DA (.builtin "type.__prepare__") (.type "type")
def qk(P:Params):=dO [ev P "__module__" 446 Ai,ev P "__qualname__" 448 (sv "Void" 447),ev P "__firstlineno__" 450 (.int (237) 449),ev P "contents" 452 (.bytes #[] 451),ev P "__eq__" 460 (R 139),ev P "__len__" 467 (R 146),ev P "__iter__" 474 (R 153),ev P "native" 482 (R 161),ev P "dump" 490 (R 169),ev P "__static_attributes__" 491 (R 170)] 10
def qj:=tO []
def qh:=fO [iv 240,iv 4,R 138,iv 243,iv 4,R 145,iv 246,iv 4,R 152,iv 250,iv 4,R 159,iv 253,iv 4,R 168]
def qg:=cO "Void" "Void" 441 237 0 0 0 0 129 false 130 [N,N,N,N] 444
def qf:Obj:=⟨(.type "frame"),none,.plain,([some (R 131),some (R 3),some (R 128),none,some Ai,none,some (R 0)]).toArray⟩
def qe:=tO []
def qc:=fO []
def qb:=tO [sv "self" 456,sv "other" 457]
def qa:=tO []
def qZ:=gO (M 25 1) "__eq__" "Void.__eq__"
def qY:=cO "__eq__" "Void.__eq__" 453 240 2 0 0 3 133 true 134 [N,R 135,R 136,R 137] 458
def qX:=xO "function" (FN (M 25 1) (S "__eq__") (S "Void.__eq__") 3 [] N N N Ai none (R 138) N 0)
def qW:=tO []
def qV:=fO []
def qU:=tO [sv "self" 464]
def qT:=tO []
def qS:=gO (M 25 2) "__len__" "Void.__len__"
def qR:=cO "__len__" "Void.__len__" 461 243 1 0 0 3 140 true 141 [N,R 142,R 143,R 144] 465
def qQ:=xO "function" (FN (M 25 2) (S "__len__") (S "Void.__len__") 3 [] N N N Ai none (R 145) N 0)
def qP:=tO []
def qO:=fO []
def qN:=tO [sv "self" 471]
def qM:=tO []
def qL:=gO (M 25 3) "__iter__" "Void.__iter__"
def qK:=cO "__iter__" "Void.__iter__" 468 246 1 0 0 3 147 true 148 [N,R 149,R 150,R 151] 472
def qJ:=xO "function" (FN (M 25 3) (S "__iter__") (S "Void.__iter__") 3 [] N N N Ai none (R 152) N 0)
def qI:=tO []
def qH:=fO []
def qG:=tO [sv "self" 478]
def qF:=tO []
def qE:=gO (M 25 4) "native" "Void.native"
def qD:=cO "native" "Void.native" 475 249 1 0 0 3 154 true 155 [N,R 156,R 157,R 158] 479
def qC:=xO "function" (FN (M 25 4) (S "native") (S "Void.native") 3 [] N N N Ai none (R 159) N 0)
def qB:=kO "property" [R 160,N,N,N,sv "native" 482,.bool false]
def p9:=tO [.bool false]
def p8:=tO []
def p7:=fO []
def p6:=tO [sv "self" 486,sv "force" 487]
def p5:=tO []
def p4:=gO (M 25 5) "dump" "Void.dump"
def p3:=cO "dump" "Void.dump" 483 253 2 0 0 3 163 true 164 [N,R 165,R 166,R 167] 488
def p1:=xO "function" (FN (M 25 5) (S "dump") (S "Void.dump") 3 [] (R 162) N N Ai none (R 168) N 0)
def pz:=tO []
def pw(P:Params):=dO [ev P "__module__" 446 Ai,ev P "__firstlineno__" 450 (.int (237) 449),ev P "contents" 452 (.bytes #[] 451),ev P "__eq__" 460 (R 139),ev P "__len__" 467 (R 146),ev P "__iter__" 474 (R 153),ev P "native" 482 (R 161),ev P "dump" 490 (R 169),ev P "__static_attributes__" 491 (R 170),ev P "__doc__" 492 N,ev P "__hash__" 493 N] 3
def pt:Obj:=⟨(.type "type"),none,(CL (S "Void") [(R 121)] [(R 172),(R 121),(.type "object")] 171 (S "Void") true [] [] false none false),([some (R 126),none,some (sv "Void" 439),some (sv "Void" 447),some (.builtin "object.__new__"),some (.bool true)]).toArray⟩
def pr:=kO "super" [R 172,R 172,R 172]
def pq:=DA (.builtin "object.__init_subclass__") (R 172)
def ki(P:Params):=dT (Ak P) 31 [(0,ev P "__name__" 165 Ai)] 31
def pj(P:Params):=dO [ev P "class_" 510 (.int (0) 508)] 1
noncomputable def ph:Obj:=⟨(R 172),(some 175),.plain,([]).toArray⟩
def pg(P:Params):=xO "frame" (.dict ([(ev P "self" 496 (R 176)),(ev P "explicit" 497 N),(ev P "implicit" 498 N),(ev P "no_explicit" 499 (.bool false)),(ev P "tag_type" 500 N),(ev P "class_" 501 N),(ev P "tag" 502 N),(ev P "optional" 503 N),(ev P "default" 504 N),(ev P "contents" 505 N),(ev P "method" 506 N)]).toArray 11)
def kh(P:Params):=dT (Ak P) 32 [(0,ev P "__name__" 165 Ai)] 32
def VF:=fO [iv 1,iv 0,R 20,iv 5,iv 0,R 27,iv 11,iv 0,R 34,iv 13,iv 0,R 41,iv 16,iv 0,R 49,iv 29,iv 0,R 57,iv 35,iv 0,R 65,iv 87,iv 0,R 72,iv 115,iv 0,R 83,iv 117,iv 0,R 90,iv 237,iv 0,R 131,iv 256,iv 0,R 183]
def CM:Obj:=⟨(.type "type"),none,(CL (S "Asn1Value") [(.type "object")] [(R 121),(.type "object")] 120 (S "Asn1Value") true [] [(R 172),(R 210)] false none false),([some (R 85),none,some (sv "Asn1Value" 344),some (sv "Asn1Value" 352),some (.builtin "object.__new__"),some (.bool true)]).toArray⟩
def pf:=tO [R 121]
def pe:=DA (.builtin "type.__prepare__") (.type "type")
def pd(P:Params):=dO [ev P "__module__" 519 Ai,ev P "__qualname__" 521 (sv "Primitive" 520),ev P "__firstlineno__" 523 (.int (256) 522),ev P "class_" 525 (.int (0) 524),ev P "method" 527 (.int (0) 526),ev P "__init__" 539 (R 192),ev P "set" 547 (R 199),ev P "dump" 556 (R 207),ev P "__static_attributes__" 561 (R 208)] 9
def pc:=tO []
def pb:=fO [iv 260,iv 4,R 191,iv 272,iv 4,R 198,iv 281,iv 4,R 206]
def pZ:=cO "Primitive" "Primitive" 514 256 0 0 0 0 181 false 182 [N,N,N,N] 517
def pY:Obj:=⟨(.type "frame"),none,.plain,([some (R 183),some (R 3),some (R 180),none,some Ai,none,some (R 0)]).toArray⟩
def Ur:=tO [N,N,N]
def pX:=tO []
def pW:=fO []
def pV:=tO [sv "self" 531,sv "value" 532,sv "default" 533,sv "contents" 534,sv "kwargs" 535,sv "e" 536]
def pU:=tO []
def pR:=gO (M 27 2) "__init__" "Primitive.__init__"
def Uq:=cO "__init__" "Primitive.__init__" 528 260 4 0 0 11 186 true 187 [N,R 188,R 189,R 190] 537
def Up:=xO "function" (FN (M 27 2) (S "__init__") (S "Primitive.__init__") 3 [] (R 185) N N Ai none (R 191) N 0)
def pQ:=tO []
def pP:=fO []
def pO:=tO [sv "self" 543,sv "value" 544]
def pN:=tO []
def pM:=gO (M 27 3) "set" "Primitive.set"
def Uo:=cO "set" "Primitive.set" 540 272 2 0 0 3 193 true 194 [N,R 195,R 196,R 197] 545
def Un:=xO "function" (FN (M 27 3) (S "set") (S "Primitive.set") 3 [] N N N Ai none (R 198) N 0)
def Um:=tO [.bool false]
def pL:=tO []
def pK:=fO []
def pJ:=tO [sv "self" 551,sv "force" 552,sv "native" 553]
def pH:=tO []
def pG:=gO (M 27 4) "dump" "Primitive.dump"
def Ul:=cO "dump" "Primitive.dump" 548 281 2 0 0 3 201 true 202 [N,R 203,R 204,R 205] 554
def Uk:=xO "function" (FN (M 27 4) (S "dump") (S "Primitive.dump") 3 [] (R 200) N N Ai none (R 206) N 0)
def pF:=tO [sv "_header" 557,sv "_native" 558,sv "_trailer" 559,sv "contents" 560]
def Uj(P:Params):=dO [ev P "__module__" 519 Ai,ev P "__firstlineno__" 523 (.int (256) 522),ev P "class_" 525 (.int (0) 524),ev P "method" 527 (.int (0) 526),ev P "__init__" 539 (R 192),ev P "set" 547 (R 199),ev P "dump" 556 (R 207),ev P "__static_attributes__" 561 (R 208),ev P "__doc__" 562 N] 2
def QV:Obj:=⟨(.type "type"),none,(CL (S "Primitive") [(R 121)] [(R 210),(R 121),(.type "object")] 209 (S "Primitive") true [] [] false none false),([some (R 178),none,some (sv "Primitive" 512),some (sv "Primitive" 520),some (.builtin "object.__new__"),some (.bool true)]).toArray⟩
def pE:=kO "super" [R 210,R 210,R 210]
def pD:=DA (.builtin "object.__init_subclass__") (R 210)
def kg(P:Params):=dT (Ak P) 33 [(0,ev P "__name__" 165 Ai)] 33
def VE:=fO [iv 1,iv 0,R 20,iv 5,iv 0,R 27,iv 11,iv 0,R 34,iv 13,iv 0,R 41,iv 16,iv 0,R 49,iv 29,iv 0,R 57,iv 35,iv 0,R 65,iv 87,iv 0,R 72,iv 115,iv 0,R 83,iv 117,iv 0,R 90,iv 237,iv 0,R 131,iv 256,iv 0,R 183,iv 289,iv 0,R 218]
def QU:Obj:=⟨(.type "type"),none,(CL (S "Primitive") [(R 121)] [(R 210),(R 121),(.type "object")] 209 (S "Primitive") true [] [(R 243)] false none false),([some (R 178),none,some (sv "Primitive" 512),some (sv "Primitive" 520),some (.builtin "object.__new__"),some (.bool true)]).toArray⟩
def pC:=tO [R 210]
def o9:=DA (.builtin "type.__prepare__") (.type "type")
def o8(P:Params):=dO [ev P "__module__" 572 Ai,ev P "__qualname__" 574 (sv "Constructable" 573),ev P "__firstlineno__" 576 (.int (289) 575),ev P "_indefinite" 577 (.bool false),ev P "_merge_chunks" 588 (R 226),ev P "_as_chunk" 595 (R 233),ev P "_setable_native" 602 (R 240),ev P "__static_attributes__" 603 (R 241)] 8
def o7:=tO []
def o5:=fO [iv 292,iv 4,R 225,iv 308,iv 4,R 232,iv 311,iv 4,R 239]
def o4:=cO "Constructable" "Constructable" 567 289 0 0 0 0 216 false 217 [N,N,N,N] 570
def oz:Obj:=⟨(.type "frame"),none,.plain,([some (R 218),some (R 3),some (R 215),none,some Ai,none,some (R 0)]).toArray⟩
def oy:=tO []
def ox:=fO []
def ou:=tO [sv "self" 581,sv "pointer" 582,sv "contents_len" 583,sv "output" 584,sv "sub_value" 585]
def ot:=tO []
def or:=gO (M 28 1) "_merge_chunks" "Constructable._merge_chunks"
def Uh:=cO "_merge_chunks" "Constructable._merge_chunks" 578 292 1 0 0 3 220 true 221 [N,R 222,R 223,R 224] 586
def Ug:=xO "function" (FN (M 28 1) (S "_merge_chunks") (S "Constructable._merge_chunks") 3 [] N N N Ai none (R 225) N 0)
def oq:=tO []
def on:=fO []
def om:=tO [sv "self" 592]
def oj:=tO []
def oi:=gO (M 28 2) "_as_chunk" "Constructable._as_chunk"
def Uf:=cO "_as_chunk" "Constructable._as_chunk" 589 308 1 0 0 3 227 true 228 [N,R 229,R 230,R 231] 593
def Ue:=xO "function" (FN (M 28 2) (S "_as_chunk") (S "Constructable._as_chunk") 3 [] N N N Ai none (R 232) N 0)
def oh:=tO []
def og:=fO []
def oa:=tO [sv "self" 599]
def oZ:=tO []
def oY:=gO (M 28 3) "_setable_native" "Constructable._setable_native"
def oX:=cO "_setable_native" "Constructable._setable_native" 596 311 1 0 0 3 234 true 235 [N,R 236,R 237,R 238] 600
def oW:=xO "function" (FN (M 28 3) (S "_setable_native") (S "Constructable._setable_native") 3 [] N N N Ai none (R 239) N 0)
def oV:=tO []
def Ud(P:Params):=dO [ev P "__module__" 572 Ai,ev P "__firstlineno__" 576 (.int (289) 575),ev P "_indefinite" 577 (.bool false),ev P "_merge_chunks" 588 (R 226),ev P "_as_chunk" 595 (R 233),ev P "_setable_native" 602 (R 240),ev P "__static_attributes__" 603 (R 241),ev P "__doc__" 604 N] 2
def IS:Obj:=⟨(.type "type"),none,(CL (S "Constructable") [(R 210)] [(R 243),(R 210),(R 121),(.type "object")] 242 (S "Constructable") true [] [] false none false),([some (R 213),none,some (sv "Constructable" 565),some (sv "Constructable" 573),some (.builtin "object.__new__"),some (.bool true)]).toArray⟩
def oU:=kO "super" [R 243,R 243,R 243]
def oT:=DA (.builtin "object.__init_subclass__") (R 243)
def kf(P:Params):=dT (Ak P) 34 [(0,ev P "__name__" 165 Ai)] 34
def VD:=fO [iv 1,iv 0,R 20,iv 5,iv 0,R 27,iv 11,iv 0,R 34,iv 13,iv 0,R 41,iv 16,iv 0,R 49,iv 29,iv 0,R 57,iv 35,iv 0,R 65,iv 87,iv 0,R 72,iv 115,iv 0,R 83,iv 117,iv 0,R 90,iv 237,iv 0,R 131,iv 256,iv 0,R 183,iv 289,iv 0,R 218,iv 313,iv 0,R 251]
def QT:Obj:=⟨(.type "type"),none,(CL (S "Primitive") [(R 121)] [(R 210),(R 121),(.type "object")] 209 (S "Primitive") true [] [(R 243),(R 277)] false none false),([some (R 178),none,some (sv "Primitive" 512),some (sv "Primitive" 520),some (.builtin "object.__new__"),some (.bool true)]).toArray⟩
def oS:=tO [R 210]
def oR:=DA (.builtin "type.__prepare__") (.type "type")
def oQ(P:Params):=dO [ev P "__module__" 614 Ai,ev P "__qualname__" 616 (sv "Boolean" 615),ev P "__firstlineno__" 618 (.int (313) 617),ev P "tag" 620 (.int (1) 619),ev P "set" 628 (R 259),ev P "__bool__" 635 (R 266),ev P "native" 643 (R 274),ev P "__static_attributes__" 648 (R 275)] 8
def oP:=tO []
def oO:=fO [iv 316,iv 4,R 258,iv 323,iv 4,R 265,iv 327,iv 4,R 272]
def oM:=cO "Boolean" "Boolean" 609 313 0 0 0 0 249 false 250 [N,N,N,N] 612
def oL:Obj:=⟨(.type "frame"),none,.plain,([some (R 251),some (R 3),some (R 248),none,some Ai,none,some (R 0)]).toArray⟩
def oK:=tO []
def oI:=fO []
def oH:=tO [sv "self" 624,sv "value" 625]
def oG:=tO []
def oE:=gO (M 29 1) "set" "Boolean.set"
def oC:=cO "set" "Boolean.set" 621 316 2 0 0 3 253 true 254 [N,R 255,R 256,R 257] 626
def n9:=xO "function" (FN (M 29 1) (S "set") (S "Boolean.set") 3 [] N N N Ai none (R 258) N 0)
def n8:=tO []
def n7:=fO []
def nz:=tO [sv "self" 632]
def ny:=tO []
def nx:=gO (M 29 2) "__bool__" "Boolean.__bool__"
def nw:=cO "__bool__" "Boolean.__bool__" 629 323 1 0 0 3 260 true 261 [N,R 262,R 263,R 264] 633
def nv:=xO "function" (FN (M 29 2) (S "__bool__") (S "Boolean.__bool__") 3 [] N N N Ai none (R 265) N 0)
def nu:=tO []
def nr:=fO []
def nq:=tO [sv "self" 639]
def nj:=tO []
def ni:=gO (M 29 3) "native" "Boolean.native"
def nh:=cO "native" "Boolean.native" 636 326 1 0 0 3 267 true 268 [N,R 269,R 270,R 271] 640
def ng:=xO "function" (FN (M 29 3) (S "native") (S "Boolean.native") 3 [] N N N Ai none (R 272) N 0)
def nf:=kO "property" [R 273,N,N,N,sv "native" 643,.bool false]
def nc:=tO [sv "_header" 644,sv "_native" 645,sv "_trailer" 646,sv "contents" 647]
def nb(P:Params):=dO [ev P "__module__" 614 Ai,ev P "__firstlineno__" 618 (.int (313) 617),ev P "tag" 620 (.int (1) 619),ev P "set" 628 (R 259),ev P "__bool__" 635 (R 266),ev P "native" 643 (R 274),ev P "__static_attributes__" 648 (R 275),ev P "__doc__" 649 N] 2
def nZ:Obj:=⟨(.type "type"),none,(CL (S "Boolean") [(R 210)] [(R 277),(R 210),(R 121),(.type "object")] 276 (S "Boolean") true [] [] false none false),([some (R 246),none,some (sv "Boolean" 607),some (sv "Boolean" 615),some (.builtin "object.__new__"),some (.bool true)]).toArray⟩
def nY:=kO "super" [R 277,R 277,R 277]
def nX:=DA (.builtin "object.__init_subclass__") (R 277)
def kd(P:Params):=dT (Ak P) 35 [(0,ev P "__name__" 165 Ai)] 35
def VC:=fO [iv 1,iv 0,R 20,iv 5,iv 0,R 27,iv 11,iv 0,R 34,iv 13,iv 0,R 41,iv 16,iv 0,R 49,iv 29,iv 0,R 57,iv 35,iv 0,R 65,iv 87,iv 0,R 72,iv 115,iv 0,R 83,iv 117,iv 0,R 90,iv 237,iv 0,R 131,iv 256,iv 0,R 183,iv 289,iv 0,R 218,iv 313,iv 0,R 251,iv 333,iv 0,R 285]
def FC:Obj:=⟨(.type "type"),none,(CL (S "Primitive") [(R 121)] [(R 210),(R 121),(.type "object")] 209 (S "Primitive") true [] [(R 243),(R 277),(R 311)] false none false),([some (R 178),none,some (sv "Primitive" 512),some (sv "Primitive" 520),some (.builtin "object.__new__"),some (.bool true)]).toArray⟩
def nW:=tO [R 210]
def nV:=DA (.builtin "type.__prepare__") (.type "type")
def nU(P:Params):=dO [ev P "__module__" 659 Ai,ev P "__qualname__" 661 (sv "Integer" 660),ev P "__firstlineno__" 663 (.int (333) 662),ev P "tag" 665 (.int (2) 664),ev P "set" 673 (R 293),ev P "__int__" 680 (R 300),ev P "native" 688 (R 308),ev P "__static_attributes__" 693 (R 309)] 8
def nT:=tO []
def nS:=fO [iv 336,iv 4,R 292,iv 347,iv 4,R 299,iv 351,iv 4,R 306]
def nR:=cO "Integer" "Integer" 654 333 0 0 0 0 283 false 284 [N,N,N,N] 657
def nP:Obj:=⟨(.type "frame"),none,.plain,([some (R 285),some (R 3),some (R 282),none,some Ai,none,some (R 0)]).toArray⟩
def nN:=tO []
def nM:=fO []
def nL:=tO [sv "self" 669,sv "value" 670]
def nK:=tO []
def nJ:=gO (M 30 1) "set" "Integer.set"
def nI:=cO "set" "Integer.set" 666 336 2 0 0 3 287 true 288 [N,R 289,R 290,R 291] 671
def nH:=xO "function" (FN (M 30 1) (S "set") (S "Integer.set") 3 [] N N N Ai none (R 292) N 0)
def nG:=tO []
def nF:=fO []
def nE:=tO [sv "self" 677]
def nD:=tO []
def nC:=gO (M 30 2) "__int__" "Integer.__int__"
def m9:=cO "__int__" "Integer.__int__" 674 347 1 0 0 3 294 true 295 [N,R 296,R 297,R 298] 678
def m8:=xO "function" (FN (M 30 2) (S "__int__") (S "Integer.__int__") 3 [] N N N Ai none (R 299) N 0)
def m7:=tO []
def m5:=fO []
def m4:=tO [sv "self" 684]
def m0:=tO []
def mz:=gO (M 30 3) "native" "Integer.native"
def my:=cO "native" "Integer.native" 681 350 1 0 0 3 301 true 302 [N,R 303,R 304,R 305] 685
def mx:=xO "function" (FN (M 30 3) (S "native") (S "Integer.native") 3 [] N N N Ai none (R 306) N 0)
def mw:=kO "property" [R 307,N,N,N,sv "native" 688,.bool false]
def mu:=tO [sv "_header" 689,sv "_native" 690,sv "_trailer" 691,sv "contents" 692]
def mr(P:Params):=dO [ev P "__module__" 659 Ai,ev P "__firstlineno__" 663 (.int (333) 662),ev P "tag" 665 (.int (2) 664),ev P "set" 673 (R 293),ev P "__int__" 680 (R 300),ev P "native" 688 (R 308),ev P "__static_attributes__" 693 (R 309),ev P "__doc__" 694 N] 2
def mq:Obj:=⟨(.type "type"),none,(CL (S "Integer") [(R 210)] [(R 311),(R 210),(R 121),(.type "object")] 310 (S "Integer") true [] [] false none false),([some (R 280),none,some (sv "Integer" 652),some (sv "Integer" 660),some (.builtin "object.__new__"),some (.bool true)]).toArray⟩
def mo:=kO "super" [R 311,R 311,R 311]
def mn:=DA (.builtin "object.__init_subclass__") (R 311)
def kc(P:Params):=dT (Ak P) 36 [(0,ev P "__name__" 165 Ai)] 36
def VB:=fO [iv 1,iv 0,R 20,iv 5,iv 0,R 27,iv 11,iv 0,R 34,iv 13,iv 0,R 41,iv 16,iv 0,R 49,iv 29,iv 0,R 57,iv 35,iv 0,R 65,iv 87,iv 0,R 72,iv 115,iv 0,R 83,iv 117,iv 0,R 90,iv 237,iv 0,R 131,iv 256,iv 0,R 183,iv 289,iv 0,R 218,iv 313,iv 0,R 251,iv 333,iv 0,R 285,iv 357,iv 0,R 319]
def IR:Obj:=⟨(.type "type"),none,(CL (S "Constructable") [(R 210)] [(R 243),(R 210),(R 121),(.type "object")] 242 (S "Constructable") true [] [(R 346)] false none false),([some (R 213),none,some (sv "Constructable" 565),some (sv "Constructable" 573),some (.builtin "object.__new__"),some (.bool true)]).toArray⟩
def ml:=tO [R 243]
def mj:=DA (.builtin "type.__prepare__") (.type "type")
def mi(P:Params):=dO [ev P "__module__" 704 Ai,ev P "__qualname__" 706 (sv "_IntegerBitString" 705),ev P "__firstlineno__" 708 (.int (357) 707),ev P "_unused_bits" 709 (R 321),ev P "_as_chunk" 720 (R 328),ev P "_chunks_to_int" 732 (R 335),ev P "unused_bits" 741 (R 343),ev P "__static_attributes__" 742 (R 344)] 8
def mh:=tO []
def mf:=fO [iv 360,iv 4,R 327,iv 377,iv 4,R 334,iv 391,iv 4,R 341]
def me:=cO "_IntegerBitString" "_IntegerBitString" 699 357 0 0 0 0 317 false 318 [N,N,N,N] 702
def md:Obj:=⟨(.type "frame"),none,.plain,([some (R 319),some (R 3),some (R 316),none,some Ai,none,some (R 0)]).toArray⟩
def Ub:=tO []
def ma:=tO []
def mZ:=fO []
def mY:=tO [sv "self" 713,sv "unused_bits_len" 714,sv "value" 715,sv "bits" 716,sv "unused_bits" 717]
def mX:=tO []
def mW:=gO (M 31 1) "_as_chunk" "_IntegerBitString._as_chunk"
def Ua:=cO "_as_chunk" "_IntegerBitString._as_chunk" 710 360 1 0 0 3 322 true 323 [N,R 324,R 325,R 326] 718
def UZ:=xO "function" (FN (M 31 1) (S "_as_chunk") (S "_IntegerBitString._as_chunk") 3 [] N N N Ai none (R 327) N 0)
def mV:=tO []
def mU:=fO []
def mQ:=tO [sv "self" 724,sv "value" 725,sv "total_bits" 726,sv "unused_bits" 727,sv "chunk" 728,sv "bits" 729]
def mP:=tO []
def mO:=gO (M 31 2) "_chunks_to_int" "_IntegerBitString._chunks_to_int"
def UY:=cO "_chunks_to_int" "_IntegerBitString._chunks_to_int" 721 377 1 0 0 3 329 true 330 [N,R 331,R 332,R 333] 730
def UX:=xO "function" (FN (M 31 2) (S "_chunks_to_int") (S "_IntegerBitString._chunks_to_int") 3 [] N N N Ai none (R 334) N 0)
def mN:=tO []
def mK:=fO []
def mJ:=tO [sv "self" 736,sv "_" 737]
def mH:=tO []
def mG:=gO (M 31 3) "unused_bits" "_IntegerBitString.unused_bits"
def mF:=cO "unused_bits" "_IntegerBitString.unused_bits" 733 390 1 0 0 3 336 true 337 [N,R 338,R 339,R 340] 738
def mE:=xO "function" (FN (M 31 3) (S "unused_bits") (S "_IntegerBitString.unused_bits") 3 [] N N N Ai none (R 341) N 0)
def mD:=kO "property" [R 342,N,N,N,sv "unused_bits" 741,.bool false]
def mC:=tO []
def UW(P:Params):=dO [ev P "__module__" 704 Ai,ev P "__firstlineno__" 708 (.int (357) 707),ev P "_unused_bits" 709 (R 321),ev P "_as_chunk" 720 (R 328),ev P "_chunks_to_int" 732 (R 335),ev P "unused_bits" 741 (R 343),ev P "__static_attributes__" 742 (R 344),ev P "__doc__" 743 N] 2
def QR:Obj:=⟨(.type "type"),none,(CL (S "_IntegerBitString") [(R 243)] [(R 346),(R 243),(R 210),(R 121),(.type "object")] 345 (S "_IntegerBitString") true [] [] false none false),([some (R 314),none,some (sv "_IntegerBitString" 697),some (sv "_IntegerBitString" 705),some (.builtin "object.__new__"),some (.bool true)]).toArray⟩
def mA:=kO "super" [R 346,R 346,R 346]
def l9:=DA (.builtin "object.__init_subclass__") (R 346)
def kb(P:Params):=dT (Ak P) 37 [(0,ev P "__name__" 165 Ai)] 37
def VA:=fO [iv 1,iv 0,R 20,iv 5,iv 0,R 27,iv 11,iv 0,R 34,iv 13,iv 0,R 41,iv 16,iv 0,R 49,iv 29,iv 0,R 57,iv 35,iv 0,R 65,iv 87,iv 0,R 72,iv 115,iv 0,R 83,iv 117,iv 0,R 90,iv 237,iv 0,R 131,iv 256,iv 0,R 183,iv 289,iv 0,R 218,iv 313,iv 0,R 251,iv 333,iv 0,R 285,iv 357,iv 0,R 319,iv 394,iv 0,R 354]
def QP:Obj:=⟨(.type "type"),none,(CL (S "_IntegerBitString") [(R 243)] [(R 346),(R 243),(R 210),(R 121),(.type "object")] 345 (S "_IntegerBitString") true [] [(R 387)] false none false),([some (R 314),none,some (sv "_IntegerBitString" 697),some (sv "_IntegerBitString" 705),some (.builtin "object.__new__"),some (.bool true)]).toArray⟩
def l8:=tO [R 346]
def l7:=DA (.builtin "type.__prepare__") (.type "type")
def l6(P:Params):=dO [ev P "__module__" 753 Ai,ev P "__qualname__" 755 (sv "BitString" 754),ev P "__firstlineno__" 757 (.int (394) 756),ev P "tag" 759 (.int (3) 758),ev P "set" 773 (R 362),ev P "__getitem__" 783 (R 369),ev P "__setitem__" 796 (R 376),ev P "native" 807 (R 384),ev P "__static_attributes__" 815 (R 385)] 9
def l5:=tO []
def l4:=fO [iv 397,iv 4,R 361,iv 431,iv 4,R 368,iv 441,iv 4,R 375,iv 456,iv 4,R 382]
def l3:=cO "BitString" "BitString" 748 394 0 0 0 0 352 false 353 [N,N,N,N] 751
def lz:Obj:=⟨(.type "frame"),none,.plain,([some (R 354),some (R 3),some (R 351),none,some Ai,none,some (R 0)]).toArray⟩
def ly:=tO []
def lw:=fO []
def lu:=tO [sv "self" 763,sv "value" 764,sv "size" 765,sv "size_mod" 766,sv "extra_bits" 767,sv "size_in_bytes" 768,sv "extra_bits_byte" 769,sv "value_bytes" 770]
def ls:=tO []
def lr:=gO (M 32 1) "set" "BitString.set"
def UU:=cO "set" "BitString.set" 760 397 2 0 0 3 356 true 357 [N,R 358,R 359,R 360] 771
def UT:=xO "function" (FN (M 32 1) (S "set") (S "BitString.set") 3 [] N N N Ai none (R 361) N 0)
def lq:=tO []
def ln:=fO []
def lm:=tO [sv "self" 777,sv "key" 778,sv "is_int" 779,sv "_" 780]
def lj:=tO []
def lh:=gO (M 32 2) "__getitem__" "BitString.__getitem__"
def lf:=cO "__getitem__" "BitString.__getitem__" 774 431 2 0 0 3 363 true 364 [N,R 365,R 366,R 367] 781
def le:=xO "function" (FN (M 32 2) (S "__getitem__") (S "BitString.__getitem__") 3 [] N N N Ai none (R 368) N 0)
def ld:=tO []
def lc:=fO []
def lb:=tO [sv "self" 787,sv "key" 788,sv "value" 789,sv "is_int" 790,sv "_" 791,sv "new_native" 792,sv "max_key" 793]
def lZ:=tO []
def lY:=gO (M 32 3) "__setitem__" "BitString.__setitem__"
def lX:=cO "__setitem__" "BitString.__setitem__" 784 441 3 0 0 3 370 true 371 [N,R 372,R 373,R 374] 794
def lW:=xO "function" (FN (M 32 3) (S "__setitem__") (S "BitString.__setitem__") 3 [] N N N Ai none (R 375) N 0)
def lV:=tO []
def lU:=fO []
def lT:=tO [sv "self" 800,sv "int_value" 801,sv "bit_count" 802,sv "bits" 803]
def lS:=tO []
def lR:=gO (M 32 4) "native" "BitString.native"
def US:=cO "native" "BitString.native" 797 455 1 0 0 3 377 true 378 [N,R 379,R 380,R 381] 804
def UR:=xO "function" (FN (M 32 4) (S "native") (S "BitString.native") 3 [] N N N Ai none (R 382) N 0)
def UQ:=kO "property" [R 383,N,N,N,sv "native" 807,.bool false]
def lQ:=tO [sv "_header" 808,sv "_indefinite" 809,sv "_native" 810,sv "_trailer" 811,sv "_unused_bits" 812,sv "contents" 813,sv "method" 814]
def UP(P:Params):=dO [ev P "__module__" 753 Ai,ev P "__firstlineno__" 757 (.int (394) 756),ev P "tag" 759 (.int (3) 758),ev P "set" 773 (R 362),ev P "__getitem__" 783 (R 369),ev P "__setitem__" 796 (R 376),ev P "native" 807 (R 384),ev P "__static_attributes__" 815 (R 385),ev P "__doc__" 816 N] 2
def UO:Obj:=⟨(.type "type"),none,(CL (S "BitString") [(R 346)] [(R 387),(R 346),(R 243),(R 210),(R 121),(.type "object")] 386 (S "BitString") true [] [] false none false),([some (R 349),none,some (sv "BitString" 746),some (sv "BitString" 754),some (.builtin "object.__new__"),some (.bool true)]).toArray⟩
def lP:=kO "super" [R 387,R 387,R 387]
def lO:=DA (.builtin "object.__init_subclass__") (R 387)
def kZ(P:Params):=dT (Ak P) 38 [(0,ev P "__name__" 165 Ai)] 38
def U9:=fO [iv 1,iv 0,R 20,iv 5,iv 0,R 27,iv 11,iv 0,R 34,iv 13,iv 0,R 41,iv 16,iv 0,R 49,iv 29,iv 0,R 57,iv 35,iv 0,R 65,iv 87,iv 0,R 72,iv 115,iv 0,R 83,iv 117,iv 0,R 90,iv 237,iv 0,R 131,iv 256,iv 0,R 183,iv 289,iv 0,R 218,iv 313,iv 0,R 251,iv 333,iv 0,R 285,iv 357,iv 0,R 319,iv 394,iv 0,R 354,iv 464,iv 0,R 395]
def UV:Obj:=⟨(.type "type"),none,(CL (S "_IntegerBitString") [(R 243)] [(R 346),(R 243),(R 210),(R 121),(.type "object")] 345 (S "_IntegerBitString") true [] [(R 387),(R 414)] false none false),([some (R 314),none,some (sv "_IntegerBitString" 697),some (sv "_IntegerBitString" 705),some (.builtin "object.__new__"),some (.bool true)]).toArray⟩
def lN:=tO [R 346]
def lM:=DA (.builtin "type.__prepare__") (.type "type")
def lL(P:Params):=dO [ev P "__module__" 826 Ai,ev P "__qualname__" 828 (sv "IntegerBitString" 827),ev P "__firstlineno__" 830 (.int (464) 829),ev P "tag" 832 (.int (3) 831),ev P "set" 840 (R 403),ev P "native" 849 (R 411),ev P "__static_attributes__" 857 (R 412)] 7
def lK:=tO []
def lJ:=fO [iv 467,iv 4,R 402,iv 483,iv 4,R 409]
def lI:=cO "IntegerBitString" "IntegerBitString" 821 464 0 0 0 0 393 false 394 [N,N,N,N] 824
def lH:Obj:=⟨(.type "frame"),none,.plain,([some (R 395),some (R 3),some (R 392),none,some Ai,none,some (R 0)]).toArray⟩
def lG:=tO []
def lF:=fO []
def lE:=tO [sv "self" 836,sv "value" 837]
def kA:=tO []
def j9:=gO (M 33 1) "set" "IntegerBitString.set"
def j8:=cO "set" "IntegerBitString.set" 833 467 2 0 0 3 397 true 398 [N,R 399,R 400,R 401] 838
def j7:=xO "function" (FN (M 33 1) (S "set") (S "IntegerBitString.set") 3 [] N N N Ai none (R 402) N 0)
def j6:=tO []
def j5:=fO []
def j4:=tO [sv "self" 844,sv "_" 845]
def j3:=tO []
def j2:=gO (M 33 2) "native" "IntegerBitString.native"
def j1:=cO "native" "IntegerBitString.native" 841 482 1 0 0 3 404 true 405 [N,R 406,R 407,R 408] 846
def j0:=xO "function" (FN (M 33 2) (S "native") (S "IntegerBitString.native") 3 [] N N N Ai none (R 409) N 0)
def jz:=kO "property" [R 410,N,N,N,sv "native" 849,.bool false]
def jy:=tO [sv "_header" 850,sv "_indefinite" 851,sv "_native" 852,sv "_trailer" 853,sv "_unused_bits" 854,sv "contents" 855,sv "method" 856]
def jx(P:Params):=dO [ev P "__module__" 826 Ai,ev P "__firstlineno__" 830 (.int (464) 829),ev P "tag" 832 (.int (3) 831),ev P "set" 840 (R 403),ev P "native" 849 (R 411),ev P "__static_attributes__" 857 (R 412),ev P "__doc__" 858 N] 2
def jw:Obj:=⟨(.type "type"),none,(CL (S "IntegerBitString") [(R 346)] [(R 414),(R 346),(R 243),(R 210),(R 121),(.type "object")] 413 (S "IntegerBitString") true [] [] false none false),([some (R 390),none,some (sv "IntegerBitString" 819),some (sv "IntegerBitString" 827),some (.builtin "object.__new__"),some (.bool true)]).toArray⟩
def jv:=kO "super" [R 414,R 414,R 414]
def ju:=DA (.builtin "object.__init_subclass__") (R 414)
def kY(P:Params):=dT (Ak P) 39 [(0,ev P "__name__" 165 Ai)] 39
def U8:=fO [iv 1,iv 0,R 20,iv 5,iv 0,R 27,iv 11,iv 0,R 34,iv 13,iv 0,R 41,iv 16,iv 0,R 49,iv 29,iv 0,R 57,iv 35,iv 0,R 65,iv 87,iv 0,R 72,iv 115,iv 0,R 83,iv 117,iv 0,R 90,iv 237,iv 0,R 131,iv 256,iv 0,R 183,iv 289,iv 0,R 218,iv 313,iv 0,R 251,iv 333,iv 0,R 285,iv 357,iv 0,R 319,iv 394,iv 0,R 354,iv 464,iv 0,R 395,iv 489,iv 0,R 422]
def Uc:Obj:=⟨(.type "type"),none,(CL (S "Constructable") [(R 210)] [(R 243),(R 210),(R 121),(.type "object")] 242 (S "Constructable") true [] [(R 346),(R 448)] false none false),([some (R 213),none,some (sv "Constructable" 565),some (sv "Constructable" 573),some (.builtin "object.__new__"),some (.bool true)]).toArray⟩
def js:=tO [R 243]
def jr:=DA (.builtin "type.__prepare__") (.type "type")
def jq(P:Params):=dO [ev P "__module__" 868 Ai,ev P "__qualname__" 870 (sv "OctetString" 869),ev P "__firstlineno__" 872 (.int (489) 871),ev P "tag" 874 (.int (4) 873),ev P "_bytes" 875 N,ev P "set" 883 (R 430),ev P "__bytes__" 890 (R 437),ev P "native" 898 (R 445),ev P "__static_attributes__" 905 (R 446)] 9
def jp:=tO []
def jo:=fO [iv 493,iv 4,R 429,iv 505,iv 4,R 436,iv 513,iv 4,R 443]
def jn:=cO "OctetString" "OctetString" 863 489 0 0 0 0 420 false 421 [N,N,N,N] 866
def jm:Obj:=⟨(.type "frame"),none,.plain,([some (R 422),some (R 3),some (R 419),none,some Ai,none,some (R 0)]).toArray⟩
def jk:=tO []
def ji:=fO []
def jh:=tO [sv "self" 879,sv "value" 880]
def jg:=tO []
def jf:=gO (M 34 2) "set" "OctetString.set"
def UN:=cO "set" "OctetString.set" 876 493 2 0 0 3 424 true 425 [N,R 426,R 427,R 428] 881
def UM:=xO "function" (FN (M 34 2) (S "set") (S "OctetString.set") 3 [] N N N Ai none (R 429) N 0)
def je:=tO []
def jd:=fO []
def jc:=tO [sv "self" 887]
def jb:=tO []
def ja:=gO (M 34 3) "__bytes__" "OctetString.__bytes__"
def jZ:=cO "__bytes__" "OctetString.__bytes__" 884 505 1 0 0 3 431 true 432 [N,R 433,R 434,R 435] 888
def jY:=xO "function" (FN (M 34 3) (S "__bytes__") (S "OctetString.__bytes__") 3 [] N N N Ai none (R 436) N 0)
def jX:=tO []
def jW:=fO []
def jV:=tO [sv "self" 894]
def jU:=tO []
def jT:=gO (M 34 4) "native" "OctetString.native"
def UL:=cO "native" "OctetString.native" 891 512 1 0 0 3 438 true 439 [N,R 440,R 441,R 442] 895
def UK:=xO "function" (FN (M 34 4) (S "native") (S "OctetString.native") 3 [] N N N Ai none (R 443) N 0)
def UJ:=kO "property" [R 444,N,N,N,sv "native" 898,.bool false]
def jS:=tO [sv "_bytes" 899,sv "_header" 900,sv "_indefinite" 901,sv "_trailer" 902,sv "contents" 903,sv "method" 904]
def UI(P:Params):=dO [ev P "__module__" 868 Ai,ev P "__firstlineno__" 872 (.int (489) 871),ev P "tag" 874 (.int (4) 873),ev P "_bytes" 875 N,ev P "set" 883 (R 430),ev P "__bytes__" 890 (R 437),ev P "native" 898 (R 445),ev P "__static_attributes__" 905 (R 446),ev P "__doc__" 906 N] 2
def UH:Obj:=⟨(.type "type"),none,(CL (S "OctetString") [(R 243)] [(R 448),(R 243),(R 210),(R 121),(.type "object")] 447 (S "OctetString") true [] [] false none false),([some (R 417),none,some (sv "OctetString" 861),some (sv "OctetString" 869),some (.builtin "object.__new__"),some (.bool true)]).toArray⟩
def jR:=kO "super" [R 448,R 448,R 448]
def jQ:=DA (.builtin "object.__init_subclass__") (R 448)
def kX(P:Params):=dT (Ak P) 40 [(0,ev P "__name__" 165 Ai)] 40
def U7:=fO [iv 1,iv 0,R 20,iv 5,iv 0,R 27,iv 11,iv 0,R 34,iv 13,iv 0,R 41,iv 16,iv 0,R 49,iv 29,iv 0,R 57,iv 35,iv 0,R 65,iv 87,iv 0,R 72,iv 115,iv 0,R 83,iv 117,iv 0,R 90,iv 237,iv 0,R 131,iv 256,iv 0,R 183,iv 289,iv 0,R 218,iv 313,iv 0,R 251,iv 333,iv 0,R 285,iv 357,iv 0,R 319,iv 394,iv 0,R 354,iv 464,iv 0,R 395,iv 489,iv 0,R 422,iv 519,iv 0,R 456]
def QS:Obj:=⟨(.type "type"),none,(CL (S "Primitive") [(R 121)] [(R 210),(R 121),(.type "object")] 209 (S "Primitive") true [] [(R 243),(R 277),(R 311),(R 475)] false none false),([some (R 178),none,some (sv "Primitive" 512),some (sv "Primitive" 520),some (.builtin "object.__new__"),some (.bool true)]).toArray⟩
def jP:=tO [R 210]
def jO:=DA (.builtin "type.__prepare__") (.type "type")
def jN(P:Params):=dO [ev P "__module__" 916 Ai,ev P "__qualname__" 918 (sv "Null" 917),ev P "__firstlineno__" 920 (.int (519) 919),ev P "tag" 922 (.int (5) 921),ev P "contents" 924 (.bytes #[] 923),ev P "set" 932 (R 464),ev P "native" 940 (R 472),ev P "__static_attributes__" 942 (R 473)] 8
def jM:=tO []
def jL:=fO [iv 523,iv 4,R 463,iv 527,iv 4,R 470]
def jK:=cO "Null" "Null" 911 519 0 0 0 0 454 false 455 [N,N,N,N] 914
def jJ:Obj:=⟨(.type "frame"),none,.plain,([some (R 456),some (R 3),some (R 453),none,some Ai,none,some (R 0)]).toArray⟩
def jI:=tO []
def jH:=fO []
def jG:=tO [sv "self" 928,sv "value" 929]
def jF:=tO []
def jE:=gO (M 35 2) "set" "Null.set"
def jD:=cO "set" "Null.set" 925 523 2 0 0 3 458 true 459 [N,R 460,R 461,R 462] 930
def jC:=xO "function" (FN (M 35 2) (S "set") (S "Null.set") 3 [] N N N Ai none (R 463) N 0)
def jB:=tO []
def jA:=fO []
def i9:=tO [sv "self" 936]
def i8:=tO []
def i7:=gO (M 35 3) "native" "Null.native"
def i6:=cO "native" "Null.native" 933 526 1 0 0 3 465 true 466 [N,R 467,R 468,R 469] 937
def i5:=xO "function" (FN (M 35 3) (S "native") (S "Null.native") 3 [] N N N Ai none (R 470) N 0)
def i4:=kO "property" [R 471,N,N,N,sv "native" 940,.bool false]
def i3:=tO [sv "contents" 941]
def i0(P:Params):=dO [ev P "__module__" 916 Ai,ev P "__firstlineno__" 920 (.int (519) 919),ev P "tag" 922 (.int (5) 921),ev P "contents" 924 (.bytes #[] 923),ev P "set" 932 (R 464),ev P "native" 940 (R 472),ev P "__static_attributes__" 942 (R 473),ev P "__doc__" 943 N] 2
def iz:Obj:=⟨(.type "type"),none,(CL (S "Null") [(R 210)] [(R 475),(R 210),(R 121),(.type "object")] 474 (S "Null") true [] [] false none false),([some (R 451),none,some (sv "Null" 909),some (sv "Null" 917),some (.builtin "object.__new__"),some (.bool true)]).toArray⟩
def iy:=kO "super" [R 475,R 475,R 475]
def ix:=DA (.builtin "object.__init_subclass__") (R 475)
def kW(P:Params):=dT (Ak P) 41 [(0,ev P "__name__" 165 Ai)] 41
def U6:=fO [iv 1,iv 0,R 20,iv 5,iv 0,R 27,iv 11,iv 0,R 34,iv 13,iv 0,R 41,iv 16,iv 0,R 49,iv 29,iv 0,R 57,iv 35,iv 0,R 65,iv 87,iv 0,R 72,iv 115,iv 0,R 83,iv 117,iv 0,R 90,iv 237,iv 0,R 131,iv 256,iv 0,R 183,iv 289,iv 0,R 218,iv 313,iv 0,R 251,iv 333,iv 0,R 285,iv 357,iv 0,R 319,iv 394,iv 0,R 354,iv 464,iv 0,R 395,iv 489,iv 0,R 422,iv 519,iv 0,R 456,iv 529,iv 0,R 483]
def Ui:Obj:=⟨(.type "type"),none,(CL (S "Primitive") [(R 121)] [(R 210),(R 121),(.type "object")] 209 (S "Primitive") true [] [(R 243),(R 277),(R 311),(R 475),(R 510)] false none false),([some (R 178),none,some (sv "Primitive" 512),some (sv "Primitive" 520),some (.builtin "object.__new__"),some (.bool true)]).toArray⟩
def iw:=tO [R 210]
def iu:=DA (.builtin "type.__prepare__") (.type "type")
def ir(P:Params):=dO [ev P "__module__" 953 Ai,ev P "__qualname__" 955 (sv "ObjectIdentifier" 954),ev P "__firstlineno__" 957 (.int (529) 956),ev P "tag" 959 (.int (6) 958),ev P "_dotted" 960 N,ev P "set" 972 (R 491),ev P "dotted" 983 (R 499),ev P "native" 991 (R 507),ev P "__static_attributes__" 997 (R 508)] 9
def iq:=tO []
def io:=fO [iv 533,iv 4,R 490,iv 561,iv 4,R 497,iv 588,iv 4,R 505]
def im:=cO "ObjectIdentifier" "ObjectIdentifier" 948 529 0 0 0 0 481 false 482 [N,N,N,N] 951
def ik:Obj:=⟨(.type "frame"),none,.plain,([some (R 483),some (R 3),some (R 480),none,some Ai,none,some (R 0)]).toArray⟩
def ij:=tO []
def ii:=fO []
def ig:=tO [sv "self" 964,sv "value" 965,sv "first" 966,sv "index" 967,sv "part" 968,sv "encoded_part" 969]
def ic:=tO []
def ib:=gO (M 36 2) "set" "ObjectIdentifier.set"
def ia:=cO "set" "ObjectIdentifier.set" 961 533 2 0 0 3 485 true 486 [N,R 487,R 488,R 489] 970
def iZ:=xO "function" (FN (M 36 2) (S "set") (S "ObjectIdentifier.set") 3 [] N N N Ai none (R 490) N 0)
def iY:=tO []
def iX:=fO []
def iW:=tO [sv "self" 976,sv "output" 977,sv "part" 978,sv "byte" 979]
def iV:=tO []
def iU:=gO (M 36 3) "dotted" "ObjectIdentifier.dotted"
def iT:=cO "dotted" "ObjectIdentifier.dotted" 973 560 1 0 0 3 492 true 493 [N,R 494,R 495,R 496] 980
def iS:=xO "function" (FN (M 36 3) (S "dotted") (S "ObjectIdentifier.dotted") 3 [] N N N Ai none (R 497) N 0)
def iR:=kO "property" [R 498,N,N,N,sv "dotted" 983,.bool false]
def iQ:=tO []
def iP:=fO []
def iO:=tO [sv "self" 987]
def iN:=tO []
def iM:=gO (M 36 4) "native" "ObjectIdentifier.native"
def iL:=cO "native" "ObjectIdentifier.native" 984 587 1 0 0 3 500 true 501 [N,R 502,R 503,R 504] 988
def iK:=xO "function" (FN (M 36 4) (S "native") (S "ObjectIdentifier.native") 3 [] N N N Ai none (R 505) N 0)
def iJ:=kO "property" [R 506,N,N,N,sv "native" 991,.bool false]
def iI:=tO [sv "_dotted" 992,sv "_header" 993,sv "_native" 994,sv "_trailer" 995,sv "contents" 996]
def iH(P:Params):=dO [ev P "__module__" 953 Ai,ev P "__firstlineno__" 957 (.int (529) 956),ev P "tag" 959 (.int (6) 958),ev P "_dotted" 960 N,ev P "set" 972 (R 491),ev P "dotted" 983 (R 499),ev P "native" 991 (R 507),ev P "__static_attributes__" 997 (R 508),ev P "__doc__" 998 N] 2
def iG:Obj:=⟨(.type "type"),none,(CL (S "ObjectIdentifier") [(R 210)] [(R 510),(R 210),(R 121),(.type "object")] 509 (S "ObjectIdentifier") true [] [] false none false),([some (R 478),none,some (sv "ObjectIdentifier" 946),some (sv "ObjectIdentifier" 954),some (.builtin "object.__new__"),some (.bool true)]).toArray⟩
def iF:=kO "super" [R 510,R 510,R 510]
def iE:=DA (.builtin "object.__init_subclass__") (R 510)
def kU(P:Params):=dT (Ak P) 42 [(0,ev P "__name__" 165 Ai)] 42
def U5:=fO [iv 1,iv 0,R 20,iv 5,iv 0,R 27,iv 11,iv 0,R 34,iv 13,iv 0,R 41,iv 16,iv 0,R 49,iv 29,iv 0,R 57,iv 35,iv 0,R 65,iv 87,iv 0,R 72,iv 115,iv 0,R 83,iv 117,iv 0,R 90,iv 237,iv 0,R 131,iv 256,iv 0,R 183,iv 289,iv 0,R 218,iv 313,iv 0,R 251,iv 333,iv 0,R 285,iv 357,iv 0,R 319,iv 394,iv 0,R 354,iv 464,iv 0,R 395,iv 489,iv 0,R 422,iv 519,iv 0,R 456,iv 529,iv 0,R 483,iv 594,iv 0,R 518]
def QW:Obj:=⟨(.type "type"),none,(CL (S "Asn1Value") [(.type "object")] [(R 121),(.type "object")] 120 (S "Asn1Value") true [] [(R 172),(R 210),(R 646)] false none false),([some (R 85),none,some (sv "Asn1Value" 344),some (sv "Asn1Value" 352),some (.builtin "object.__new__"),some (.bool true)]).toArray⟩
def iD:=tO [R 121]
def iC:=DA (.builtin "type.__prepare__") (.type "type")
def iB(P:Params):=dO [ev P "__module__" 1008 Ai,ev P "__qualname__" 1010 (sv "Sequence" 1009),ev P "__firstlineno__" 1012 (.int (594) 1011),ev P "tag" 1014 (.int (16) 1013),ev P "class_" 1016 (.int (0) 1015),ev P "method" 1018 (.int (1) 1017),ev P "children" 1019 N,ev P "_contents" 1020 N,ev P "_mutated" 1021 (.bool false),ev P "_fields" 1022 (R 520),ev P "_field_map" 1023 N,ev P "_field_ids" 1024 N,ev P "__init__" 1030 (R 526),ev P "contents" 1038 (R 543),ev P "_is_mutated" 1057 (R 550),ev P "_lazy_child" 1066 (R 557),ev P "__len__" 1073 (R 564),ev P "__getitem__" 1082 (R 571),ev P "__setitem__" 1098 (R 578),ev P "__delitem__" 1109 (R 585),ev P "__iter__" 1117 (R 592),ev P "_set_contents" 1131 (R 600),ev P "_setup" 1137 (R 605),ev P "_determine_spec" 1150 (R 612),ev P "_make_value" 1163 (R 619),ev P "_parse_children" 1193 (R 627),ev P "native" 1205 (R 635),ev P "dump" 1217 (R 643),ev P "__static_attributes__" 1227 (R 644)] 29
def iA:=tO []
def hY:=fO [iv 605,iv 4,R 525,iv 641,iv 4,R 532,iv 649,iv 4,R 541,iv 652,iv 4,R 549,iv 660,iv 4,R 556,iv 666,iv 4,R 563,iv 671,iv 4,R 570,iv 685,iv 4,R 577,iv 702,iv 4,R 584,iv 720,iv 4,R 591,iv 724,iv 4,R 599,iv 749,iv 4,R 604,iv 757,iv 4,R 611,iv 763,iv 4,R 618,iv 771,iv 4,R 626,iv 841,iv 4,R 633,iv 863,iv 4,R 642]
def g9:=cO "Sequence" "Sequence" 1003 594 0 0 0 0 516 false 517 [N,N,N,N] 1006
def g8:Obj:=⟨(.type "frame"),none,.plain,([some (R 518),some (R 3),some (R 515),none,some Ai,none,some (R 0)]).toArray⟩
def g7:=xO "list" (.seq ([]).toArray 0)
def gz:=tO [N,N]
def gy:=tO []
def gx:=fO []
def gw:=gO (M 37 9) "__init__" "Sequence.__init__"
def gv:=cO "__init__" "Sequence.__init__" 1025 605 3 0 0 11 522 true 523 [N,N,N,R 524] 1028
def gu:=xO "function" (FN (M 37 9) (S "__init__") (S "Sequence.__init__") 3 [] (R 521) N N Ai none (R 525) N 0)
def gt:=tO []
def gr:=fO []
def gq:=tO [sv "self" 1034]
def gp:=tO []
def gn:=gO (M 37 10) "contents" "Sequence.contents"
def gm:=cO "contents" "Sequence.contents" 1031 640 1 0 0 3 527 true 528 [N,R 529,R 530,R 531] 1035
def gk:=xO "function" (FN (M 37 10) (S "contents") (S "Sequence.contents") 3 [] N N N Ai none (R 532) N 0)
def gj:=kO "property" [R 533,N,N,N,iv 0,.bool false]
def gi:=DA (.builtin "property.setter") (R 534)
def gg:=tO []
def gf:=fO []
def ge:=tO [sv "self" 1043,sv "value" 1044]
def gc:=tO []
def gb:=gO (M 37 11) "contents" "Sequence.contents"
def gZ:=cO "contents" "Sequence.contents" 1040 648 2 0 0 3 536 true 537 [N,R 538,R 539,R 540] 1045
def gY:=xO "function" (FN (M 37 11) (S "contents") (S "Sequence.contents") 3 [] N N N Ai none (R 541) N 0)
def gX:=kO "property" [R 533,R 542,N,N,sv "contents" 1038,.bool false]
def gW:=tO []
def gV:=fO []
def gU:=tO [sv "self" 1052,sv "mutated" 1053,sv "child" 1054]
def gT:=tO []
def gR:=gO (M 37 12) "_is_mutated" "Sequence._is_mutated"
def gQ:=cO "_is_mutated" "Sequence._is_mutated" 1049 652 1 0 0 3 544 true 545 [N,R 546,R 547,R 548] 1055
def gP:=xO "function" (FN (M 37 12) (S "_is_mutated") (S "Sequence._is_mutated") 3 [] N N N Ai none (R 549) N 0)
def gN:=tO []
def gM:=fO []
def gL:=tO [sv "self" 1061,sv "index" 1062,sv "child" 1063]
def gK:=tO []
def gJ:=gO (M 37 13) "_lazy_child" "Sequence._lazy_child"
def gH:=cO "_lazy_child" "Sequence._lazy_child" 1058 660 2 0 0 3 551 true 552 [N,R 553,R 554,R 555] 1064
def gG:=xO "function" (FN (M 37 13) (S "_lazy_child") (S "Sequence._lazy_child") 3 [] N N N Ai none (R 556) N 0)
def gF:=tO []
def gE:=fO []
def gD:=tO [sv "self" 1070]
def gC:=tO []
def gA:=gO (M 37 14) "__len__" "Sequence.__len__"
def f0:=cO "__len__" "Sequence.__len__" 1067 666 1 0 0 3 558 true 559 [N,R 560,R 561,R 562] 1071
def fz:=xO "function" (FN (M 37 14) (S "__len__") (S "Sequence.__len__") 3 [] N N N Ai none (R 563) N 0)
def fw:=tO []
def fu:=fO []
def ft:=tO [sv "self" 1077,sv "key" 1078,sv "e" 1079]
def fq:=tO []
def fo:=gO (M 37 15) "__getitem__" "Sequence.__getitem__"
def fm:=cO "__getitem__" "Sequence.__getitem__" 1074 671 2 0 0 3 565 true 566 [N,R 567,R 568,R 569] 1080
def fk:=xO "function" (FN (M 37 15) (S "__getitem__") (S "Sequence.__getitem__") 3 [] N N N Ai none (R 570) N 0)
def fj:=tO []
def fh:=fO []
def fg:=tO [sv "self" 1086,sv "key" 1087,sv "value" 1088,sv "field_name" 1089,sv "field_spec" 1090,sv "value_spec" 1091,sv "field_params" 1092,sv "_" 1093,sv "new_value" 1094,sv "invalid_value" 1095]
def ff:=tO []
def fe:=gO (M 37 16) "__setitem__" "Sequence.__setitem__"
def fc:=cO "__setitem__" "Sequence.__setitem__" 1083 685 3 0 0 3 572 true 573 [N,R 574,R 575,R 576] 1096
def fZ:=xO "function" (FN (M 37 16) (S "__setitem__") (S "Sequence.__setitem__") 3 [] N N N Ai none (R 577) N 0)
def fY:=tO []
def fX:=fO []
def fW:=tO [sv "self" 1102,sv "key" 1103,sv "name" 1104,sv "_" 1105,sv "params" 1106]
def fV:=tO []
def fU:=gO (M 37 17) "__delitem__" "Sequence.__delitem__"
def fT:=cO "__delitem__" "Sequence.__delitem__" 1099 702 2 0 0 3 579 true 580 [N,R 581,R 582,R 583] 1107
def fS:=xO "function" (FN (M 37 17) (S "__delitem__") (S "Sequence.__delitem__") 3 [] N N N Ai none (R 584) N 0)
def fR:=tO []
def fQ:=fO []
def fP:=tO [sv "self" 1113,sv "info" 1114]
def fN:=tO []
def fM:=gO (M 37 18) "__iter__" "Sequence.__iter__"
def fL:=cO "__iter__" "Sequence.__iter__" 1110 720 1 0 0 35 586 true 587 [N,R 588,R 589,R 590] 1115
def fK:=xO "function" (FN (M 37 18) (S "__iter__") (S "Sequence.__iter__") 3 [] N N N Ai none (R 591) N 0)
def fJ:=tO [.bool false]
def fI:=tO []
def fH:=fO []
def fG:=tO [sv "self" 1121,sv "force" 1122,sv "contents" 1123,sv "index" 1124,sv "info" 1125,sv "child" 1126,sv "child_dump" 1127,sv "default_value" 1128]
def fF:=tO []
def fD:=gO (M 37 19) "_set_contents" "Sequence._set_contents"
def fC:=cO "_set_contents" "Sequence._set_contents" 1118 724 2 0 0 3 594 true 595 [N,R 596,R 597,R 598] 1129
def fB:=xO "function" (FN (M 37 19) (S "_set_contents") (S "Sequence._set_contents") 3 [] (R 593) N N Ai none (R 599) N 0)
def fA:=tO []
def ez:=fO []
def ey:=gO (M 37 20) "_setup" "Sequence._setup"
def ew:=cO "_setup" "Sequence._setup" 1132 749 1 0 0 3 601 true 602 [N,N,N,R 603] 1135
def eu:=xO "function" (FN (M 37 20) (S "_setup") (S "Sequence._setup") 3 [] N N N Ai none (R 604) N 0)
def et:=tO []
def er:=fO []
def eq:=tO [sv "self" 1141,sv "index" 1142,sv "name" 1143,sv "field_spec" 1144,sv "field_params" 1145,sv "value_spec" 1146,sv "spec_override" 1147]
def eo:=tO []
def en:=gO (M 37 21) "_determine_spec" "Sequence._determine_spec"
def ek:=cO "_determine_spec" "Sequence._determine_spec" 1138 757 2 0 0 3 606 true 607 [N,R 608,R 609,R 610] 1148
def ej:=xO "function" (FN (M 37 21) (S "_determine_spec") (S "Sequence._determine_spec") 3 [] N N N Ai none (R 611) N 0)
def ei:=tO []
def eh:=fO []
def eg:=tO [sv "self" 1154,sv "field_name" 1155,sv "field_spec" 1156,sv "value_spec" 1157,sv "field_params" 1158,sv "value" 1159,sv "new_value" 1160]
def ef:=tO []
def ee:=gO (M 37 22) "_make_value" "Sequence._make_value"
def ed:=cO "_make_value" "Sequence._make_value" 1151 763 6 0 0 3 613 true 614 [N,R 615,R 616,R 617] 1161
def ec:=xO "function" (FN (M 37 22) (S "_make_value") (S "Sequence._make_value") 3 [] N N N Ai none (R 618) N 0)
def eZ:=tO [.bool false]
def eY:=tO []
def eX:=fO []
def eW:=tO [sv "self" 1167,sv "recurse" 1168,sv "index" 1169,sv "_" 1170,sv "params" 1171,sv "field_name" 1172,sv "field_spec" 1173,sv "value_spec" 1174,sv "field_params" 1175,sv "contents_length" 1176,sv "child_pointer" 1177,sv "field" 1178,sv "field_len" 1179,sv "parts" 1180,sv "again" 1181,sv "spec_override" 1182,sv "child" 1183,sv "missed_fields" 1184,sv "prev_field" 1185,sv "prev_field_info" 1186,sv "plural" 1187,sv "missed_field_names" 1188,sv "name" 1189,sv "e" 1190]
def eV:=tO []
def eU:=gO (M 37 23) "_parse_children" "Sequence._parse_children"
def eT:=cO "_parse_children" "Sequence._parse_children" 1164 771 2 0 0 3 621 true 622 [N,R 623,R 624,R 625] 1191
def eS:=xO "function" (FN (M 37 23) (S "_parse_children") (S "Sequence._parse_children") 3 [] (R 620) N N Ai none (R 626) N 0)
def eR:=tO []
def eQ:=fO []
def eP:=tO [sv "self" 1197,sv "index" 1198,sv "child" 1199,sv "name" 1200,sv "e" 1201]
def eO:=tO []
def eN:=gO (M 37 24) "native" "Sequence.native"
def eM:=cO "native" "Sequence.native" 1194 840 1 0 0 3 628 true 629 [N,R 630,R 631,R 632] 1202
def eL:=xO "function" (FN (M 37 24) (S "native") (S "Sequence.native") 3 [] N N N Ai none (R 633) N 0)
def eK:=kO "property" [R 634,N,N,N,sv "native" 1205,.bool false]
def eJ:=tO [.bool false]
def eI:=tO []
def eH:=fO []
def eG:=tO [sv "self" 1209,sv "force" 1210,sv "index" 1211,sv "field_name" 1212,sv "_" 1213,sv "params" 1214]
def eF:=tO []
def eE:=gO (M 37 25) "dump" "Sequence.dump"
def eD:=cO "dump" "Sequence.dump" 1206 863 2 0 0 3 637 true 638 [N,R 639,R 640,R 641] 1215
def eB:=xO "function" (FN (M 37 25) (S "dump") (S "Sequence.dump") 3 [] (R 636) N N Ai none (R 642) N 0)
def d9:=tO [sv "_contents" 1218,sv "_field_ids" 1219,sv "_field_map" 1220,sv "_fields" 1221,sv "_header" 1222,sv "_mutated" 1223,sv "_native" 1224,sv "_trailer" 1225,sv "children" 1226]
def d8(P:Params):=dO [ev P "__module__" 1008 Ai,ev P "__firstlineno__" 1012 (.int (594) 1011),ev P "tag" 1014 (.int (16) 1013),ev P "class_" 1016 (.int (0) 1015),ev P "method" 1018 (.int (1) 1017),ev P "children" 1019 N,ev P "_contents" 1020 N,ev P "_mutated" 1021 (.bool false),ev P "_fields" 1022 (R 520),ev P "_field_map" 1023 N,ev P "_field_ids" 1024 N,ev P "__init__" 1030 (R 526),ev P "contents" 1038 (R 543),ev P "_is_mutated" 1057 (R 550),ev P "_lazy_child" 1066 (R 557),ev P "__len__" 1073 (R 564),ev P "__getitem__" 1082 (R 571),ev P "__setitem__" 1098 (R 578),ev P "__delitem__" 1109 (R 585),ev P "__iter__" 1117 (R 592),ev P "_set_contents" 1131 (R 600),ev P "_setup" 1137 (R 605),ev P "_determine_spec" 1150 (R 612),ev P "_make_value" 1163 (R 619),ev P "_parse_children" 1193 (R 627),ev P "native" 1205 (R 635),ev P "dump" 1217 (R 643),ev P "__static_attributes__" 1227 (R 644),ev P "__doc__" 1228 N] 2
def IQ:Obj:=⟨(.type "type"),none,(CL (S "Sequence") [(R 121)] [(R 646),(R 121),(.type "object")] 645 (S "Sequence") true [] [] false none false),([some (R 513),none,some (sv "Sequence" 1001),some (sv "Sequence" 1009),some (.builtin "object.__new__"),some (.bool true)]).toArray⟩
def d6:=kO "super" [R 646,R 646,R 646]
def d5:=DA (.builtin "object.__init_subclass__") (R 646)
def kT(P:Params):=dT (Ak P) 43 [(0,ev P "__name__" 165 Ai)] 43
def U4:=fO [iv 1,iv 0,R 20,iv 5,iv 0,R 27,iv 11,iv 0,R 34,iv 13,iv 0,R 41,iv 16,iv 0,R 49,iv 29,iv 0,R 57,iv 35,iv 0,R 65,iv 87,iv 0,R 72,iv 115,iv 0,R 83,iv 117,iv 0,R 90,iv 237,iv 0,R 131,iv 256,iv 0,R 183,iv 289,iv 0,R 218,iv 313,iv 0,R 251,iv 333,iv 0,R 285,iv 357,iv 0,R 319,iv 394,iv 0,R 354,iv 464,iv 0,R 395,iv 489,iv 0,R 422,iv 519,iv 0,R 456,iv 529,iv 0,R 483,iv 594,iv 0,R 518,iv 878,iv 0,R 654]
def VL:Obj:=⟨(.type "type"),none,(CL (S "Asn1Value") [(.type "object")] [(R 121),(.type "object")] 120 (S "Asn1Value") true [] [(R 172),(R 210),(R 646),(R 776)] false none false),([some (R 85),none,some (sv "Asn1Value" 344),some (sv "Asn1Value" 352),some (.builtin "object.__new__"),some (.bool true)]).toArray⟩
def d4:=tO [R 121]
def d0:=DA (.builtin "type.__prepare__") (.type "type")
def dz(P:Params):=dO [ev P "__module__" 1238 Ai,ev P "__qualname__" 1240 (sv "SequenceOf" 1239),ev P "__firstlineno__" 1242 (.int (878) 1241),ev P "tag" 1244 (.int (16) 1243),ev P "class_" 1246 (.int (0) 1245),ev P "method" 1248 (.int (1) 1247),ev P "children" 1249 N,ev P "_contents" 1250 N,ev P "_mutated" 1251 (.bool false),ev P "_child_spec" 1252 N,ev P "__init__" 1267 (R 663),ev P "contents" 1275 (R 680),ev P "_is_mutated" 1294 (R 687),ev P "_lazy_child" 1303 (R 694),ev P "_make_value" 1311 (R 701),ev P "__len__" 1318 (R 708),ev P "__getitem__" 1326 (R 715),ev P "__setitem__" 1336 (R 722),ev P "__delitem__" 1344 (R 729),ev P "__iter__" 1352 (R 736),ev P "append" 1360 (R 743),ev P "_set_contents" 1370 (R 751),ev P "_parse_children" 1383 (R 759),ev P "native" 1390 (R 765),ev P "dump" 1398 (R 773),ev P "__static_attributes__" 1407 (R 774)] 26
def dy:=tO []
def dw:=fO [iv 887,iv 4,R 662,iv 906,iv 4,R 669,iv 914,iv 4,R 678,iv 917,iv 4,R 686,iv 925,iv 4,R 693,iv 932,iv 4,R 700,iv 937,iv 4,R 707,iv 942,iv 4,R 714,iv 947,iv 4,R 721,iv 960,iv 4,R 728,iv 968,iv 4,R 735,iv 974,iv 4,R 742,iv 982,iv 4,R 750,iv 993,iv 4,R 758,iv 1016,iv 4,R 763,iv 1028,iv 4,R 772]
def du:=cO "SequenceOf" "SequenceOf" 1233 878 0 0 0 0 652 false 653 [N,N,N,N] 1236
def ds:Obj:=⟨(.type "frame"),none,.plain,([some (R 654),some (R 3),some (R 651),none,some Ai,none,some (R 0)]).toArray⟩
def dr:=tO [N,N,N,N]
def dq:=tO []
def dp:=fO []
def dl:=tO [sv "self" 1256,sv "value" 1257,sv "default" 1258,sv "contents" 1259,sv "spec" 1260,sv "kwargs" 1261,sv "index" 1262,sv "child" 1263,sv "e" 1264]
def dk:=tO []
def dj:=gO (M 38 7) "__init__" "SequenceOf.__init__"
def dh:=cO "__init__" "SequenceOf.__init__" 1253 887 5 0 0 11 657 true 658 [N,R 659,R 660,R 661] 1265
def dg:=xO "function" (FN (M 38 7) (S "__init__") (S "SequenceOf.__init__") 3 [] (R 656) N N Ai none (R 662) N 0)
def df:=tO []
def de:=fO []
def dc:=tO [sv "self" 1271]
def db:=tO []
def da:=gO (M 38 8) "contents" "SequenceOf.contents"
def dZ:=cO "contents" "SequenceOf.contents" 1268 905 1 0 0 3 664 true 665 [N,R 666,R 667,R 668] 1272
def dY:=xO "function" (FN (M 38 8) (S "contents") (S "SequenceOf.contents") 3 [] N N N Ai none (R 669) N 0)
def dX:=kO "property" [R 670,N,N,N,iv 0,.bool false]
def dW:=DA (.builtin "property.setter") (R 671)
def dU:=tO []
def dS:=fO []
def dR:=tO [sv "self" 1280,sv "value" 1281]
def dQ:=tO []
def dP:=gO (M 38 9) "contents" "SequenceOf.contents"
def dN:=cO "contents" "SequenceOf.contents" 1277 913 2 0 0 3 673 true 674 [N,R 675,R 676,R 677] 1282
def dM:=xO "function" (FN (M 38 9) (S "contents") (S "SequenceOf.contents") 3 [] N N N Ai none (R 678) N 0)
def dL:=kO "property" [R 670,R 679,N,N,sv "contents" 1275,.bool false]
def dK:=tO []
def dJ:=fO []
def dI:=tO [sv "self" 1289,sv "mutated" 1290,sv "child" 1291]
def dH:=tO []
def dG:=gO (M 38 10) "_is_mutated" "SequenceOf._is_mutated"
def dF:=cO "_is_mutated" "SequenceOf._is_mutated" 1286 917 1 0 0 3 681 true 682 [N,R 683,R 684,R 685] 1292
def dE:=xO "function" (FN (M 38 10) (S "_is_mutated") (S "SequenceOf._is_mutated") 3 [] N N N Ai none (R 686) N 0)
def dD:=tO []
def dC:=fO []
def dB:=tO [sv "self" 1298,sv "index" 1299,sv "child" 1300]
def dA:=tO []
def c9:=gO (M 38 11) "_lazy_child" "SequenceOf._lazy_child"
def c8:=cO "_lazy_child" "SequenceOf._lazy_child" 1295 925 2 0 0 3 688 true 689 [N,R 690,R 691,R 692] 1301
def c7:=xO "function" (FN (M 38 11) (S "_lazy_child") (S "SequenceOf._lazy_child") 3 [] N N N Ai none (R 693) N 0)
def c6:=tO []
def c5:=fO []
def c4:=tO [sv "self" 1307,sv "value" 1308]
def cz:=tO []
def cw:=gO (M 38 12) "_make_value" "SequenceOf._make_value"
def cu:=cO "_make_value" "SequenceOf._make_value" 1304 932 2 0 0 3 695 true 696 [N,R 697,R 698,R 699] 1309
def cr:=xO "function" (FN (M 38 12) (S "_make_value") (S "SequenceOf._make_value") 3 [] N N N Ai none (R 700) N 0)
def cj:=tO []
def ci:=fO []
def ch:=tO [sv "self" 1315]
def cg:=tO []
def cf:=gO (M 38 13) "__len__" "SequenceOf.__len__"
def cc:=cO "__len__" "SequenceOf.__len__" 1312 937 1 0 0 3 702 true 703 [N,R 704,R 705,R 706] 1316
def cb:=xO "function" (FN (M 38 13) (S "__len__") (S "SequenceOf.__len__") 3 [] N N N Ai none (R 707) N 0)
def cZ:=tO []
def cY:=fO []
def cX:=tO [sv "self" 1322,sv "key" 1323]
def cW:=tO []
def cV:=gO (M 38 14) "__getitem__" "SequenceOf.__getitem__"
def cU:=cO "__getitem__" "SequenceOf.__getitem__" 1319 942 2 0 0 3 709 true 710 [N,R 711,R 712,R 713] 1324
def cS:=xO "function" (FN (M 38 14) (S "__getitem__") (S "SequenceOf.__getitem__") 3 [] N N N Ai none (R 714) N 0)
def cR:=tO []
def cQ:=fO []
def cP:=tO [sv "self" 1330,sv "key" 1331,sv "value" 1332,sv "new_value" 1333]
def cN:=tO []
def cM:=gO (M 38 15) "__setitem__" "SequenceOf.__setitem__"
def cL:=cO "__setitem__" "SequenceOf.__setitem__" 1327 947 3 0 0 3 716 true 717 [N,R 718,R 719,R 720] 1334
def cK:=xO "function" (FN (M 38 15) (S "__setitem__") (S "SequenceOf.__setitem__") 3 [] N N N Ai none (R 721) N 0)
def cJ:=tO []
def cI:=fO []
def cH:=tO [sv "self" 1340,sv "key" 1341]
def cG:=tO []
def cE:=gO (M 38 16) "__delitem__" "SequenceOf.__delitem__"
def cD:=cO "__delitem__" "SequenceOf.__delitem__" 1337 960 2 0 0 3 723 true 724 [N,R 725,R 726,R 727] 1342
def cC:=xO "function" (FN (M 38 16) (S "__delitem__") (S "SequenceOf.__delitem__") 3 [] N N N Ai none (R 728) N 0)
def cB:=tO []
def cA:=fO []
def b9:=tO [sv "self" 1348,sv "index" 1349]
def b8:=tO []
def bz:=gO (M 38 17) "__iter__" "SequenceOf.__iter__"
def bx:=cO "__iter__" "SequenceOf.__iter__" 1345 968 1 0 0 35 730 true 731 [N,R 732,R 733,R 734] 1350
def bw:=xO "function" (FN (M 38 17) (S "__iter__") (S "SequenceOf.__iter__") 3 [] N N N Ai none (R 735) N 0)
def bv:=tO []
def bu:=fO []
def br:=tO [sv "self" 1356,sv "value" 1357]
def bq:=tO []
def bp:=gO (M 38 18) "append" "SequenceOf.append"
def bo:=cO "append" "SequenceOf.append" 1353 974 2 0 0 3 737 true 738 [N,R 739,R 740,R 741] 1358
def bn:=xO "function" (FN (M 38 18) (S "append") (S "SequenceOf.append") 3 [] N N N Ai none (R 742) N 0)
def bk:=tO [.bool false]
def bj:=tO []
def bi:=fO []
def bh:=tO [sv "self" 1364,sv "force" 1365,sv "contents" 1366,sv "child" 1367]
def be:=tO []
def bc:=gO (M 38 19) "_set_contents" "SequenceOf._set_contents"
def bZ:=cO "_set_contents" "SequenceOf._set_contents" 1361 982 2 0 0 3 745 true 746 [N,R 747,R 748,R 749] 1368
def bY:=xO "function" (FN (M 38 19) (S "_set_contents") (S "SequenceOf._set_contents") 3 [] (R 744) N N Ai none (R 750) N 0)
def bX:=tO [.bool false]
def bW:=tO []
def bV:=fO []
def bU:=tO [sv "self" 1374,sv "recurse" 1375,sv "contents_length" 1376,sv "child_pointer" 1377,sv "parts" 1378,sv "child" 1379,sv "e" 1380]
def bT:=tO []
def bQ:=gO (M 38 20) "_parse_children" "SequenceOf._parse_children"
def bP:=cO "_parse_children" "SequenceOf._parse_children" 1371 993 2 0 0 3 753 true 754 [N,R 755,R 756,R 757] 1381
def bO:=xO "function" (FN (M 38 20) (S "_parse_children") (S "SequenceOf._parse_children") 3 [] (R 752) N N Ai none (R 758) N 0)
def bN:=tO []
def bM:=fO []
def bL:=gO (M 38 21) "native" "SequenceOf.native"
def bK:=cO "native" "SequenceOf.native" 1384 1015 1 0 0 3 760 true 761 [N,N,N,R 762] 1387
def bJ:=xO "function" (FN (M 38 21) (S "native") (S "SequenceOf.native") 3 [] N N N Ai none (R 763) N 0)
def bI:=kO "property" [R 764,N,N,N,sv "native" 1390,.bool false]
def bH:=tO [.bool false]
def bG:=tO []
def bC:=fO []
def a9:=tO [sv "self" 1394,sv "force" 1395]
def a8:=tO []
def az:=gO (M 38 22) "dump" "SequenceOf.dump"
def ay:=cO "dump" "SequenceOf.dump" 1391 1028 2 0 0 3 767 true 768 [N,R 769,R 770,R 771] 1396
def ax:=xO "function" (FN (M 38 22) (S "dump") (S "SequenceOf.dump") 3 [] (R 766) N N Ai none (R 772) N 0)
def aw:=tO [sv "_child_spec" 1399,sv "_contents" 1400,sv "_header" 1401,sv "_mutated" 1402,sv "_native" 1403,sv "_trailer" 1404,sv "children" 1405,sv "contents" 1406]
def av(P:Params):=dO [ev P "__module__" 1238 Ai,ev P "__firstlineno__" 1242 (.int (878) 1241),ev P "tag" 1244 (.int (16) 1243),ev P "class_" 1246 (.int (0) 1245),ev P "method" 1248 (.int (1) 1247),ev P "children" 1249 N,ev P "_contents" 1250 N,ev P "_mutated" 1251 (.bool false),ev P "_child_spec" 1252 N,ev P "__init__" 1267 (R 663),ev P "contents" 1275 (R 680),ev P "_is_mutated" 1294 (R 687),ev P "_lazy_child" 1303 (R 694),ev P "_make_value" 1311 (R 701),ev P "__len__" 1318 (R 708),ev P "__getitem__" 1326 (R 715),ev P "__setitem__" 1336 (R 722),ev P "__delitem__" 1344 (R 729),ev P "__iter__" 1352 (R 736),ev P "append" 1360 (R 743),ev P "_set_contents" 1370 (R 751),ev P "_parse_children" 1383 (R 759),ev P "native" 1390 (R 765),ev P "dump" 1398 (R 773),ev P "__static_attributes__" 1407 (R 774),ev P "__doc__" 1408 N] 2
def QL:Obj:=⟨(.type "type"),none,(CL (S "SequenceOf") [(R 121)] [(R 776),(R 121),(.type "object")] 775 (S "SequenceOf") true [] [] false none false),([some (R 649),none,some (sv "SequenceOf" 1231),some (sv "SequenceOf" 1239),some (.builtin "object.__new__"),some (.bool true)]).toArray⟩
def aq:=kO "super" [R 776,R 776,R 776]
def ao:=DA (.builtin "object.__init_subclass__") (R 776)
def kS(P:Params):=dT (Ak P) 44 [(0,ev P "__name__" 165 Ai)] 44
def U3:=fO [iv 1,iv 0,R 20,iv 5,iv 0,R 27,iv 11,iv 0,R 34,iv 13,iv 0,R 41,iv 16,iv 0,R 49,iv 29,iv 0,R 57,iv 35,iv 0,R 65,iv 87,iv 0,R 72,iv 115,iv 0,R 83,iv 117,iv 0,R 90,iv 237,iv 0,R 131,iv 256,iv 0,R 183,iv 289,iv 0,R 218,iv 313,iv 0,R 251,iv 333,iv 0,R 285,iv 357,iv 0,R 319,iv 394,iv 0,R 354,iv 464,iv 0,R 395,iv 489,iv 0,R 422,iv 519,iv 0,R 456,iv 529,iv 0,R 483,iv 594,iv 0,R 518,iv 878,iv 0,R 654,iv 1034,iv 0,R 784]
def LW:Obj:=⟨(.type "type"),none,(CL (S "SequenceOf") [(R 121)] [(R 776),(R 121),(.type "object")] 775 (S "SequenceOf") true [] [(R 796)] false none false),([some (R 649),none,some (sv "SequenceOf" 1231),some (sv "SequenceOf" 1239),some (.builtin "object.__new__"),some (.bool true)]).toArray⟩
def am:=tO [R 776]
def ak:=DA (.builtin "type.__prepare__") (.type "type")
def aj(P:Params):=dO [ev P "__module__" 1418 Ai,ev P "__qualname__" 1420 (sv "SetOf" 1419),ev P "__firstlineno__" 1422 (.int (1034) 1421),ev P "tag" 1424 (.int (17) 1423),ev P "_set_contents" 1434 (R 793),ev P "__static_attributes__" 1438 (R 794)] 6
def ai:=tO []
def ah:=fO [iv 1037,iv 4,R 792]
def ag:=cO "SetOf" "SetOf" 1413 1034 0 0 0 0 782 false 783 [N,N,N,N] 1416
def af:Obj:=⟨(.type "frame"),none,.plain,([some (R 784),some (R 3),some (R 781),none,some Ai,none,some (R 0)]).toArray⟩
def ae:=tO [.bool false]
def aa:=tO []
def aZ:=fO []
def aY:=tO [sv "self" 1428,sv "force" 1429,sv "child_encodings" 1430,sv "child" 1431]
def aX:=tO []
def aW:=gO (M 39 1) "_set_contents" "SetOf._set_contents"
def aV:=cO "_set_contents" "SetOf._set_contents" 1425 1037 2 0 0 3 787 true 788 [N,R 789,R 790,R 791] 1432
def aU:=xO "function" (FN (M 39 1) (S "_set_contents") (S "SetOf._set_contents") 3 [] (R 786) N N Ai none (R 792) N 0)
def aT:=tO [sv "_contents" 1435,sv "_header" 1436,sv "_trailer" 1437]
def aS(P:Params):=dO [ev P "__module__" 1418 Ai,ev P "__firstlineno__" 1422 (.int (1034) 1421),ev P "tag" 1424 (.int (17) 1423),ev P "_set_contents" 1434 (R 793),ev P "__static_attributes__" 1438 (R 794),ev P "__doc__" 1439 N] 2
def aR:Obj:=⟨(.type "type"),none,(CL (S "SetOf") [(R 776)] [(R 796),(R 776),(R 121),(.type "object")] 795 (S "SetOf") true [] [] false none false),([some (R 779),none,some (sv "SetOf" 1411),some (sv "SetOf" 1419),some (.builtin "object.__new__"),some (.bool true)]).toArray⟩
def aQ:=kO "super" [R 796,R 796,R 796]
def aP:=DA (.builtin "object.__init_subclass__") (R 796)
def kR(P:Params):=dT (Ak P) 45 [(0,ev P "__name__" 165 Ai)] 45
def U2:=fO [iv 1,iv 0,R 20,iv 5,iv 0,R 27,iv 11,iv 0,R 34,iv 13,iv 0,R 41,iv 16,iv 0,R 49,iv 29,iv 0,R 57,iv 35,iv 0,R 65,iv 87,iv 0,R 72,iv 115,iv 0,R 83,iv 117,iv 0,R 90,iv 237,iv 0,R 131,iv 256,iv 0,R 183,iv 289,iv 0,R 218,iv 313,iv 0,R 251,iv 333,iv 0,R 285,iv 357,iv 0,R 319,iv 394,iv 0,R 354,iv 464,iv 0,R 395,iv 489,iv 0,R 422,iv 519,iv 0,R 456,iv 529,iv 0,R 483,iv 594,iv 0,R 518,iv 878,iv 0,R 654,iv 1034,iv 0,R 784,iv 1047,iv 0,R 804]
def LX:Obj:=⟨(.type "type"),none,(CL (S "Sequence") [(R 121)] [(R 646),(R 121),(.type "object")] 645 (S "Sequence") true [] [(R 813)] false none false),([some (R 513),none,some (sv "Sequence" 1001),some (sv "Sequence" 1009),some (.builtin "object.__new__"),some (.bool true)]).toArray⟩
def aO:=tO [R 646]
def aM:=DA (.builtin "type.__prepare__") (.type "type")
def aL(P:Params):=dO [ev P "__module__" 1449 Ai,ev P "__qualname__" 1451 (sv "Extension" 1450),ev P "__firstlineno__" 1453 (.int (1047) 1452),ev P "_fields" 1459 (R 810),ev P "__static_attributes__" 1460 (R 811)] 5
def aK:=tO []
def aJ:=fO []
def aH:=cO "Extension" "Extension" 1444 1047 0 0 0 0 802 false 803 [N,N,N,N] 1447
def aG:Obj:=⟨(.type "frame"),none,.plain,([some (R 804),some (R 3),some (R 801),none,some Ai,none,some (R 0)]).toArray⟩
def aF:=tO [sv "extn_id" 1454,R 510]
def aE(P:Params):=dO [ev P "default" 1456 (.bool false)] 1
def aD:=tO [sv "critical" 1455,R 277,R 807]
def aC:=tO [sv "extn_value" 1458,R 448]
def Z9:=xO "list" (.seq ([(R 806),(R 808),(R 809)]).toArray 0)
def Z8:=tO []
def Z7(P:Params):=dO [ev P "__module__" 1449 Ai,ev P "__firstlineno__" 1453 (.int (1047) 1452),ev P "_fields" 1459 (R 810),ev P "__static_attributes__" 1460 (R 811),ev P "__doc__" 1461 N] 2
def Z6:Obj:=⟨(.type "type"),none,(CL (S "Extension") [(R 646)] [(R 813),(R 646),(R 121),(.type "object")] 812 (S "Extension") true [] [] false none false),([some (R 799),none,some (sv "Extension" 1442),some (sv "Extension" 1450),some (.builtin "object.__new__"),some (.bool true)]).toArray⟩
def Z5:=kO "super" [R 813,R 813,R 813]
def Z4:=DA (.builtin "object.__init_subclass__") (R 813)
def kQ(P:Params):=dT (Ak P) 46 [(0,ev P "__name__" 165 Ai)] 46
def U1:=fO [iv 1,iv 0,R 20,iv 5,iv 0,R 27,iv 11,iv 0,R 34,iv 13,iv 0,R 41,iv 16,iv 0,R 49,iv 29,iv 0,R 57,iv 35,iv 0,R 65,iv 87,iv 0,R 72,iv 115,iv 0,R 83,iv 117,iv 0,R 90,iv 237,iv 0,R 131,iv 256,iv 0,R 183,iv 289,iv 0,R 218,iv 313,iv 0,R 251,iv 333,iv 0,R 285,iv 357,iv 0,R 319,iv 394,iv 0,R 354,iv 464,iv 0,R 395,iv 489,iv 0,R 422,iv 519,iv 0,R 456,iv 529,iv 0,R 483,iv 594,iv 0,R 518,iv 878,iv 0,R 654,iv 1034,iv 0,R 784,iv 1047,iv 0,R 804,iv 1049,iv 0,R 821]
def au:Obj:=⟨(.type "type"),none,(CL (S "SequenceOf") [(R 121)] [(R 776),(R 121),(.type "object")] 775 (S "SequenceOf") true [] [(R 796),(R 825)] false none false),([some (R 649),none,some (sv "SequenceOf" 1231),some (sv "SequenceOf" 1239),some (.builtin "object.__new__"),some (.bool true)]).toArray⟩
def Z3:=tO [R 776]
def Z1:=DA (.builtin "type.__prepare__") (.type "type")
def Z0(P:Params):=dO [ev P "__module__" 1471 Ai,ev P "__qualname__" 1473 (sv "Extensions" 1472),ev P "__firstlineno__" 1475 (.int (1049) 1474),ev P "_child_spec" 1476 (R 813),ev P "__static_attributes__" 1477 (R 823)] 5
def Zz:=tO []
def Zy:=fO []
def Zx:=cO "Extensions" "Extensions" 1466 1049 0 0 0 0 819 false 820 [N,N,N,N] 1469
def Zw:Obj:=⟨(.type "frame"),none,.plain,([some (R 821),some (R 3),some (R 818),none,some Ai,none,some (R 0)]).toArray⟩
def Zv:=tO []
def Zu(P:Params):=dO [ev P "__module__" 1471 Ai,ev P "__firstlineno__" 1475 (.int (1049) 1474),ev P "_child_spec" 1476 (R 813),ev P "__static_attributes__" 1477 (R 823),ev P "__doc__" 1478 N] 2
def Zt:Obj:=⟨(.type "type"),none,(CL (S "Extensions") [(R 776)] [(R 825),(R 776),(R 121),(.type "object")] 824 (S "Extensions") true [] [] false none false),([some (R 816),none,some (sv "Extensions" 1464),some (sv "Extensions" 1472),some (.builtin "object.__new__"),some (.bool true)]).toArray⟩
def Zs:=kO "super" [R 825,R 825,R 825]
def Zr:=DA (.builtin "object.__init_subclass__") (R 825)
def kP(P:Params):=dT (Ak P) 47 [(0,ev P "__name__" 165 Ai)] 47
def U0:=fO [iv 1,iv 0,R 20,iv 5,iv 0,R 27,iv 11,iv 0,R 34,iv 13,iv 0,R 41,iv 16,iv 0,R 49,iv 29,iv 0,R 57,iv 35,iv 0,R 65,iv 87,iv 0,R 72,iv 115,iv 0,R 83,iv 117,iv 0,R 90,iv 237,iv 0,R 131,iv 256,iv 0,R 183,iv 289,iv 0,R 218,iv 313,iv 0,R 251,iv 333,iv 0,R 285,iv 357,iv 0,R 319,iv 394,iv 0,R 354,iv 464,iv 0,R 395,iv 489,iv 0,R 422,iv 519,iv 0,R 456,iv 529,iv 0,R 483,iv 594,iv 0,R 518,iv 878,iv 0,R 654,iv 1034,iv 0,R 784,iv 1047,iv 0,R 804,iv 1049,iv 0,R 821,iv 1051,iv 0,R 833]
def QO:Obj:=⟨(.type "type"),none,(CL (S "Sequence") [(R 121)] [(R 646),(R 121),(.type "object")] 645 (S "Sequence") true [] [(R 813),(R 844)] false none false),([some (R 513),none,some (sv "Sequence" 1001),some (sv "Sequence" 1009),some (.builtin "object.__new__"),some (.bool true)]).toArray⟩
def Zq:=tO [R 646]
def Zp:=DA (.builtin "type.__prepare__") (.type "type")
def Zo(P:Params):=dO [ev P "__module__" 1488 Ai,ev P "__qualname__" 1490 (sv "Accuracy" 1489),ev P "__firstlineno__" 1492 (.int (1051) 1491),ev P "_fields" 1508 (R 841),ev P "__static_attributes__" 1509 (R 842)] 5
def Zn:=tO []
def Zm:=fO []
def Zl:=cO "Accuracy" "Accuracy" 1483 1051 0 0 0 0 831 false 832 [N,N,N,N] 1486
def Zk:Obj:=⟨(.type "frame"),none,.plain,([some (R 833),some (R 3),some (R 830),none,some Ai,none,some (R 0)]).toArray⟩
def Zj(P:Params):=dO [ev P "optional" 1494 (.bool true)] 1
def Zi:=tO [sv "seconds" 1493,R 311,R 835]
def Zh(P:Params):=dO [ev P "implicit" 1497 (.int (0) 1498),ev P "optional" 1499 (.bool true)] 2
def Zg:=tO [sv "millis" 1496,R 311,R 837]
def Zf(P:Params):=dO [ev P "implicit" 1503 (.int (1) 1504),ev P "optional" 1505 (.bool true)] 2
def Ze:=tO [sv "micros" 1502,R 311,R 839]
def Zd:=xO "list" (.seq ([(R 836),(R 838),(R 840)]).toArray 0)
def Zc:=tO []
def Zb(P:Params):=dO [ev P "__module__" 1488 Ai,ev P "__firstlineno__" 1492 (.int (1051) 1491),ev P "_fields" 1508 (R 841),ev P "__static_attributes__" 1509 (R 842),ev P "__doc__" 1510 N] 2
def Za:Obj:=⟨(.type "type"),none,(CL (S "Accuracy") [(R 646)] [(R 844),(R 646),(R 121),(.type "object")] 843 (S "Accuracy") true [] [] false none false),([some (R 828),none,some (sv "Accuracy" 1481),some (sv "Accuracy" 1489),some (.builtin "object.__new__"),some (.bool true)]).toArray⟩
def ZZ:=kO "super" [R 844,R 844,R 844]
def ZY:=DA (.builtin "object.__init_subclass__") (R 844)
def kN(P:Params):=dT (Ak P) 48 [(0,ev P "__name__" 165 Ai)] 48
def Uz:=fO [iv 1,iv 0,R 20,iv 5,iv 0,R 27,iv 11,iv 0,R 34,iv 13,iv 0,R 41,iv 16,iv 0,R 49,iv 29,iv 0,R 57,iv 35,iv 0,R 65,iv 87,iv 0,R 72,iv 115,iv 0,R 83,iv 117,iv 0,R 90,iv 237,iv 0,R 131,iv 256,iv 0,R 183,iv 289,iv 0,R 218,iv 313,iv 0,R 251,iv 333,iv 0,R 285,iv 357,iv 0,R 319,iv 394,iv 0,R 354,iv 464,iv 0,R 395,iv 489,iv 0,R 422,iv 519,iv 0,R 456,iv 529,iv 0,R 483,iv 594,iv 0,R 518,iv 878,iv 0,R 654,iv 1034,iv 0,R 784,iv 1047,iv 0,R 804,iv 1049,iv 0,R 821,iv 1051,iv 0,R 833,iv 1053,iv 0,R 852]
def QN:Obj:=⟨(.type "type"),none,(CL (S "Sequence") [(R 121)] [(R 646),(R 121),(.type "object")] 645 (S "Sequence") true [] [(R 813),(R 844),(R 861)] false none false),([some (R 513),none,some (sv "Sequence" 1001),some (sv "Sequence" 1009),some (.builtin "object.__new__"),some (.bool true)]).toArray⟩
def ZX:=tO [R 646]
def ZW:=DA (.builtin "type.__prepare__") (.type "type")
def ZV(P:Params):=dO [ev P "__module__" 1520 Ai,ev P "__qualname__" 1522 (sv "BasicConstraints" 1521),ev P "__firstlineno__" 1524 (.int (1053) 1523),ev P "_fields" 1531 (R 858),ev P "__static_attributes__" 1532 (R 859)] 5
def ZU:=tO []
def ZT:=fO []
def ZS:=cO "BasicConstraints" "BasicConstraints" 1515 1053 0 0 0 0 850 false 851 [N,N,N,N] 1518
def ZR:Obj:=⟨(.type "frame"),none,.plain,([some (R 852),some (R 3),some (R 849),none,some Ai,none,some (R 0)]).toArray⟩
def ZQ(P:Params):=dO [ev P "default" 1526 (.bool false)] 1
def ZP:=tO [sv "ca" 1525,R 277,R 854]
def ZO(P:Params):=dO [ev P "optional" 1529 (.bool true)] 1
def ZN:=tO [sv "path_len_constraint" 1528,R 311,R 856]
def ZM:=xO "list" (.seq ([(R 855),(R 857)]).toArray 0)
def ZL:=tO []
def ZK(P:Params):=dO [ev P "__module__" 1520 Ai,ev P "__firstlineno__" 1524 (.int (1053) 1523),ev P "_fields" 1531 (R 858),ev P "__static_attributes__" 1532 (R 859),ev P "__doc__" 1533 N] 2
def ZJ:Obj:=⟨(.type "type"),none,(CL (S "BasicConstraints") [(R 646)] [(R 861),(R 646),(R 121),(.type "object")] 860 (S "BasicConstraints") true [] [] false none false),([some (R 847),none,some (sv "BasicConstraints" 1513),some (sv "BasicConstraints" 1521),some (.builtin "object.__new__"),some (.bool true)]).toArray⟩
def ZI:=kO "super" [R 861,R 861,R 861]
def ZH:=DA (.builtin "object.__init_subclass__") (R 861)
def kM(P:Params):=dT (Ak P) 49 [(0,ev P "__name__" 165 Ai)] 49
def Uy:=fO [iv 1,iv 0,R 20,iv 5,iv 0,R 27,iv 11,iv 0,R 34,iv 13,iv 0,R 41,iv 16,iv 0,R 49,iv 29,iv 0,R 57,iv 35,iv 0,R 65,iv 87,iv 0,R 72,iv 115,iv 0,R 83,iv 117,iv 0,R 90,iv 237,iv 0,R 131,iv 256,iv 0,R 183,iv 289,iv 0,R 218,iv 313,iv 0,R 251,iv 333,iv 0,R 285,iv 357,iv 0,R 319,iv 394,iv 0,R 354,iv 464,iv 0,R 395,iv 489,iv 0,R 422,iv 519,iv 0,R 456,iv 529,iv 0,R 483,iv 594,iv 0,R 518,iv 878,iv 0,R 654,iv 1034,iv 0,R 784,iv 1047,iv 0,R 804,iv 1049,iv 0,R 821,iv 1051,iv 0,R 833,iv 1053,iv 0,R 852,iv 1055,iv 0,R 869]
def QM:Obj:=⟨(.type "type"),none,(CL (S "Sequence") [(R 121)] [(R 646),(R 121),(.type "object")] 645 (S "Sequence") true [] [(R 813),(R 844),(R 861),(R 878)] false none false),([some (R 513),none,some (sv "Sequence" 1001),some (sv "Sequence" 1009),some (.builtin "object.__new__"),some (.bool true)]).toArray⟩
def ZG:=tO [R 646]
def ZF:=DA (.builtin "type.__prepare__") (.type "type")
def ZE(P:Params):=dO [ev P "__module__" 1543 Ai,ev P "__qualname__" 1545 (sv "PolicyConstraints" 1544),ev P "__firstlineno__" 1547 (.int (1055) 1546),ev P "_fields" 1560 (R 875),ev P "__static_attributes__" 1561 (R 876)] 5
def ZD:=tO []
def ZC:=fO []
def ZB:=cO "PolicyConstraints" "PolicyConstraints" 1538 1055 0 0 0 0 867 false 868 [N,N,N,N] 1541
def ZA:Obj:=⟨(.type "frame"),none,.plain,([some (R 869),some (R 3),some (R 866),none,some Ai,none,some (R 0)]).toArray⟩
def Y9(P:Params):=dO [ev P "implicit" 1549 (.int (0) 1550),ev P "optional" 1551 (.bool true)] 2
def Y8:=tO [sv "require_explicit_policy" 1548,R 311,R 871]
def Y7(P:Params):=dO [ev P "implicit" 1555 (.int (1) 1556),ev P "optional" 1557 (.bool true)] 2
def Y6:=tO [sv "inhibit_policy_mapping" 1554,R 311,R 873]
def Y5:=xO "list" (.seq ([(R 872),(R 874)]).toArray 0)
def Y4:=tO []
def Y3(P:Params):=dO [ev P "__module__" 1543 Ai,ev P "__firstlineno__" 1547 (.int (1055) 1546),ev P "_fields" 1560 (R 875),ev P "__static_attributes__" 1561 (R 876),ev P "__doc__" 1562 N] 2
def Y2:Obj:=⟨(.type "type"),none,(CL (S "PolicyConstraints") [(R 646)] [(R 878),(R 646),(R 121),(.type "object")] 877 (S "PolicyConstraints") true [] [] false none false),([some (R 864),none,some (sv "PolicyConstraints" 1536),some (sv "PolicyConstraints" 1544),some (.builtin "object.__new__"),some (.bool true)]).toArray⟩
def Y1:=kO "super" [R 878,R 878,R 878]
def Y0:=DA (.builtin "object.__init_subclass__") (R 878)
def kL(P:Params):=dT (Ak P) 50 [(0,ev P "__name__" 165 Ai)] 50
def N7:=fO [iv 1,iv 0,R 20,iv 5,iv 0,R 27,iv 11,iv 0,R 34,iv 13,iv 0,R 41,iv 16,iv 0,R 49,iv 29,iv 0,R 57,iv 35,iv 0,R 65,iv 87,iv 0,R 72,iv 115,iv 0,R 83,iv 117,iv 0,R 90,iv 237,iv 0,R 131,iv 256,iv 0,R 183,iv 289,iv 0,R 218,iv 313,iv 0,R 251,iv 333,iv 0,R 285,iv 357,iv 0,R 319,iv 394,iv 0,R 354,iv 464,iv 0,R 395,iv 489,iv 0,R 422,iv 519,iv 0,R 456,iv 529,iv 0,R 483,iv 594,iv 0,R 518,iv 878,iv 0,R 654,iv 1034,iv 0,R 784,iv 1047,iv 0,R 804,iv 1049,iv 0,R 821,iv 1051,iv 0,R 833,iv 1053,iv 0,R 852,iv 1055,iv 0,R 869,iv 1057,iv 0,R 886]
def d7:Obj:=⟨(.type "type"),none,(CL (S "Sequence") [(R 121)] [(R 646),(R 121),(.type "object")] 645 (S "Sequence") true [] [(R 813),(R 844),(R 861),(R 878),(R 893)] false none false),([some (R 513),none,some (sv "Sequence" 1001),some (sv "Sequence" 1009),some (.builtin "object.__new__"),some (.bool true)]).toArray⟩
def Yz:=tO [R 646]
def Yy:=DA (.builtin "type.__prepare__") (.type "type")
def Yx(P:Params):=dO [ev P "__module__" 1572 Ai,ev P "__qualname__" 1574 (sv "RSAPublicKey" 1573),ev P "__firstlineno__" 1576 (.int (1057) 1575),ev P "_fields" 1579 (R 890),ev P "__static_attributes__" 1580 (R 891)] 5
def Yw:=tO []
def Yv:=fO []
def Yu:=cO "RSAPublicKey" "RSAPublicKey" 1567 1057 0 0 0 0 884 false 885 [N,N,N,N] 1570
def Yt:Obj:=⟨(.type "frame"),none,.plain,([some (R 886),some (R 3),some (R 883),none,some Ai,none,some (R 0)]).toArray⟩
def Ys:=tO [sv "modulus" 1577,R 311]
def Yr:=tO [sv "public_exponent" 1578,R 311]
def Yq:=xO "list" (.seq ([(R 888),(R 889)]).toArray 0)
def Yp:=tO []
def Yo(P:Params):=dO [ev P "__module__" 1572 Ai,ev P "__firstlineno__" 1576 (.int (1057) 1575),ev P "_fields" 1579 (R 890),ev P "__static_attributes__" 1580 (R 891),ev P "__doc__" 1581 N] 2
def Yn:Obj:=⟨(.type "type"),none,(CL (S "RSAPublicKey") [(R 646)] [(R 893),(R 646),(R 121),(.type "object")] 892 (S "RSAPublicKey") true [] [] false none false),([some (R 881),none,some (sv "RSAPublicKey" 1565),some (sv "RSAPublicKey" 1573),some (.builtin "object.__new__"),some (.bool true)]).toArray⟩
def Ym:=kO "super" [R 893,R 893,R 893]
def Yl:=DA (.builtin "object.__init_subclass__") (R 893)
def kK(P:Params):=dT (Ak P) 51 [(0,ev P "__name__" 165 Ai)] 51
def Yk(P:Params):=dO [ev P "Boolean" 1584 (R 277),ev P "Integer" 1586 (R 311),ev P "BitString" 1588 (R 387),ev P "IntegerBitString" 1590 (R 414),ev P "OctetString" 1592 (R 448),ev P "Null" 1594 (R 475),ev P "ObjectIdentifier" 1596 (R 510),ev P "Sequence" 1598 (R 646),ev P "SequenceOf" 1600 (R 776),ev P "SetOf" 1602 (R 796),ev P "Extension" 1604 (R 813),ev P "Extensions" 1606 (R 825),ev P "Accuracy" 1608 (R 844),ev P "BasicConstraints" 1610 (R 861),ev P "PolicyConstraints" 1612 (R 878),ev P "RSAPublicKey" 1614 (R 893)] 16
def kJ(P:Params):=dT (Ak P) 52 [(0,ev P "__name__" 165 Ai)] 52
def Ux:=fO [iv 1,iv 0,R 20,iv 5,iv 0,R 27,iv 11,iv 0,R 34,iv 13,iv 0,R 41,iv 16,iv 0,R 49,iv 29,iv 0,R 57,iv 35,iv 0,R 65,iv 87,iv 0,R 72,iv 115,iv 0,R 83,iv 117,iv 0,R 90,iv 237,iv 0,R 131,iv 256,iv 0,R 183,iv 289,iv 0,R 218,iv 313,iv 0,R 251,iv 333,iv 0,R 285,iv 357,iv 0,R 319,iv 394,iv 0,R 354,iv 464,iv 0,R 395,iv 489,iv 0,R 422,iv 519,iv 0,R 456,iv 529,iv 0,R 483,iv 594,iv 0,R 518,iv 878,iv 0,R 654,iv 1034,iv 0,R 784,iv 1047,iv 0,R 804,iv 1049,iv 0,R 821,iv 1051,iv 0,R 833,iv 1053,iv 0,R 852,iv 1055,iv 0,R 869,iv 1057,iv 0,R 886,iv 1060,iv 0,R 902]
def Yj:=tO []
def Yi:=fO []
def Yh:=tO [sv "params" 1620]
def Yg:=tO []
def Yf:=gO (T 47) "_tag_type_to_explicit_implicit" "_tag_type_to_explicit_implicit"
def UG:=cO "_tag_type_to_explicit_implicit" "_tag_type_to_explicit_implicit" 1617 1060 1 0 0 3 897 true 898 [N,R 899,R 900,R 901] 1621
def UF:=xO "function" (FN (T 47) (S "_tag_type_to_explicit_implicit") (S "_tag_type_to_explicit_implicit") 3 [] N N N Ai none (R 902) N 0)
def kI(P:Params):=dT (Ak P) 53 [(0,ev P "__name__" 165 Ai)] 53
def Uw:=fO [iv 1,iv 0,R 20,iv 5,iv 0,R 27,iv 11,iv 0,R 34,iv 13,iv 0,R 41,iv 16,iv 0,R 49,iv 29,iv 0,R 57,iv 35,iv 0,R 65,iv 87,iv 0,R 72,iv 115,iv 0,R 83,iv 117,iv 0,R 90,iv 237,iv 0,R 131,iv 256,iv 0,R 183,iv 289,iv 0,R 218,iv 313,iv 0,R 251,iv 333,iv 0,R 285,iv 357,iv 0,R 319,iv 394,iv 0,R 354,iv 464,iv 0,R 395,iv 489,iv 0,R 422,iv 519,iv 0,R 456,iv 529,iv 0,R 483,iv 594,iv 0,R 518,iv 878,iv 0,R 654,iv 1034,iv 0,R 784,iv 1047,iv 0,R 804,iv 1049,iv 0,R 821,iv 1051,iv 0,R 833,iv 1053,iv 0,R 852,iv 1055,iv 0,R 869,iv 1057,iv 0,R 886,iv 1060,iv 0,R 902,iv 1070,iv 0,R 909]
def Ye:=tO []
def Yd:=fO []
def Yc:=tO [sv "params" 1627,sv "spec" 1628,sv "required_class" 1629,sv "required_tag" 1630]
def Yb:=tO []
def Ya:=gO (T 48) "_build_id_tuple" "_build_id_tuple"
def YZ:=cO "_build_id_tuple" "_build_id_tuple" 1624 1070 2 0 0 3 904 true 905 [N,R 906,R 907,R 908] 1631
def YY:=xO "function" (FN (T 48) (S "_build_id_tuple") (S "_build_id_tuple") 3 [] N N N Ai none (R 909) N 0)
def kH(P:Params):=dT (Ak P) 54 [(0,ev P "__name__" 165 Ai)] 54
def N6:=fO [iv 1,iv 0,R 20,iv 5,iv 0,R 27,iv 11,iv 0,R 34,iv 13,iv 0,R 41,iv 16,iv 0,R 49,iv 29,iv 0,R 57,iv 35,iv 0,R 65,iv 87,iv 0,R 72,iv 115,iv 0,R 83,iv 117,iv 0,R 90,iv 237,iv 0,R 131,iv 256,iv 0,R 183,iv 289,iv 0,R 218,iv 313,iv 0,R 251,iv 333,iv 0,R 285,iv 357,iv 0,R 319,iv 394,iv 0,R 354,iv 464,iv 0,R 395,iv 489,iv 0,R 422,iv 519,iv 0,R 456,iv 529,iv 0,R 483,iv 594,iv 0,R 518,iv 878,iv 0,R 654,iv 1034,iv 0,R 784,iv 1047,iv 0,R 804,iv 1049,iv 0,R 821,iv 1051,iv 0,R 833,iv 1053,iv 0,R 852,iv 1055,iv 0,R 869,iv 1057,iv 0,R 886,iv 1060,iv 0,R 902,iv 1070,iv 0,R 909,iv 1093,iv 0,R 914]
def YX:=tO []
def YW:=fO []
def YV:=gO (T 49) "_int_to_bit_tuple" "_int_to_bit_tuple"
def UE:=cO "_int_to_bit_tuple" "_int_to_bit_tuple" 1634 1093 2 0 0 3 911 true 912 [N,N,N,R 913] 1637
def UD:=xO "function" (FN (T 49) (S "_int_to_bit_tuple") (S "_int_to_bit_tuple") 3 [] N N N Ai none (R 914) N 0)
def kG(P:Params):=dT (Ak P) 55 [(0,ev P "__name__" 165 Ai)] 55
def UC:=dO [⟨1,(.int (1) 1640),(R 277)⟩,⟨2,(.int (2) 1641),(R 311)⟩,⟨3,(.int (3) 1642),(R 387)⟩,⟨4,(.int (4) 1643),(R 448)⟩,⟨5,(.int (5) 1644),(R 475)⟩,⟨6,(.int (6) 1645),(R 510)⟩,⟨16,(.int (16) 1646),(R 646)⟩] 7
def kF(P:Params):=dT (Ak P) 56 [(0,ev P "__name__" 165 Ai)] 56
def Uv:=fO [iv 1,iv 0,R 20,iv 5,iv 0,R 27,iv 11,iv 0,R 34,iv 13,iv 0,R 41,iv 16,iv 0,R 49,iv 29,iv 0,R 57,iv 35,iv 0,R 65,iv 87,iv 0,R 72,iv 115,iv 0,R 83,iv 117,iv 0,R 90,iv 237,iv 0,R 131,iv 256,iv 0,R 183,iv 289,iv 0,R 218,iv 313,iv 0,R 251,iv 333,iv 0,R 285,iv 357,iv 0,R 319,iv 394,iv 0,R 354,iv 464,iv 0,R 395,iv 489,iv 0,R 422,iv 519,iv 0,R 456,iv 529,iv 0,R 483,iv 594,iv 0,R 518,iv 878,iv 0,R 654,iv 1034,iv 0,R 784,iv 1047,iv 0,R 804,iv 1049,iv 0,R 821,iv 1051,iv 0,R 833,iv 1053,iv 0,R 852,iv 1055,iv 0,R 869,iv 1057,iv 0,R 886,iv 1060,iv 0,R 902,iv 1070,iv 0,R 909,iv 1093,iv 0,R 914,iv 1101,iv 0,R 923]
def UB:=tO [N,N,N]
def YU:=tO []
def YT:=fO []
def YS:=tO [sv "class_" 1658,sv "method" 1659,sv "tag" 1660,sv "header" 1661,sv "contents" 1662,sv "trailer" 1663,sv "spec" 1664,sv "spec_params" 1665,sv "nested_spec" 1666,sv "header_set" 1667,sv "no_explicit" 1668,sv "value" 1669,sv "original_explicit" 1670,sv "explicit_info" 1671,sv "parsed_class" 1672,sv "parsed_method" 1673,sv "parsed_tag" 1674,sv "to_parse" 1675,sv "explicit_header" 1676,sv "explicit_trailer" 1677,sv "expected_class" 1678,sv "expected_tag" 1679,sv "info" 1680,sv "_" 1681,sv "parsed_header" 1682,sv "parsed_trailer" 1683,sv "ber_indef" 1684,sv "is_bad_tag" 1685,sv "original_value" 1686]
def YR:=tO []
def YQ:=gO (T 51) "_build" "_build"
def UA:=cO "_build" "_build" 1655 1101 9 0 0 3 918 true 919 [N,R 920,R 921,R 922] 1687
def Tz:=xO "function" (FN (T 51) (S "_build") (S "_build") 3 [] (R 917) N N Ai none (R 923) N 0)
def kE(P:Params):=dT (Ak P) 57 [(0,ev P "__name__" 165 Ai)] 57
def N5:=fO [iv 1,iv 0,R 20,iv 5,iv 0,R 27,iv 11,iv 0,R 34,iv 13,iv 0,R 41,iv 16,iv 0,R 49,iv 29,iv 0,R 57,iv 35,iv 0,R 65,iv 87,iv 0,R 72,iv 115,iv 0,R 83,iv 117,iv 0,R 90,iv 237,iv 0,R 131,iv 256,iv 0,R 183,iv 289,iv 0,R 218,iv 313,iv 0,R 251,iv 333,iv 0,R 285,iv 357,iv 0,R 319,iv 394,iv 0,R 354,iv 464,iv 0,R 395,iv 489,iv 0,R 422,iv 519,iv 0,R 456,iv 529,iv 0,R 483,iv 594,iv 0,R 518,iv 878,iv 0,R 654,iv 1034,iv 0,R 784,iv 1047,iv 0,R 804,iv 1049,iv 0,R 821,iv 1051,iv 0,R 833,iv 1053,iv 0,R 852,iv 1055,iv 0,R 869,iv 1057,iv 0,R 886,iv 1060,iv 0,R 902,iv 1070,iv 0,R 909,iv 1093,iv 0,R 914,iv 1101,iv 0,R 923,iv 1189,iv 0,R 931]
def Ty:=tO [.int (0) 1690,N,N,.bool false]
def YP:=tO []
def YO:=fO []
def YN:=tO [sv "encoded_data" 1694,sv "pointer" 1695,sv "spec" 1696,sv "spec_params" 1697,sv "strict" 1698,sv "encoded_len" 1699,sv "info" 1700,sv "new_pointer" 1701,sv "extra_bytes" 1702]
def YM:=tO []
def YL:=gO (T 52) "_parse_build" "_parse_build"
def Tw:=cO "_parse_build" "_parse_build" 1691 1189 5 0 0 3 926 true 927 [N,R 928,R 929,R 930] 1703
def Tv:=xO "function" (FN (T 52) (S "_parse_build") (S "_parse_build") 3 [] (R 925) N N Ai none (R 931) N 0)
def kD(P:Params):=dT (Ak P) 57 [] 57
def kC(P:Params):=dT (Ak P) 58 [] 58
def Uu:=fO [iv 1,iv 0,R 20,iv 5,iv 0,R 27,iv 11,iv 0,R 34,iv 13,iv 0,R 41,iv 16,iv 0,R 49,iv 29,iv 0,R 57,iv 35,iv 0,R 65,iv 87,iv 0,R 72,iv 115,iv 0,R 83,iv 117,iv 0,R 90,iv 237,iv 0,R 131,iv 256,iv 0,R 183,iv 289,iv 0,R 218,iv 313,iv 0,R 251,iv 333,iv 0,R 285,iv 357,iv 0,R 319,iv 394,iv 0,R 354,iv 464,iv 0,R 395,iv 489,iv 0,R 422,iv 519,iv 0,R 456,iv 529,iv 0,R 483,iv 594,iv 0,R 518,iv 878,iv 0,R 654,iv 1034,iv 0,R 784,iv 1047,iv 0,R 804,iv 1049,iv 0,R 821,iv 1051,iv 0,R 833,iv 1053,iv 0,R 852,iv 1055,iv 0,R 869,iv 1057,iv 0,R 886,iv 1060,iv 0,R 902,iv 1070,iv 0,R 909,iv 1093,iv 0,R 914,iv 1101,iv 0,R 923,iv 1189,iv 0,R 931,iv 1197,iv 0,R 938]
def YK:=tO []
def YJ:=fO []
def YI:=tO [sv "number" 1711,sv "base" 1712,sv "digits" 1713]
def YH:=tO []
def YG:=gO (T 54) "_law_digits" "_law_digits"
def Tu:=cO "_law_digits" "_law_digits" 1708 1197 2 0 0 3 933 true 934 [N,R 935,R 936,R 937] 1714
def Tt:=xO "function" (FN (T 54) (S "_law_digits") (S "_law_digits") 3 [] N N N (sv "law_ll0006_01" 1706) none (R 938) N 0)
def kB(P:Params):=dT (Ak P) 59 [] 59
def Ut:=fO [iv 1,iv 0,R 20,iv 5,iv 0,R 27,iv 11,iv 0,R 34,iv 13,iv 0,R 41,iv 16,iv 0,R 49,iv 29,iv 0,R 57,iv 35,iv 0,R 65,iv 87,iv 0,R 72,iv 115,iv 0,R 83,iv 117,iv 0,R 90,iv 237,iv 0,R 131,iv 256,iv 0,R 183,iv 289,iv 0,R 218,iv 313,iv 0,R 251,iv 333,iv 0,R 285,iv 357,iv 0,R 319,iv 394,iv 0,R 354,iv 464,iv 0,R 395,iv 489,iv 0,R 422,iv 519,iv 0,R 456,iv 529,iv 0,R 483,iv 594,iv 0,R 518,iv 878,iv 0,R 654,iv 1034,iv 0,R 784,iv 1047,iv 0,R 804,iv 1049,iv 0,R 821,iv 1051,iv 0,R 833,iv 1053,iv 0,R 852,iv 1055,iv 0,R 869,iv 1057,iv 0,R 886,iv 1060,iv 0,R 902,iv 1070,iv 0,R 909,iv 1093,iv 0,R 914,iv 1101,iv 0,R 923,iv 1189,iv 0,R 931,iv 1197,iv 0,R 938,iv 1203,iv 0,R 945]
def YF:=tO []
def YE:=fO []
def YD:=tO [sv "head" 1720,sv "body" 1721,sv "size" 1722]
def YC:=tO []
def YB:=gO (T 55) "_law_der" "_law_der"
def Ts:=cO "_law_der" "_law_der" 1717 1203 2 0 0 3 940 true 941 [N,R 942,R 943,R 944] 1723
def Tr:=xO "function" (FN (T 55) (S "_law_der") (S "_law_der") 3 [] N N N (sv "law_ll0006_01" 1706) none (R 945) N 0)
def Us:=fO [iv 1,iv 0,R 20,iv 5,iv 0,R 27,iv 11,iv 0,R 34,iv 13,iv 0,R 41,iv 16,iv 0,R 49,iv 29,iv 0,R 57,iv 35,iv 0,R 65,iv 87,iv 0,R 72,iv 115,iv 0,R 83,iv 117,iv 0,R 90,iv 237,iv 0,R 131,iv 256,iv 0,R 183,iv 289,iv 0,R 218,iv 313,iv 0,R 251,iv 333,iv 0,R 285,iv 357,iv 0,R 319,iv 394,iv 0,R 354,iv 464,iv 0,R 395,iv 489,iv 0,R 422,iv 519,iv 0,R 456,iv 529,iv 0,R 483,iv 594,iv 0,R 518,iv 878,iv 0,R 654,iv 1034,iv 0,R 784,iv 1047,iv 0,R 804,iv 1049,iv 0,R 821,iv 1051,iv 0,R 833,iv 1053,iv 0,R 852,iv 1055,iv 0,R 869,iv 1057,iv 0,R 886,iv 1060,iv 0,R 902,iv 1070,iv 0,R 909,iv 1093,iv 0,R 914,iv 1101,iv 0,R 923,iv 1189,iv 0,R 931,iv 1197,iv 0,R 938,iv 1203,iv 0,R 945,iv 1206,iv 0,R 950]
def YA:=tO []
def X9:=fO []
def X8:=gO (T 56) "_law_bits" "_law_bits"
def Tq:=cO "_law_bits" "_law_bits" 1726 1206 1 0 0 3 947 true 948 [N,N,N,R 949] 1729
def Tp:=xO "function" (FN (T 56) (S "_law_bits") (S "_law_bits") 3 [] N N N (sv "law_ll0006_01" 1706) none (R 950) N 0)
def o3(P:Params):=dO [ev P "__name__" 165 (sv "law_ll0006_01" 1706),ev P "__doc__" 166 N,ev P "__package__" 167 N,ev P "__loader__" 168 (.builtin "__main__.__loader__#opaque"),ev P "__spec__" 169 N,ev P "__annotations__" 170 (R 6),ev P "__builtins__" 171 (R 4),ev P "__file__" 173 (sv "/claim/cut.py" 172),ev P "__cached__" 174 N,ev P "_wall" 193 (R 21),ev P "unwrap" 203 (R 28),ev P "str_cls" 206 (.type "str"),ev P "byte_cls" 207 (.type "bytes"),ev P "int_types" 208 (.type "int"),ev P "chr_cls" 215 (R 35),ev P "type_name" 222 (R 42),ev P "int_to_bytes" 234 (R 50),ev P "int_from_bytes" 242 (R 58),ev P "PY2_parser" 245 (.bool false),ev P "_INSUFFICIENT_DATA_MESSAGE" 247 (sv "Insufficient data - %s bytes requested but only %s available" 246),ev P "_MAX_DEPTH" 249 (.int (10) 248),ev P "_parse" 272 (R 66),ev P "_dump_header" 287 (R 73),ev P "PY2_core" 290 (.bool false),ev P "CLASS_NUM_TO_NAME_MAP" 303 (R 74),ev P "CLASS_NAME_TO_NUM_MAP" 328 (R 75),ev P "METHOD_NUM_TO_NAME_MAP" 335 (R 76),ev P "load" 343 (R 84),ev P "Asn1Value" 438 (R 121),ev P "Void" 495 (R 172),ev P "VOID" 511 (R 176),ev P "Primitive" 564 (R 210),ev P "Constructable" 606 (R 243),ev P "Boolean" 651 (R 277),ev P "Integer" 696 (R 311),ev P "_IntegerBitString" 745 (R 346),ev P "BitString" 818 (R 387),ev P "IntegerBitString" 860 (R 414),ev P "OctetString" 908 (R 448),ev P "Null" 945 (R 475),ev P "ObjectIdentifier" 1000 (R 510),ev P "Sequence" 1230 (R 646),ev P "SequenceOf" 1410 (R 776),ev P "SetOf" 1441 (R 796),ev P "Extension" 1463 (R 813),ev P "Extensions" 1480 (R 825),ev P "Accuracy" 1512 (R 844),ev P "BasicConstraints" 1535 (R 861),ev P "PolicyConstraints" 1564 (R 878),ev P "RSAPublicKey" 1583 (R 893),ev P "_KINDS" 1616 (R 896),ev P "_tag_type_to_explicit_implicit" 1623 (R 903),ev P "_build_id_tuple" 1633 (R 910),ev P "_int_to_bit_tuple" 1639 (R 915),ev P "_UNIVERSAL_SPECS" 1654 (R 916),ev P "_build" 1689 (R 924),ev P "_parse_build" 1705 (R 932),ev P "_law_digits" 1716 (R 939),ev P "_law_der" 1725 (R 946),ev P "_law_bits" 1731 (R 951),ev P "law" 1737 (R 956)] 61
def zY:=fO [iv 1,iv 0,R 20,iv 5,iv 0,R 27,iv 11,iv 0,R 34,iv 13,iv 0,R 41,iv 16,iv 0,R 49,iv 29,iv 0,R 57,iv 35,iv 0,R 65,iv 87,iv 0,R 72,iv 115,iv 0,R 83,iv 117,iv 0,R 90,iv 237,iv 0,R 131,iv 256,iv 0,R 183,iv 289,iv 0,R 218,iv 313,iv 0,R 251,iv 333,iv 0,R 285,iv 357,iv 0,R 319,iv 394,iv 0,R 354,iv 464,iv 0,R 395,iv 489,iv 0,R 422,iv 519,iv 0,R 456,iv 529,iv 0,R 483,iv 594,iv 0,R 518,iv 878,iv 0,R 654,iv 1034,iv 0,R 784,iv 1047,iv 0,R 804,iv 1049,iv 0,R 821,iv 1051,iv 0,R 833,iv 1053,iv 0,R 852,iv 1055,iv 0,R 869,iv 1057,iv 0,R 886,iv 1060,iv 0,R 902,iv 1070,iv 0,R 909,iv 1093,iv 0,R 914,iv 1101,iv 0,R 923,iv 1189,iv 0,R 931,iv 1197,iv 0,R 938,iv 1203,iv 0,R 945,iv 1206,iv 0,R 950,iv 1210,iv 0,R 955]
def X7:=tO []
def X6:=fO []
def X5:=gO (T 57) "law" "law"
def To:=cO "law" "law" 1732 1210 1 0 0 3 952 true 953 [N,N,N,R 954] 1735
def QK:=xO "function" (FN (T 57) (S "law") (S "law") 3 [] N N N (sv "law_ll0006_01" 1706) none (R 955) N 0)
def My(P:Params):BT:=(.node (boot_o_0 P) (.node (boot_o_1 P) (.node (o3 P) (.node (boot_o_7 P) (.node zV (.node zF (.node yo (.node ql (.node oH (AJ iF) (AJ bG)) (.node UR (AJ eG) (AJ Yl))) (.node Uq (.node me (AJ ff) (AJ Zn)) (.node (UI P) (AJ ci) .nil))) (.node yS (.node qD (.node nN (AJ gX) (AJ aO)) (.node jv (AJ dX) (AJ YO))) (.node ot (.node (l6 P) (AJ er) (AJ ZH)) (.node iu (AJ bx) .nil)))) (.node y1 (.node yf (.node qT (.node ni (AJ gt) (AJ ah)) (.node lE (AJ ds) (AJ YX))) (.node Uk (.node UX (AJ fL) (AJ ZX)) (.node jD (AJ cN) .nil))) (.node VP (.node (pj P) (.node m4 (AJ gE) (AJ Z4)) (.node je (AJ dE) (AJ YC))) (.node oX (.node lh (AJ eW) (AJ Y1)) (.node iV (AJ bY) .nil))))) (.node zN (.node y8 (.node yi (.node qb (.node ny (AJ g8) (AJ (av P))) (.node lM (AJ d6) (AJ UF))) (.node Un (.node Ua (AJ fU) (AJ (Zf P))) (.node jL (AJ cX) .nil))) (.node VU (.node p4 (.node nF (AJ gN) (AJ (aE P))) (.node jm (AJ dM) (AJ YI))) (.node oi (.node ls (AJ eg) (AJ (Y9 P))) (.node ig (AJ bn) .nil)))) (.node yu (.node (yZ P) (.node qL (.node nX (AJ gi) (AJ aW)) (.node j3 (AJ dg) (AJ YT))) (.node (o8 P) (.node mD (AJ fC) (AJ ZP)) (.node i5 (AJ cE) .nil))) (.node qr (.node pZ (.node mq (AJ ft) (AJ Zv)) (.node jW (AJ c6) (AJ Tp))) (.node oR (.node lX (AJ eO) (AJ Yt)) (.node iN (AJ bO) .nil)))))) (.node zZ (.node zR (.node wa (.node ym (.node qg (.node n9 (AJ (iB P)) (AJ az)) (.node UO (AJ eB) (AJ Yh))) (.node pO (.node mZ (AJ fY) (AJ (Zj P))) (.node jP (AJ cc) .nil))) (.node v9 (.node p8 (.node nJ (AJ gT) (AJ aJ)) (.node (jq P) (AJ dR) (AJ Tw))) (.node oq (.node lz (AJ ek) (AJ ZD)) (.node im (AJ br) .nil)))) (.node wP (.node wE (.node qP (.node nc (AJ gn) (AJ aa)) (.node j7 (AJ dl) (AJ UD))) (.node pE (.node mH (AJ fH) (AJ ZT)) (.node i9 (AJ cJ) .nil))) (.node qt (.node pe (.node mx (AJ f0) (AJ Zz)) (.node ja (AJ dA) (AJ YA))) (.node Uc (.node lc (AJ eS) (AJ (Yx P))) (.node iR (AJ bU) .nil))))) (.node zJ (.node wS (.node (wG P) (.node qX (.node nu (AJ gx) (AJ am)) (.node lI (AJ (dz P)) (AJ Yb))) (.node pJ (.node mQ (AJ fQ) (AJ (Zb P))) (.node jH (AJ cS) .nil))) (.node qz (.node (pw P) (.node m9 (AJ gJ) (AJ Z8)) (.node jg (AJ dI) (AJ Tt))) (.node og (.node lq (AJ ec) (AJ Y5)) (.node iZ (AJ bh) .nil)))) (.node wM (.node yV (.node qH (.node nT (AJ gc) (AJ (aS P))) (.node jz (AJ db) (AJ UA))) (.node oz (.node mA (AJ ey) (AJ ZL)) (.node iz (AJ cA) .nil))) (.node qp (.node pW (.node mj (AJ fk) (AJ Zr)) (.node UL (AJ cw) (AJ To))) (.node oM (.node lT (AJ eK) (AJ Yp)) (.node iJ (AJ bK) .nil))))))) (.node (boot_o_5 P) (.node (boot_o_9 P) (.node zT (.node zD (.node wL (.node qj (.node oE (AJ iD) (AJ a9)) (.node lQ (AJ eE) (AJ Yj))) (.node pQ (.node Ub (AJ fc) (AJ Zl)) (.node jR (AJ cg) .nil))) (.node yQ (.node qB (.node nL (AJ gV) (AJ (aL P))) (.node js (AJ dU) (AJ YM))) (.node Uh (.node l4 (AJ eo) (AJ ZF)) (.node iq (AJ bv) .nil)))) (.node wR (.node yd (.node qR (.node ng (AJ gq) (AJ af)) (.node j9 (AJ dq) (AJ YV))) (.node (Uj P) (.node mK (AJ fJ) (AJ (ZV P))) (.node jB (AJ cL) .nil))) (.node qw (.node (pg P) (.node mz (AJ gC) (AJ Z1)) (.node jc (AJ dC) (AJ Ts))) (.node oV (.node le (AJ eU) (AJ Yz)) (.node iT (AJ bW) .nil))))) (.node zL (.node y6 (.node wI (.node qZ (.node nw (AJ gz) (AJ aq)) (.node lK (AJ d4) (AJ Yd))) (.node pL (.node mV (AJ fS) (AJ Zd)) (.node jJ (AJ cV) .nil))) (.node q8 (.node p1 (.node nD (AJ gL) (AJ aC)) (.node ji (AJ dK) (AJ YG))) (.node Ue (.node UU (AJ ee) (AJ (Y7 P))) (.node ib (AJ bj) .nil)))) (.node wO (.node yX (.node qJ (.node nV (AJ gf) (AJ aU)) (.node j1 (AJ de) (AJ YR))) (.node o5 (.node (UW P) (AJ fA) (AJ ZN)) (.node i3 (AJ cC) .nil))) (.node VL (.node Ur (.node mn (AJ fo) (AJ Zt)) (.node jU (AJ c4) (AJ X6))) (.node oP (.node lV (AJ eM) (AJ Yr)) (.node iL (AJ bM) .nil)))))) (.node zX (.node zP (.node zB (.node yk (.node qe (.node n7 (AJ hY) (AJ ax)) (.node lO (AJ (d8 P)) (AJ Yf))) (.node pM (.node mX (AJ fW) (AJ (Zh P))) (.node (jN P) (AJ cZ) .nil))) (.node VV (.node p6 (.node nH (AJ gQ) (AJ aG)) (.node jo (AJ dP) (AJ YK))) (.node om (.node lw (AJ ei) (AJ ZB)) (.node ij (AJ bp) .nil)))) (.node yx (.node yb (.node qN (.node nZ (AJ gk) (AJ aY)) (.node j5 (AJ dj) (AJ UB))) (.node pC (.node mF (AJ fF) (AJ ZR)) (.node i7 (AJ cH) .nil))) (.node VO (.node pc (.node mu (AJ fw) (AJ Zx)) (.node jY (AJ c8) (AJ X8))) (.node oT (.node lZ (AJ eQ) (AJ Yv)) (.node iP (AJ bQ) .nil))))) (.node zH (.node y3 (.node wF (.node qV (.node nq (AJ gv) (AJ (aj P))) (.node lG (AJ dw) (AJ YZ))) (.node pG (.node mO (AJ fN) (AJ ZZ)) (.node jF (AJ cQ) .nil))) (.node VT (.node pr (.node m7 (AJ gG) (AJ Z6)) (.node UN (AJ dG) (AJ YE))) (.node oZ (.node lm (AJ eY) (AJ (Y3 P))) (.node iX (AJ bc) .nil)))) (.node yq (.node yU (.node qF (.node nR (AJ gZ) (AJ aQ)) (.node (jx P) (AJ dZ) (AJ Ty))) (.node ox (.node l8 (AJ eu) (AJ ZJ)) (.node ix (AJ b8) .nil))) (.node qn (.node pU (.node mh (AJ fh) (AJ Zp)) (.node UJ (AJ cr) .nil)) (.node oK (.node lR (AJ eI) (AJ Yn)) (.node (iH P) (AJ bI) .nil)))))))) (.node (boot_o_2 P) (.node (boot_o_4 P) (.node (boot_o_8 P) (.node zU (.node zE (.node yn (.node (qk P) (.node oG (AJ iE) (AJ bC)) (.node UQ (AJ eF) (AJ (Yk P)))) (.node Up (.node md (AJ fe) (AJ Zm)) (.node UH (AJ ch) .nil))) (.node yR (.node qC (.node nM (AJ gW) (AJ aM)) (.node ju (AJ dW) (AJ YN))) (.node or (.node l5 (AJ eq) (AJ ZG)) (.node (ir P) (AJ bw) .nil)))) (.node yz (.node ye (.node qS (.node nh (AJ gr) (AJ ag)) (.node kA (AJ dr) (AJ YW))) (.node pF (.node mN (AJ fK) (AJ ZW)) (.node jC (AJ cM) .nil))) (.node qx (.node ph (.node m0 (AJ gD) (AJ Z3)) (.node jd (AJ dD) (AJ YB))) (.node oW (.node lf (AJ eV) (AJ Y0)) (.node iU (AJ bX) .nil))))) (.node zM (.node y7 (.node wJ (.node qa (.node nx (AJ g7) (AJ au)) (.node (lL P) (AJ d5) (AJ Ye))) (.node Um (.node UZ (AJ fT) (AJ Ze)) (.node jK (AJ cW) .nil))) (.node q9 (.node p3 (.node nE (AJ gM) (AJ aD)) (.node jk (AJ dL) (AJ YH))) (.node Uf (.node lr (AJ ef) (AJ Y8)) (.node ic (AJ bk) .nil)))) (.node yt (.node yY (.node qK (.node nW (AJ gg) (AJ aV)) (.node j2 (AJ df) (AJ YS))) (.node o7 (.node mC (AJ fB) (AJ (ZO P))) (.node i4 (AJ cD) .nil))) (.node (VM P) (.node pY (.node mo (AJ fq) (AJ (Zu P))) (.node jV (AJ c5) (AJ X7))) (.node (oQ P) (.node lW (AJ eN) (AJ Ys)) (.node iM (AJ bN) .nil)))))) (.node zY (.node zQ (.node zC (.node yl (.node qf (.node n8 (AJ iA) (AJ ay)) (.node lP (AJ d9) (AJ Yg))) (.node pN (.node mY (AJ fX) (AJ Zi)) (.node jO (AJ cb) .nil))) (.node (rC P) (.node p7 (.node nI (AJ gR) (AJ aH)) (.node jp (AJ dQ) (AJ Tv))) (.node on (.node ly (AJ ej) (AJ ZC)) (.node ik (AJ bq) .nil)))) (.node yy (.node wD (.node qO (.node (nb P) (AJ gm) (AJ aZ)) (.node j6 (AJ dk) (AJ UC))) (.node pD (.node mG (AJ fG) (AJ ZS)) (.node i8 (AJ cI) .nil))) (.node qs (.node (pd P) (.node mw (AJ fz) (AJ Zy)) (.node jZ (AJ c9) (AJ X9))) (.node oU (.node lb (AJ eR) (AJ Yw)) (.node iQ (AJ bT) .nil))))) (.node zI (.node y4 (.node yh (.node qW (.node nr (AJ gw) (AJ ak)) (.node lH (AJ dy) (AJ Ya))) (.node pH (.node mP (AJ fP) (AJ Za)) (.node jG (AJ cR) .nil))) (.node qy (.node pt (.node m8 (AJ gH) (AJ (Z7 P))) (.node jf (AJ dH) (AJ YF))) (.node oa (.node ln (AJ eZ) (AJ Y4)) (.node iY (AJ be) .nil)))) (.node yr (.node wC (.node qG (.node nS (AJ gb) (AJ aR)) (.node jy (AJ da) (AJ Tz))) (.node oy (.node l9 (AJ ew) (AJ (ZK P))) (.node iy (AJ b9) .nil))) (.node qo (.node pV (.node (mi P) (AJ fj) (AJ Zq)) (.node UK (AJ cu) (AJ QK))) (.node oL (.node lS (AJ eJ) (AJ (Yo P))) (.node iI (AJ bJ) .nil))))))) (.node (boot_o_6 P) (.node (boot_o_10 P) (.node zS (.node wb (.node wK (.node qh (.node oC (AJ iC) (AJ a8)) (.node (UP P) (AJ eD) (AJ Yi))) (.node pP (.node ma (AJ fZ) (AJ Zk)) (.node jQ (AJ cf) .nil))) (.node wB (.node p9 (.node nK (AJ gU) (AJ aK)) (.node jr (AJ dS) (AJ YL))) (.node Ug (.node l3 (AJ en) (AJ (ZE P))) (.node io (AJ bu) .nil)))) (.node wQ (.node yc (.node qQ (.node nf (AJ gp) (AJ ae)) (.node j8 (AJ dp) (AJ UE))) (.node Ui (.node mJ (AJ fI) (AJ ZU)) (.node jA (AJ cK) .nil))) (.node qu (.node pf (.node my (AJ gA) (AJ (Z0 P))) (.node jb (AJ dB) (AJ Tr))) (.node (Ud P) (.node ld (AJ eT) (AJ Yy)) (.node iS (AJ bV) .nil))))) (.node zK (.node y5 (.node wH (.node qY (.node nv (AJ gy) (AJ ao)) (.node lJ (AJ d0) (AJ Yc))) (.node pK (.node mU (AJ fR) (AJ Zc)) (.node jI (AJ cU) .nil))) (.node q0 (.node pz (.node nC (AJ gK) (AJ Z9)) (.node jh (AJ dJ) (AJ Tu))) (.node oh (.node UT (AJ ed) (AJ Y6)) (.node ia (AJ bi) .nil)))) (.node wN (.node yW (.node qI (.node (nU P) (AJ ge) (AJ aT)) (.node j0 (AJ dc) (AJ YQ))) (.node o4 (.node UV (AJ ez) (AJ ZM)) (.node (i0 P) (AJ cB) .nil))) (.node qq (.node pX (.node ml (AJ fm) (AJ Zs)) (.node jT (AJ cz) (AJ X5))) (.node oO (.node lU (AJ eL) (AJ Yq)) (.node iK (AJ bL) .nil)))))) (.node zW (.node zO (.node y9 (.node yj (.node qc (.node nz (AJ g9) (AJ aw)) (.node lN (AJ d7) (AJ UG))) (.node Uo (.node mW (AJ fV) (AJ Zg)) (.node jM (AJ cY) .nil))) (.node rA (.node p5 (.node nG (AJ gP) (AJ aF)) (.node jn (AJ dN) (AJ YJ))) (.node oj (.node lu (AJ eh) (AJ ZA)) (.node ii (AJ bo) .nil)))) (.node yw (.node ya (.node qM (.node nY (AJ gj) (AJ aX)) (.node j4 (AJ dh) (AJ YU))) (.node o9 (.node mE (AJ fD) (AJ (ZQ P))) (.node i6 (AJ cG) .nil))) (.node VN (.node pb (.node (mr P) (AJ fu) (AJ Zw)) (.node jX (AJ c7) (AJ Tq))) (.node oS (.node lY (AJ eP) (AJ Yu)) (.node iO (AJ bP) .nil))))) (.node zG (.node y2 (.node yg (.node qU (.node nj (AJ gu) (AJ ai)) (.node lF (AJ du) (AJ YY))) (.node Ul (.node UY (AJ fM) (AJ ZY)) (.node jE (AJ cP) .nil))) (.node VS (.node pq (.node m5 (AJ gF) (AJ Z5)) (.node UM (AJ dF) (AJ YD))) (.node oY (.node lj (AJ eX) (AJ Y2)) (.node iW (AJ bZ) .nil)))) (.node yp (.node yT (.node qE (.node nP (AJ gY) (AJ aP)) (.node jw (AJ dY) (AJ YP))) (.node ou (.node l7 (AJ et) (AJ ZI)) (.node iw (AJ bz) .nil))) (.node qm (.node pR (.node mf (AJ fg) (AJ (Zo P))) (.node jS (AJ cj) .nil)) (.node oI (.node US (AJ eH) (AJ Ym)) (.node iG (AJ bH) .nil)))))))))
abbrev AR(nk m:Nat)(K:List Nat)(n:Nat)(S S':Params→OsState→MS)(st:Stmt)(pos pos':Pos)(w:World):Prop:=
 (fun os=>((MQ PySem.W.Fast.tw6613529449190102663 (NZ w) 11 (some (R 6)) nk (fun a=>(My w.params).get a) n (S w.params os) (LV [st] pos)).map (Hn nk (fun a=>(My w.params).get a) m K),(S' w.params os).m,(S' w.params os).old.all (fun p=>Nat.ble nk p.1||K.any fun a=>Nat.beq a p.1)))=
 fun os=>(some (Hk .next nk (fun a=>(My w.params).get a) m K (S' w.params os) A3 pos'),0,true)
end
section
def uP(P:Params)(os:OsState):MS:=⟨.nil,[(3,boot_o_3 P),(12,qi)],0,#[],{},187,os⟩
def z3(P:Params)(os:OsState):MS:=⟨.nil,[(3,wZ P),(12,SP)],0,#[],{},194,os⟩
def z0(P:Params)(os:OsState):MS:=⟨.nil,[(3,wY P),(12,SP)],0,#[],{},196,os⟩
def zz(P:Params)(os:OsState):MS:=⟨.nil,[(3,wX P),(12,JS)],0,#[],{},204,os⟩
def zy(P:Params)(os:OsState):MS:=⟨.nil,[(3,wW P),(12,JS)],0,#[],{},206,os⟩
def zw(P:Params)(os:OsState):MS:=⟨.nil,[(3,wV P),(12,JS)],0,#[],{},207,os⟩
def zv(P:Params)(os:OsState):MS:=⟨.nil,[(3,wU P),(12,JS)],0,#[],{},208,os⟩
def zu(P:Params)(os:OsState):MS:=⟨.nil,[(3,wT P),(12,JS)],0,#[],{},209,os⟩
def zt(P:Params)(os:OsState):MS:=⟨.nil,[(3,lD P),(12,VK)],0,#[],{},216,os⟩
def zr(P:Params)(os:OsState):MS:=⟨.nil,[(3,lC P),(12,N9)],0,#[],{},223,os⟩
def uO(P:Params)(os:OsState):MS:=⟨.nil,[(3,lB P),(12,N9)],0,#[],{},225,os⟩
def uN(P:Params)(os:OsState):MS:=⟨.nil,[(3,k9 P),(12,VJ)],0,#[],{},235,os⟩
def uM(P:Params)(os:OsState):MS:=⟨.nil,[(3,k6 P),(12,Gm)],0,#[],{},243,os⟩
def uL(P:Params)(os:OsState):MS:=⟨.nil,[(3,k5 P),(12,Gm)],0,#[],{},245,os⟩
def uK(P:Params)(os:OsState):MS:=⟨.nil,[(3,kz P),(12,Gm)],0,#[],{},246,os⟩
def uJ(P:Params)(os:OsState):MS:=⟨.nil,[(3,ky P),(12,Gm)],0,#[],{},248,os⟩
def uI(P:Params)(os:OsState):MS:=⟨.nil,[(3,ku P),(12,Gm)],0,#[],{},250,os⟩
def uH(P:Params)(os:OsState):MS:=⟨.nil,[(3,kt P),(12,VI)],0,#[],{},273,os⟩
def uG(P:Params)(os:OsState):MS:=⟨.nil,[(3,kr P),(12,DX)],0,#[],{},288,os⟩
def uF(P:Params)(os:OsState):MS:=⟨.nil,[(3,kq P),(12,DX)],0,#[],{},290,os⟩
def W1(P:Params)(os:OsState):MS:=⟨.nil,[(3,kn P),(12,DX)],0,#[],{},291,os⟩
def uE(P:Params)(os:OsState):MS:=⟨.nil,[(3,N4 P),(12,DX)],0,#[],{},304,os⟩
def uD(P:Params)(os:OsState):MS:=⟨.nil,[(3,SO P),(12,DX)],0,#[],{},329,os⟩
def W0(P:Params)(os:OsState):MS:=⟨.nil,[(3,km P),(12,DX)],0,#[],{},336,os⟩
def uC(P:Params)(os:OsState):MS:=⟨.nil,[(3,kl P),(12,VH)],0,#[],{},344,os⟩
def uB(P:Params)(os:OsState):MS:=⟨.nil,[(3,kk P),(12,VG),(121,QX)],0,#[],{},439,os⟩
def uA(P:Params)(os:OsState):MS:=⟨.nil,[(3,kj P),(12,N8),(121,LY)],0,#[],{},496,os⟩
def t9(P:Params)(os:OsState):MS:=⟨.nil,[(3,ki P),(12,N8),(121,LY)],0,#[],{},512,os⟩
def t8(P:Params)(os:OsState):MS:=⟨.nil,[(3,kh P),(12,VF),(121,CM),(210,QV)],0,#[],{},565,os⟩
def t7(P:Params)(os:OsState):MS:=⟨.nil,[(3,kg P),(12,VE),(121,CM),(210,QU),(243,IS)],0,#[],{},607,os⟩
def t6(P:Params)(os:OsState):MS:=⟨.nil,[(3,kf P),(12,VD),(121,CM),(210,QT),(243,IS)],0,#[],{},652,os⟩
def t5(P:Params)(os:OsState):MS:=⟨.nil,[(3,kd P),(12,VC),(121,CM),(210,FC),(243,IS)],0,#[],{},697,os⟩
def t4(P:Params)(os:OsState):MS:=⟨.nil,[(3,kc P),(12,VB),(121,CM),(210,FC),(243,IR),(346,QR)],0,#[],{},746,os⟩
def t3(P:Params)(os:OsState):MS:=⟨.nil,[(3,kb P),(12,VA),(121,CM),(210,FC),(243,IR),(346,QP)],0,#[],{},819,os⟩
def tz(P:Params)(os:OsState):MS:=⟨.nil,[(3,kZ P),(12,U9),(121,CM),(210,FC),(243,IR)],0,#[],{},861,os⟩
def ty(P:Params)(os:OsState):MS:=⟨.nil,[(3,kY P),(12,U8),(121,CM),(210,FC)],0,#[],{},909,os⟩
def tx(P:Params)(os:OsState):MS:=⟨.nil,[(3,kX P),(12,U7),(121,CM),(210,QS)],0,#[],{},946,os⟩
def tw(P:Params)(os:OsState):MS:=⟨.nil,[(3,kW P),(12,U6),(121,CM)],0,#[],{},1001,os⟩
def tu(P:Params)(os:OsState):MS:=⟨.nil,[(3,kU P),(12,U5),(121,QW),(646,IQ)],0,#[],{},1231,os⟩
def tt(P:Params)(os:OsState):MS:=⟨.nil,[(3,kT P),(12,U4),(646,IQ),(776,QL)],0,#[],{},1411,os⟩
def Wz(P:Params)(os:OsState):MS:=⟨.nil,[(3,kS P),(12,U3),(646,IQ),(776,LW)],0,#[],{},1442,os⟩
def Wy(P:Params)(os:OsState):MS:=⟨.nil,[(3,kR P),(12,U2),(646,LX),(776,LW)],0,#[],{},1464,os⟩
def Wx(P:Params)(os:OsState):MS:=⟨.nil,[(3,kQ P),(12,U1),(646,LX)],0,#[],{},1481,os⟩
def Ry(P:Params)(os:OsState):MS:=⟨.nil,[(3,kP P),(12,U0),(646,QO)],0,#[],{},1513,os⟩
def Rx(P:Params)(os:OsState):MS:=⟨.nil,[(3,kN P),(12,Uz),(646,QN)],0,#[],{},1536,os⟩
def Ww(P:Params)(os:OsState):MS:=⟨.nil,[(3,kM P),(12,Uy),(646,QM)],0,#[],{},1565,os⟩
def Wv(P:Params)(os:OsState):MS:=⟨.nil,[(3,kL P),(12,N7)],0,#[],{},1584,os⟩
def Wu(P:Params)(os:OsState):MS:=⟨.nil,[(3,kK P),(12,N7)],0,#[],{},1617,os⟩
def tq(P:Params)(os:OsState):MS:=⟨.nil,[(3,kJ P),(12,Ux)],0,#[],{},1624,os⟩
def to(P:Params)(os:OsState):MS:=⟨.nil,[(3,kI P),(12,Uw)],0,#[],{},1634,os⟩
def Wt(P:Params)(os:OsState):MS:=⟨.nil,[(3,kH P),(12,N6)],0,#[],{},1640,os⟩
def Ws(P:Params)(os:OsState):MS:=⟨.nil,[(3,kG P),(12,N6)],0,#[],{},1655,os⟩
def tn(P:Params)(os:OsState):MS:=⟨.nil,[(3,kF P),(12,Uv)],0,#[],{},1690,os⟩
def tm(P:Params)(os:OsState):MS:=⟨.nil,[(3,kE P),(12,N5)],0,#[],{},1706,os⟩
def tj(P:Params)(os:OsState):MS:=⟨.nil,[(3,kD P),(12,N5)],0,#[],{},1708,os⟩
def th(P:Params)(os:OsState):MS:=⟨.nil,[(3,kC P),(12,Uu)],0,#[],{},1717,os⟩
def tf(P:Params)(os:OsState):MS:=⟨.nil,[(3,kB P),(12,Ut)],0,#[],{},1726,os⟩
def te(P:Params)(os:OsState):MS:=⟨.nil,[(3,Ak P),(12,Us)],0,#[],{},1732,os⟩
noncomputable def Pl(P:Params)(os:OsState):MS:=⟨.nil,[],0,#[],{},1738,os⟩
theorem pc0:∀w,AR 15 7 [3,12] 30 uP z3 (AH 0) ⟨0,0,0,0⟩ ⟨1,0,3,12⟩ w:=fun w=>funext fun os=>by kernel_rfl
theorem pc1:∀w,AR 22 0 [3,12] 10 z3 z0 (AH 1) ⟨1,0,3,12⟩ ⟨4,0,4,8⟩ w:=fun w=>funext fun os=>by kernel_rfl
theorem pc2:∀w,AR 22 7 [3,12] 31 z0 zz (AH 2) ⟨4,0,4,8⟩ ⟨5,0,6,17⟩ w:=fun w=>funext fun os=>by kernel_rfl
theorem pc3:∀w,AR 29 0 [3,12] 10 zz zy (AH 3) ⟨5,0,6,17⟩ ⟨7,0,7,8⟩ w:=fun w=>funext fun os=>by kernel_rfl
theorem pc4:∀w,AR 29 0 [3,12] 12 zy zw (AH 4) ⟨7,0,7,8⟩ ⟨8,0,8,7⟩ w:=fun w=>funext fun os=>by kernel_rfl
theorem pc5:∀w,AR 29 0 [3,12] 12 zw zv (AH 5) ⟨8,0,8,7⟩ ⟨9,0,9,8⟩ w:=fun w=>funext fun os=>by kernel_rfl
theorem pc6:∀w,AR 29 0 [3,12] 12 zv zu (AH 6) ⟨9,0,9,8⟩ ⟨10,0,10,9⟩ w:=fun w=>funext fun os=>by kernel_rfl
theorem pc7:∀w,AR 29 7 [3,12] 30 zu zt (AH 7) ⟨10,0,10,9⟩ ⟨11,0,12,23⟩ w:=fun w=>funext fun os=>by kernel_rfl
theorem pc8:∀w,AR 36 7 [3,12] 30 zt zr (AH 8) ⟨11,0,12,23⟩ ⟨13,0,14,13⟩ w:=fun w=>funext fun os=>by kernel_rfl
theorem pc9:∀w,AR 43 0 [3,12] 10 zr uO (AH 9) ⟨13,0,14,13⟩ ⟨15,0,15,8⟩ w:=fun w=>funext fun os=>by kernel_rfl
theorem vy:∀w,AR 43 8 [3,12] 34 uO uN (AH 10) ⟨15,0,15,8⟩ ⟨16,0,28,64⟩ w:=fun w=>funext fun os=>by kernel_rfl
theorem vx:∀w,AR 51 8 [3,12] 32 uN uM (AH 11) ⟨16,0,28,64⟩ ⟨29,0,30,54⟩ w:=fun w=>funext fun os=>by kernel_rfl
theorem vw:∀w,AR 59 0 [3,12] 10 uM uL (AH 12) ⟨29,0,30,54⟩ ⟨31,0,31,8⟩ w:=fun w=>funext fun os=>by kernel_rfl
theorem vv:∀w,AR 59 0 [3,12] 9 uL uK (AH 13) ⟨31,0,31,8⟩ ⟨32,0,32,10⟩ w:=fun w=>funext fun os=>by kernel_rfl
theorem vt:∀w,AR 59 0 [3,12] 10 uK uJ (AH 14) ⟨32,0,32,10⟩ ⟨33,0,33,26⟩ w:=fun w=>funext fun os=>by kernel_rfl
theorem vr:∀w,AR 59 0 [3,12] 10 uJ uI (AH 15) ⟨33,0,33,26⟩ ⟨34,0,34,10⟩ w:=fun w=>funext fun os=>by kernel_rfl
theorem vq:∀w,AR 59 8 [3,12] 47 uI uH (AH 16) ⟨34,0,34,10⟩ ⟨35,0,86,152⟩ w:=fun w=>funext fun os=>by kernel_rfl
theorem vp:∀w,AR 67 7 [3,12] 38 uH uG (AH 17) ⟨35,0,86,152⟩ ⟨87,0,109,17⟩ w:=fun w=>funext fun os=>by kernel_rfl
theorem vo:∀w,AR 74 0 [3,12] 10 uG uF (AH 18) ⟨87,0,109,17⟩ ⟨110,0,110,8⟩ w:=fun w=>funext fun os=>by kernel_rfl
theorem vn:∀w,AR 74 0 [3,12] 9 uF W1 (AH 19) ⟨110,0,110,8⟩ ⟨111,0,111,8⟩ w:=fun w=>funext fun os=>by kernel_rfl
theorem vm:∀w,AR 74 1 [3,12] 63 W1 uE (AH 20) ⟨111,0,111,8⟩ ⟨112,0,112,21⟩ w:=byRow2 "special-get-raises" (P:=AR 74 1 [3,12] 63 W1 uE (AH 20) ⟨111,0,111,8⟩ ⟨112,0,112,21⟩) (fun w=>funext fun os=>by kernel_rfl) (fun w=>funext fun os=>by kernel_rfl)
theorem vk:∀w,AR 76 1 [3,12] 37 uD W0 (AH 22) ⟨113,0,113,21⟩ ⟨114,0,114,22⟩ w:=byRow2 "special-get-raises" (P:=AR 76 1 [3,12] 37 uD W0 (AH 22) ⟨113,0,113,21⟩ ⟨114,0,114,22⟩) (fun w=>funext fun os=>by kernel_rfl) (fun w=>funext fun os=>by kernel_rfl)
theorem vj:∀w,AR 77 8 [3,12] 32 W0 uC (AH 23) ⟨114,0,114,22⟩ ⟨115,0,116,54⟩ w:=fun w=>funext fun os=>by kernel_rfl
theorem vi:∀w,AR 85 41 [3,12] 544 uC uB (AH 24) ⟨115,0,116,54⟩ ⟨117,0,236,54⟩ w:=fun w=>funext fun os=>by kernel_rfl
theorem vh:∀w,AR 126 49 [3,12,121] 445 uB uA (AH 25) ⟨117,0,236,54⟩ ⟨237,0,254,18⟩ w:=fun w=>funext fun os=>by kernel_rfl
theorem vg:∀w,AR 175 3 [3,12,121] 210 uA t9 (AH 26) ⟨237,0,254,18⟩ ⟨255,0,255,4⟩ w:=fun w=>funext fun os=>by kernel_rfl
theorem vf:∀w,AR 178 35 [3,12,121] 340 t9 t8 (AH 27) ⟨255,0,255,4⟩ ⟨256,0,288,35⟩ w:=fun w=>funext fun os=>by kernel_rfl
theorem ve:∀w,AR 213 33 [3,12,121,210] 333 t8 t7 (AH 28) ⟨256,0,288,35⟩ ⟨289,0,312,16⟩ w:=fun w=>funext fun os=>by kernel_rfl
theorem vd:∀w,AR 246 34 [3,12,121,210,243] 393 t7 t6 (AH 29) ⟨289,0,312,16⟩ ⟨313,0,332,27⟩ w:=fun w=>funext fun os=>by kernel_rfl
theorem vc:∀w,AR 280 34 [3,12,121,210,243] 393 t6 t5 (AH 30) ⟨313,0,332,27⟩ ⟨333,0,356,27⟩ w:=fun w=>funext fun os=>by kernel_rfl
theorem vb:∀w,AR 314 35 [3,12,121,210,243] 414 t5 t4 (AH 31) ⟨333,0,356,27⟩ ⟨357,0,393,32⟩ w:=fun w=>funext fun os=>by kernel_rfl
theorem vZ:∀w,AR 349 41 [3,12,121,210,243,346] 473 t4 t3 (AH 32) ⟨357,0,393,32⟩ ⟨394,0,463,27⟩ w:=fun w=>funext fun os=>by kernel_rfl
theorem vY:∀w,AR 390 27 [3,12,121,210,243,346] 394 t3 tz (AH 33) ⟨394,0,463,27⟩ ⟨464,0,488,27⟩ w:=fun w=>funext fun os=>by kernel_rfl
theorem vX:∀w,AR 417 34 [3,12,121,210,243] 418 tz ty (AH 34) ⟨464,0,488,27⟩ ⟨489,0,518,26⟩ w:=fun w=>funext fun os=>by kernel_rfl
theorem vW:∀w,AR 451 27 [3,12,121,210] 369 ty tx (AH 35) ⟨489,0,518,26⟩ ⟨519,0,528,19⟩ w:=fun w=>funext fun os=>by kernel_rfl
theorem vV:∀w,AR 478 35 [3,12,121,210] 468 tx tw (AH 36) ⟨519,0,528,19⟩ ⟨529,0,593,27⟩ w:=fun w=>funext fun os=>by kernel_rfl
theorem vU:∀w,AR 513 136 [3,12,121] 1103 tw tu (AH 37) ⟨529,0,593,27⟩ ⟨594,0,877,35⟩ w:=fun w=>funext fun os=>by kernel_rfl
theorem vT:∀w,AR 649 130 [3,12,121,646] 1012 tu tt (AH 38) ⟨594,0,877,35⟩ ⟨878,0,1033,35⟩ w:=fun w=>funext fun os=>by kernel_rfl
theorem vS:∀w,AR 779 20 [3,12,646,776] 275 tt Wz (AH 39) ⟨878,0,1033,35⟩ ⟨1034,0,1046,31⟩ w:=fun w=>funext fun os=>by kernel_rfl
theorem vR:∀w,AR 799 17 [3,12,646,776] 276 Wz Wy (AH 40) ⟨1034,0,1046,31⟩ ⟨1047,0,1048,117⟩ w:=byRow2 "special-get-raises" (P:=AR 799 17 [3,12,646,776] 276 Wz Wy (AH 40) ⟨1034,0,1046,31⟩ ⟨1047,0,1048,117⟩) (fun w=>funext fun os=>by kernel_rfl) (fun w=>funext fun os=>by kernel_rfl)
theorem vQ:∀w,AR 816 12 [3,12,646,776] 241 Wy Wx (AH 41) ⟨1047,0,1048,117⟩ ⟨1049,0,1050,27⟩ w:=fun w=>funext fun os=>by kernel_rfl
theorem vP:∀w,AR 828 19 [3,12,646] 338 Wx Ry (AH 42) ⟨1049,0,1050,27⟩ ⟨1051,0,1052,168⟩ w:=byRow2 "special-get-raises" (P:=AR 828 19 [3,12,646] 338 Wx Ry (AH 42) ⟨1049,0,1050,27⟩ ⟨1051,0,1052,168⟩) (fun w=>funext fun os=>by kernel_rfl) (fun w=>funext fun os=>by kernel_rfl)
theorem vO:∀w,AR 847 17 [3,12,646] 285 Ry Rx (AH 43) ⟨1051,0,1052,168⟩ ⟨1053,0,1054,105⟩ w:=byRow2 "special-get-raises" (P:=AR 847 17 [3,12,646] 285 Ry Rx (AH 43) ⟨1051,0,1052,168⟩ ⟨1053,0,1054,105⟩) (fun w=>funext fun os=>by kernel_rfl) (fun w=>funext fun os=>by kernel_rfl)
theorem vN:∀w,AR 864 17 [3,12,646] 315 Rx Ww (AH 44) ⟨1053,0,1054,105⟩ ⟨1055,0,1056,159⟩ w:=byRow2 "special-get-raises" (P:=AR 864 17 [3,12,646] 315 Rx Ww (AH 44) ⟨1053,0,1054,105⟩ ⟨1055,0,1056,159⟩) (fun w=>funext fun os=>by kernel_rfl) (fun w=>funext fun os=>by kernel_rfl)
theorem vM:∀w,AR 881 15 [3,12,646] 253 Ww Wv (AH 45) ⟨1055,0,1056,159⟩ ⟨1057,0,1058,66⟩ w:=fun w=>funext fun os=>by kernel_rfl
theorem vL:∀w,AR 896 1 [3,12] 268 Wv Wu (AH 46) ⟨1057,0,1058,66⟩ ⟨1059,0,1059,6⟩ w:=byRow2 "special-get-raises" (P:=AR 896 1 [3,12] 268 Wv Wu (AH 46) ⟨1057,0,1058,66⟩ ⟨1059,0,1059,6⟩) (fun w=>funext fun os=>by kernel_rfl) (fun w=>funext fun os=>by kernel_rfl)
theorem vK:∀w,AR 897 7 [3,12] 30 Wu tq (AH 47) ⟨1059,0,1059,6⟩ ⟨1060,0,1069,31⟩ w:=fun w=>funext fun os=>by kernel_rfl
theorem vJ:∀w,AR 904 7 [3,12] 33 tq to (AH 48) ⟨1060,0,1069,31⟩ ⟨1070,0,1092,41⟩ w:=fun w=>funext fun os=>by kernel_rfl
theorem vI:∀w,AR 911 5 [3,12] 27 to Wt (AH 49) ⟨1070,0,1092,41⟩ ⟨1093,0,1099,17⟩ w:=fun w=>funext fun os=>by kernel_rfl
theorem vH:∀w,AR 916 1 [3,12] 109 Wt Ws (AH 50) ⟨1093,0,1099,17⟩ ⟨1100,0,1100,16⟩ w:=byRow2 "special-get-raises" (P:=AR 916 1 [3,12] 109 Wt Ws (AH 50) ⟨1093,0,1099,17⟩ ⟨1100,0,1100,16⟩) (fun w=>funext fun os=>by kernel_rfl) (fun w=>funext fun os=>by kernel_rfl)
theorem vG:∀w,AR 917 8 [3,12] 59 Ws tn (AH 51) ⟨1100,0,1100,16⟩ ⟨1101,0,1188,16⟩ w:=fun w=>funext fun os=>by kernel_rfl
theorem vF:∀w,AR 925 8 [3,12] 40 tn tm (AH 52) ⟨1101,0,1188,16⟩ ⟨1189,0,1195,105⟩ w:=fun w=>funext fun os=>by kernel_rfl
theorem vE:∀w,AR 933 0 [3,12] 10 tm tj (AH 53) ⟨1189,0,1195,105⟩ ⟨1196,0,1196,8⟩ w:=fun w=>funext fun os=>by kernel_rfl
theorem vD:∀w,AR 933 7 [3,12] 32 tj th (AH 54) ⟨1196,0,1196,8⟩ ⟨1197,0,1202,17⟩ w:=fun w=>funext fun os=>by kernel_rfl
theorem vC:∀w,AR 940 7 [3,12] 32 th tf (AH 55) ⟨1197,0,1202,17⟩ ⟨1203,0,1205,87⟩ w:=fun w=>funext fun os=>by kernel_rfl
theorem vB:∀w,AR 947 5 [3,12] 27 tf te (AH 56) ⟨1203,0,1205,87⟩ ⟨1206,0,1209,124⟩ w:=fun w=>funext fun os=>by kernel_rfl
theorem vA:∀w,AR 952 5 [3,12] 27 te Pl (AH 57) ⟨1206,0,1209,124⟩ ⟨1210,0,1257,82⟩ w:=fun w=>funext fun os=>by kernel_rfl
end
section
noncomputable def Sc:Expr:=match AH 21 with| .Assign _ v _=>v|_=>default
def ud:Expr:=match AH 21 with| .Assign (t::_) _ _=>t|_=>default
def yP:Pos:=match AH 21 with| .Assign _ _ p=>p|_=>default
def xU:List (Option Expr):=match Sc with| .Dict ks _ _=>ks|_=>[]
def uv:List Expr:=match Sc with| .Dict _ vs _=>vs|_=>[]
def Tk:Pos:=match Sc with| .Dict _ _ p=>p|_=>default
noncomputable def Nw(v:Value):Sem Flow:=do assignStores DC v (←swappedStores [ud] Sc DC) ((assignEach [ud] DC).map (·.2))
noncomputable def Id:List (Option (Sem Value)×Sem Value):=(evalEachOpt xU DC).zip ((evalEach uv DC).map fun v=>do let x←v;standAt Tk;pure x)
noncomputable def GG:List (Sem Value×Sem Value):=Id.map fun x=>(x.1.getD (pure .none),x.2)
noncomputable def SM:Sem Bool:=do standAt yP;swapsWithSole [ud] Sc yP.line DC
theorem Tf:exec (AH 21) DC=SM>>=fun b=>if b then(do evalThenUse Sc DC (fun v=>assignAll v ((assignEach [ud] DC).map (·.2)));pure .next) else(eval Sc DC>>=Nw):=by kernel_rfl
theorem Te:eval Sc DC=(do standAt Tk;dictDisplay Id):=by kernel_rfl
theorem Td:dictDisplay Id=((subDict GG).bind fun a=>pure (some a)).bind fun r=>match r with|some d=>pure (.ref d)|none=>newDict:=by kernel_rfl
noncomputable def Gs(d:Nat)(vs:List (Value×Value)):Sem PUnit:=do
 forIn vs PUnit.unit fun x _=>do dictSet d x.1 x.2;pure (.yield PUnit.unit)
 pure ()
theorem Tc:subDict GG=(alloc {cls:= .type "dict",data:= .dict #[]})>>=fun d=>(holding [.ref d] (evalPairs GG>>=fun vs=>holding (vs.flatMap fun x=>[x.1,x.2]) (Gs d vs)))>>=fun _=>pure d:=by kernel_rfl
abbrev A8(w:World):Nat→Option Obj:=fun a=>(My w.params).get a
noncomputable abbrev B0:List Frame:=[topFrame ⟨0,0,0,0⟩]
def AQ(w:World)(n:Nat)(s:Shared)(t:Thread)(s':Shared)(t':Thread):Prop:=
 ∀N r,topRun treeTable P0 w 11 (some (R 6)) N s' t'=some r→topRun treeTable P0 w 11 (some (R 6)) (n+N) s t=some r
section
variable{w:World}
theorem AQ.trans{a b:Nat}{s s1 s2:Shared}{t t1 t2:Thread}(x:AQ w a s t s1 t1)(y:AQ w b s1 t1 s2 t2):AQ w (a+b) s t s2 t2:=fun N r h=>by
 rw[Nat.add_assoc];exact x _ _ (y _ _ h)
theorem AQ.mono{a b:Nat}{s s':Shared}{t t':Thread}(x:AQ w a s t s' t')(h:a≤b):AQ w b s t s' t':=fun N r q=>by
 have:=topRun_mono (b - a) _ _ _ _ (x N r q)
 rw[show a+N+(b - a)=b+N by exact DM [_,_,_,_] [] [.ne (.a AT AA) v3] (.a (.a AA v1) AT) (.a v3 v1) [1,1] [1, -1] rfl (Ej (AK [_,_] [] [.nl AA v1] (.nl AA v1) [1,1] rfl h))] at this
 exact this
theorem AQ.refl{s:Shared}{t:Thread}:AQ w 0 s t s t:=fun N r h=>by rw[Nat.zero_add];exact h
theorem Gd{s:Shared}{a:Addr}{q:Option Value}{f:Obj→Sem Fin}{o:Obj}{c:Code}{pos:Pos}(h:s.heap.get? a=some o):AQ w 1 s ⟨.load a q f,c,pos,B0⟩ s ⟨f o,c,pos,B0⟩:=fun N r hr=>by
 obtain⟨heap,gens,drawn,toks,os⟩:=s
 dsimp only at h
 rw[Nat.add_comm]
 unfold topRun
 show(match step (denote treeTable) P0 w ⟨heap,gens,drawn,toks,os⟩ ⟨.load a q f,c,pos,B0⟩ with| .go s' t'=>topRun treeTable P0 w 11 (some (R 6)) N s' t'| .halt _ _=>none)=some r
 simp only[step,h]
 exact hr
theorem KL{s:Shared}{tag:String}{f:Unit→Sem Fin}{c:Code}{pos:Pos}:AQ w 1 s ⟨.rule tag f,c,pos,B0⟩ s ⟨f (),c,pos,B0⟩:=fun N r hr=>by
 obtain⟨heap,gens,drawn,toks,os⟩:=s
 rw[Nat.add_comm]
 unfold topRun
 exact hr
theorem XR:(PySem.W.Fast.tw8437177126325714943 (PySem.W.Fast.tw11892475500146522536 PySem.W.Fast.tw14364793385576792824) P0 w)=step (denote treeTable) P0 w:=by
 rw[←PySem.W.Fast.te8437177126325714943,←PySem.W.Fast.te11892475500146522536,←PySem.W.Fast.te14364793385576792824]
theorem LM{life:Life}{nk m n:Nat}{K:List Nat}{S S':MS}{t:Thread}{f:Flow}{q:Pos}
  (h:((MQ PySem.W.Fast.tw6613529449190102663 (NZ w) 11 (some (R 6)) nk (A8 w) n S t).map (Hn nk (A8 w) m K),S'.m,S'.old.all (fun p=>Nat.ble nk p.1||K.any fun a=>Nat.beq a p.1))=(some (Hk f nk (A8 w) m K S' A3 q),0,true)):
  segRun treeTable P0 w 11 (some (R 6)) 1 n (BR nk (A8 w) life S) t=some (f,BR (nk+m) (A8 w) life S',A3,q):=by
 simp only[Prod.mk.injEq] at h
 obtain⟨h,hm,hall⟩:=h
 obtain⟨r,hr,e⟩:=Option.map_eq_some_iff.mp h
 obtain⟨e1,e2,e3⟩:=Nd (life:=life) hm e hall
 obtain⟨f',s',c',q'⟩:=r
 simp only[Prod.mk.injEq] at e3
 obtain⟨rfl,rfl⟩:=e3
 dsimp only at e1 e2
 subst e1
 rw[NZ,XR,←PySem.W.Fast.te6613529449190102663] at hr
 rw[MP (life:=life) hr,e2]
theorem Ti{α:Type}{x:Sem α}(res:α→Flow)(a₀:α)(inj:∀a,res a=res a₀→a=a₀){life:Life}{nk m n:Nat}{K:List Nat}{S S':MS}{lv:List Value→List Value}{pos q:Pos}
  (h:((MQ PySem.W.Fast.tw6613529449190102663 (NZ w) 11 (some (R 6)) nk (A8 w) n S ⟨x.wrap (fun a=> .pure (.done (res a))) deadEnd id lv,A3,pos,B0⟩).map (Hn nk (A8 w) m K),S'.m,S'.old.all (fun p=>Nat.ble nk p.1||K.any fun a=>Nat.beq a p.1))=(some (Hk (res a₀) nk (A8 w) m K S' A3 q),0,true))
  (K':α→Sem Fin) (H':Value→Sem Fin):AQ w n (BR nk (A8 w) life S) ⟨x.wrap K' H' id lv,A3,pos,B0⟩ (BR (nk+m) (A8 w) life S') ⟨K' a₀,A3,q,B0⟩:=fun N r hr=>by
 obtain⟨a,ha,hN⟩:=seg_top (res:=res) (K':=K') (H':=H') (gd:=id) (lv:=lv) (B:=B0) rfl n (BR nk (A8 w) life S) ⟨x.wrap (fun a=> .pure (.done (res a))) deadEnd id lv,A3,pos,B0⟩
  ⟨x.wrap K' H' id lv,A3,pos,B0⟩ _ _ _ _ ⟨rfl,rfl,.inl ⟨rfl,rfl,_,rfl,rfl⟩⟩ (LM (life:=life) h)
 obtain rfl:=inj a ha
 exact hN N r hr
end
theorem Bv{α β γ:Type}(x:Sem α)(f:α→Sem β)(K:β→Sem γ)(H:Value→Sem γ)(gd:Bool→Bool)(lv:List Value→List Value):(x>>=f).wrap K H gd lv=x.wrap (fun a=>(f a).wrap K H gd lv) H gd lv:=by
 rw[Sem.bind_eq_wrap',Sem.wrap_wrap];rfl
theorem rY{α γ:Type}(x:Sem α)(vs:List Value)(K:α→Sem γ)(H:Value→Sem γ)(gd:Bool→Bool)(lv:List Value→List Value):(x.keep vs).wrap K H gd lv=x.wrap K H gd (fun l=>lv (vs++l)):=by
 rw[Sem.keep_eq_wrap,Sem.wrap_wrap];rfl
def D6(w:World)(s:Shared)(lv:List Value→List Value)(pos:Pos)(x key:Value):Prop:=
 ∀(K':Bool→Sem Fin) (H':Value→Sem Fin),AQ w 12 s ⟨(eqBool x key).wrap K' H' id lv,A3,pos,B0⟩ s ⟨K' false,A3,pos,B0⟩
theorem MH{w:World}{s:Shared}{lv:List Value→List Value}{pos:Pos}{d:Addr}{key:Value}{h:Int}{es:Array DictEntry}{o:Obj}{ep:Nat}
  (ho:s.heap.get? d=some o) (hd:o.data= .dict es ep):
  ∀(places:List Nat),(∀i∈places,∃e,es[i]? =some e∧e.hash=h∧D6 w s lv pos e.key key)→∀(K':Option Nat→Sem Fin) (H':Value→Sem Fin),
   AQ w (places.length*15) s ⟨(dictWalkPlain d key h es places).wrap K' H' id lv,A3,pos,B0⟩ s ⟨K' none,A3,pos,B0⟩:=by
 intro places
 induction places with
 |nil=>intro _ K' H';exact AQ.refl
 |cons i r ih=>
  intro hp K' H'
  obtain⟨e,he,hh,hn⟩:=hp i (.head _)
  have ih:=ih (fun j hj=>hp j (.tail _ hj)) K' H'
  unfold dictWalkPlain at ih⊢
  rw[List.forIn_cons,Bv,Bv]
  rw[he]
  dsimp only
  rw[if_pos (by rw[hh];exact beq_self_eq_true _),Bv]
  have ep1:∀(K2:Nat→Sem Fin),AQ w 1 s ⟨(dictEpoch d (keyPart key)).wrap K2 H' id lv,A3,pos,B0⟩ s ⟨K2 ep,A3,pos,B0⟩:=fun K2=>by
   have:=Gd (w:=w) (s:=s) (a:=d) (q:=keyPart key) (f:=fun o=>((match o.data with| .dict _ n=>pure n|_=>unsupported "internal:not-a-dict":Sem Nat)).wrap K2 H' id lv) (c:=A3) (pos:=pos) ho
   rw[hd] at this
   exact this
  refine AQ.mono (((ep1 _).trans ?_:AQ w (1+(12+(1+(1+r.length*15)))) s _ s _)) (by rw[List.length_cons];exact AK [_] [] [] (.nl (.a AO (.a (.k 12) (.a AO (.a AO (.w AA 15))))) (.w (.a AA AO) 15)) [1] rfl)
  rw[Bv]
  refine(hn _ H').trans ?_
  rw[Bv]
  refine(ep1 _).trans ?_
  rw[if_neg (by simp),if_neg (by simp),Bv]
  refine(KL (w:=w)).trans ?_
  rw[Bv] at ih
  exact ih
theorem Mx{w:World}{s:Shared}{lv:List Value→List Value}{pos:Pos}{d:Addr}{k:Int}{t:Nat}{es:Array DictEntry}{o:Obj}{ep:Nat}
  (ho:s.heap.get? d=some o) (hd:o.data= .dict es ep) (hc:∀(i:Nat) (e:DictEntry),es[i]? =some e→carriedByValue e.key=true) (hn:∀(i:Nat) (e:DictEntry),es[i]? =some e→e.hash=k→D6 w s lv pos e.key (.int k t))
  (K':Option Nat→Sem Fin) (H':Value→Sem Fin):AQ w (1+es.size*15) s ⟨(dictFind d (.int k t) k).wrap K' H' id lv,A3,pos,B0⟩ s ⟨K' none,A3,pos,B0⟩:=by
 unfold dictFind
 have hE:∀(K2:Array DictEntry→Sem Fin),AQ w 1 s ⟨(dictEntries d (keyPart (.int k t))).wrap K2 H' id lv,A3,pos,B0⟩ s ⟨K2 es,A3,pos,B0⟩:=fun K2=>by
  have:=Gd (w:=w) (s:=s) (a:=d) (q:=keyPart (.int k t)) (f:=fun o=>((match o.data with| .dict es _=>pure es|_=>unsupported "internal:not-a-dict":Sem (Array DictEntry))).wrap K2 H' id lv) (c:=A3) (pos:=pos) ho
  rw[hd] at this
  exact this
 rw[show∀{α:Type} (m:Sem α),holding [Value.int k t] m=m from fun _=>rfl,Bv]
 refine(hE _).trans ?_
 dsimp only
 rw[if_pos]
 ·refine AQ.mono (MH ho hd _ ?_ K' H') ?_
  ·intro i hi
   obtain⟨_,hi⟩:=List.mem_filter.mp hi
   have hi:(es[i]?.map (·.hash)==some k)=true:=hi
   cases q:es[i]? with
   |none=>rw[q] at hi;simp at hi
   |some e=>
    rw[q] at hi
    have hh:e.hash=k:=by simpa using hi
    exact⟨e,rfl,hh,hn i e q hh⟩
  ·exact Nat.mul_le_mul_right _ (Nat.le_trans (List.length_filter_le _ _) (by rw[List.length_range];exact Nat.le_refl _))
 ·rw[List.all_cons,Bool.and_eq_true]
  refine⟨rfl,List.all_eq_true.mpr fun x hx=> ?_⟩
  obtain⟨i,_,hi⟩:=List.mem_filterMap.mp hx
  obtain⟨e,he,rfl⟩:=Option.map_eq_some_iff.mp hi
  exact hc i e he
/-! the statement's own stages -/
noncomputable def FK(P:Params):List DictEntry:=[E P (S "universal") 304 (.int 0 305),E P (S "application") 306 (.int 1 307),E P (S "context") 308 (.int 2 309),E P (S "private") 310 (.int 3 311),⟨0,.int 0 312,.int 0 313⟩,⟨1,.int 1 314,.int 1 315⟩,⟨2,.int 2 316,.int 2 317⟩,⟨3,.int 3 318,.int 3 319⟩]
def WC(P:Params)(j:Nat):Obj:=⟨.type "dict",none,.dict ((FK P).take j).toArray j,#[]⟩
def Ba(P:Params)(os:OsState):MS:=⟨.nil,[(3,N4 P),(12,DX)],0,#[],{},304,os⟩
def Bh(P:Params)(os:OsState)(j t:Nat):MS:=⟨.nil,[(3,N4 P),(12,DX),(75,WC P j)],0,#[],{},t,os⟩
def Bz(P:Params)(os:OsState):MS:=⟨.nil,[(3,SO P),(12,DX)],0,#[],{},329,os⟩
noncomputable abbrev Ay:List Value→List Value:=fun l=>id ([Value.ref 75]++l)
noncomputable abbrev qd:Pos:=⟨113,24,113,110⟩
abbrev A6{α:Type}(x:Sem α)(res:α→Flow)(a₀:α)(n nk m:Nat)(K:List Nat)(lv:List Value→List Value)(pos q:Pos)(A B:Params→OsState→MS)(w:World)(os:OsState):Prop:=
 ((MQ PySem.W.Fast.tw6613529449190102663 (NZ w) 11 (some (R 6)) nk (A8 w) n (A w.params os) ⟨x.wrap (fun a=> .pure (.done (res a))) deadEnd id lv,A3,pos,B0⟩).map (Hn nk (A8 w) m K),(B w.params os).m,(B w.params os).old.all (fun p=>Nat.ble nk p.1||K.any fun a=>Nat.beq a p.1))=(some (Hk (res a₀) nk (A8 w) m K (B w.params os) A3 q),0,true)
noncomputable abbrev Bj(b:Bool):Flow:=if b then .brk else .next
theorem JG(a:Bool)(h:Bj a=Bj false):a=false:=by cases a with|false=>rfl|true=>cases h
noncomputable abbrev DL{α:Type}(_:α):Flow:= .next
noncomputable abbrev FY(k i:Int):Flow:=if i=k then .next else .brk
theorem Nq(k a:Int)(h:FY k a=FY k k):a=k:=by
 unfold FY at h
 by_cases q:a=k
 ·exact q
 ·rw[if_neg q,if_pos rfl] at h;cases h
noncomputable abbrev Xx(a:Nat):Flow:= .ret (.ref a)
noncomputable abbrev Px:List (Value×Value):=[(.str (S "universal") 304,.int 0 305),(.str (S "application") 306,.int 1 307),(.str (S "context") 308,.int 2 309),(.str (S "private") 310,.int 3 311),(.int 0 312,.int 0 313),(.int 1 314,.int 1 315),(.int 2 316,.int 2 317),(.int 3 318,.int 3 319)]
noncomputable abbrev Np(v:List (Value×Value)):Flow:=if v=Px then .next else .brk
theorem No(a:List (Value×Value))(h:Np a=Np Px):a=Px:=by
 unfold Np at h
 by_cases q:a=Px
 ·exact q
 ·rw[if_neg q,if_pos rfl] at h;cases h
theorem Nr(a:Flow)(h:id a=id Flow.next):a= .next:=h
theorem sV(w:World)(os:OsState):A6 SM Bj false 2 75 0 [3,12] id ⟨112,0,112,21⟩ ⟨113,0,113,110⟩ Ba Ba w os:=by kernel_rfl
theorem x6(w:World)(os:OsState):A6 (standAt Tk) DL () 2 75 0 [3,12] id ⟨113,0,113,110⟩ qd Ba Ba w os:=by kernel_rfl
theorem Rf(w:World)(os:OsState):A6 (alloc {cls:= .type "dict",data:= .dict #[]}) Xx 75 2 75 1 [3,12] id qd qd Ba (fun P os=>Bh P os 0 304) w os:=by kernel_rfl
theorem Re(w:World)(os:OsState):A6 (evalPairs GG) Np Px 25 76 0 [3,12,75] Ay qd qd (fun P os=>Bh P os 0 304) (fun P os=>Bh P os 0 320) w os:=by kernel_rfl
theorem xm(w:World)(os:OsState):A6 (dictSet 75 (.str (S "universal") 304) (.int 0 305)) DL () 13 76 0 [3,12,75] Ay qd qd (fun P os=>Bh P os 0 320) (fun P os=>Bh P os 1 321) w os:=byRow2 "special-get-raises" (P:=fun w=>∀os,A6 (dictSet 75 (.str (S "universal") 304) (.int 0 305)) DL () 13 76 0 [3,12,75] Ay qd qd (fun P os=>Bh P os 0 320) (fun P os=>Bh P os 1 321) w os) (fun w os=>by kernel_rfl) (fun w os=>by kernel_rfl) w os
theorem xl(w:World)(os:OsState):A6 (dictSet 75 (.str (S "application") 306) (.int 1 307)) DL () 13 76 0 [3,12,75] Ay qd qd (fun P os=>Bh P os 1 321) (fun P os=>Bh P os 2 322) w os:=byRow2 "special-get-raises" (P:=fun w=>∀os,A6 (dictSet 75 (.str (S "application") 306) (.int 1 307)) DL () 13 76 0 [3,12,75] Ay qd qd (fun P os=>Bh P os 1 321) (fun P os=>Bh P os 2 322) w os) (fun w os=>by kernel_rfl) (fun w os=>by kernel_rfl) w os
theorem xk(w:World)(os:OsState):A6 (dictSet 75 (.str (S "context") 308) (.int 2 309)) DL () 13 76 0 [3,12,75] Ay qd qd (fun P os=>Bh P os 2 322) (fun P os=>Bh P os 3 323) w os:=byRow2 "special-get-raises" (P:=fun w=>∀os,A6 (dictSet 75 (.str (S "context") 308) (.int 2 309)) DL () 13 76 0 [3,12,75] Ay qd qd (fun P os=>Bh P os 2 322) (fun P os=>Bh P os 3 323) w os) (fun w os=>by kernel_rfl) (fun w os=>by kernel_rfl) w os
theorem xj(w:World)(os:OsState):A6 (dictSet 75 (.str (S "private") 310) (.int 3 311)) DL () 13 76 0 [3,12,75] Ay qd qd (fun P os=>Bh P os 3 323) (fun P os=>Bh P os 4 324) w os:=byRow2 "special-get-raises" (P:=fun w=>∀os,A6 (dictSet 75 (.str (S "private") 310) (.int 3 311)) DL () 13 76 0 [3,12,75] Ay qd qd (fun P os=>Bh P os 3 323) (fun P os=>Bh P os 4 324) w os) (fun w os=>by kernel_rfl) (fun w os=>by kernel_rfl) w os
theorem x5(w:World)(os:OsState):A6 (pyHash (.int 0 312)) (FY 0) 0 6 76 0 [3,12,75] Ay qd qd (fun P os=>Bh P os 4 324) (fun P os=>Bh P os 4 325) w os:=byRow2 "special-get-raises" (P:=fun w=>∀os,A6 (pyHash (.int 0 312)) (FY 0) 0 6 76 0 [3,12,75] Ay qd qd (fun P os=>Bh P os 4 324) (fun P os=>Bh P os 4 325) w os) (fun w os=>by kernel_rfl) (fun w os=>by kernel_rfl) w os
theorem x0(w:World)(os:OsState):A6 (pyHash (.int 1 314)) (FY 1) 1 6 76 0 [3,12,75] Ay qd qd (fun P os=>Bh P os 5 325) (fun P os=>Bh P os 5 326) w os:=byRow2 "special-get-raises" (P:=fun w=>∀os,A6 (pyHash (.int 1 314)) (FY 1) 1 6 76 0 [3,12,75] Ay qd qd (fun P os=>Bh P os 5 325) (fun P os=>Bh P os 5 326) w os) (fun w os=>by kernel_rfl) (fun w os=>by kernel_rfl) w os
theorem xz(w:World)(os:OsState):A6 (pyHash (.int 2 316)) (FY 2) 2 6 76 0 [3,12,75] Ay qd qd (fun P os=>Bh P os 6 326) (fun P os=>Bh P os 6 327) w os:=byRow2 "special-get-raises" (P:=fun w=>∀os,A6 (pyHash (.int 2 316)) (FY 2) 2 6 76 0 [3,12,75] Ay qd qd (fun P os=>Bh P os 6 326) (fun P os=>Bh P os 6 327) w os) (fun w os=>by kernel_rfl) (fun w os=>by kernel_rfl) w os
theorem xy(w:World)(os:OsState):A6 (pyHash (.int 3 318)) (FY 3) 3 6 76 0 [3,12,75] Ay qd qd (fun P os=>Bh P os 7 327) (fun P os=>Bh P os 7 328) w os:=byRow2 "special-get-raises" (P:=fun w=>∀os,A6 (pyHash (.int 3 318)) (FY 3) 3 6 76 0 [3,12,75] Ay qd qd (fun P os=>Bh P os 7 327) (fun P os=>Bh P os 7 328) w os) (fun w os=>by kernel_rfl) (fun w os=>by kernel_rfl) w os
noncomputable def JL(k:Int)(key v:Value):Sem Unit:=do rule "dict.set.new-key-at-the-end";updateDictKeys 75 (·.push ⟨k,key,v⟩) (keyPart key)
theorem xw(w:World)(os:OsState):A6 (JL 0 (.int 0 312) (.int 0 313)) DL () 5 76 0 [3,12,75] Ay qd qd (fun P os=>Bh P os 4 325) (fun P os=>Bh P os 5 325) w os:=by kernel_rfl
theorem xu(w:World)(os:OsState):A6 (JL 1 (.int 1 314) (.int 1 315)) DL () 5 76 0 [3,12,75] Ay qd qd (fun P os=>Bh P os 5 326) (fun P os=>Bh P os 6 326) w os:=by kernel_rfl
theorem xt(w:World)(os:OsState):A6 (JL 2 (.int 2 316) (.int 2 317)) DL () 5 76 0 [3,12,75] Ay qd qd (fun P os=>Bh P os 6 327) (fun P os=>Bh P os 7 327) w os:=by kernel_rfl
theorem xq(w:World)(os:OsState):A6 (JL 3 (.int 3 318) (.int 3 319)) DL () 5 76 0 [3,12,75] Ay qd qd (fun P os=>Bh P os 7 328) (fun P os=>Bh P os 8 328) w os:=by kernel_rfl
theorem WS(w:World)(os:OsState):A6 (Nw (.ref 75)) id .next 8 76 0 [3,12,75] id qd ⟨113,0,113,21⟩ (fun P os=>Bh P os 8 328) Bz w os:=by kernel_rfl
theorem sr(w:World)(os:OsState):A6 (eqBool (.str (S "universal") 304) (.int 0 312)) Bj false 12 76 0 [3,12,75] Ay qd qd (fun P os=>Bh P os 4 325) (fun P os=>Bh P os 4 325) w os:=byRow2 "special-get-raises" (P:=fun w=>∀os,A6 (eqBool (.str (S "universal") 304) (.int 0 312)) Bj false 12 76 0 [3,12,75] Ay qd qd (fun P os=>Bh P os 4 325) (fun P os=>Bh P os 4 325) w os) (fun w os=>by kernel_rfl) (fun w os=>by kernel_rfl) w os
theorem sq(w:World)(os:OsState):A6 (eqBool (.str (S "application") 306) (.int 0 312)) Bj false 12 76 0 [3,12,75] Ay qd qd (fun P os=>Bh P os 4 325) (fun P os=>Bh P os 4 325) w os:=byRow2 "special-get-raises" (P:=fun w=>∀os,A6 (eqBool (.str (S "application") 306) (.int 0 312)) Bj false 12 76 0 [3,12,75] Ay qd qd (fun P os=>Bh P os 4 325) (fun P os=>Bh P os 4 325) w os) (fun w os=>by kernel_rfl) (fun w os=>by kernel_rfl) w os
theorem so(w:World)(os:OsState):A6 (eqBool (.str (S "context") 308) (.int 0 312)) Bj false 12 76 0 [3,12,75] Ay qd qd (fun P os=>Bh P os 4 325) (fun P os=>Bh P os 4 325) w os:=byRow2 "special-get-raises" (P:=fun w=>∀os,A6 (eqBool (.str (S "context") 308) (.int 0 312)) Bj false 12 76 0 [3,12,75] Ay qd qd (fun P os=>Bh P os 4 325) (fun P os=>Bh P os 4 325) w os) (fun w os=>by kernel_rfl) (fun w os=>by kernel_rfl) w os
theorem sm(w:World)(os:OsState):A6 (eqBool (.str (S "private") 310) (.int 0 312)) Bj false 12 76 0 [3,12,75] Ay qd qd (fun P os=>Bh P os 4 325) (fun P os=>Bh P os 4 325) w os:=byRow2 "special-get-raises" (P:=fun w=>∀os,A6 (eqBool (.str (S "private") 310) (.int 0 312)) Bj false 12 76 0 [3,12,75] Ay qd qd (fun P os=>Bh P os 4 325) (fun P os=>Bh P os 4 325) w os) (fun w os=>by kernel_rfl) (fun w os=>by kernel_rfl) w os
theorem sk(w:World)(os:OsState):A6 (eqBool (.str (S "universal") 304) (.int 1 314)) Bj false 12 76 0 [3,12,75] Ay qd qd (fun P os=>Bh P os 5 326) (fun P os=>Bh P os 5 326) w os:=byRow2 "special-get-raises" (P:=fun w=>∀os,A6 (eqBool (.str (S "universal") 304) (.int 1 314)) Bj false 12 76 0 [3,12,75] Ay qd qd (fun P os=>Bh P os 5 326) (fun P os=>Bh P os 5 326) w os) (fun w os=>by kernel_rfl) (fun w os=>by kernel_rfl) w os
theorem sj(w:World)(os:OsState):A6 (eqBool (.str (S "application") 306) (.int 1 314)) Bj false 12 76 0 [3,12,75] Ay qd qd (fun P os=>Bh P os 5 326) (fun P os=>Bh P os 5 326) w os:=byRow2 "special-get-raises" (P:=fun w=>∀os,A6 (eqBool (.str (S "application") 306) (.int 1 314)) Bj false 12 76 0 [3,12,75] Ay qd qd (fun P os=>Bh P os 5 326) (fun P os=>Bh P os 5 326) w os) (fun w os=>by kernel_rfl) (fun w os=>by kernel_rfl) w os
theorem si(w:World)(os:OsState):A6 (eqBool (.str (S "context") 308) (.int 1 314)) Bj false 12 76 0 [3,12,75] Ay qd qd (fun P os=>Bh P os 5 326) (fun P os=>Bh P os 5 326) w os:=byRow2 "special-get-raises" (P:=fun w=>∀os,A6 (eqBool (.str (S "context") 308) (.int 1 314)) Bj false 12 76 0 [3,12,75] Ay qd qd (fun P os=>Bh P os 5 326) (fun P os=>Bh P os 5 326) w os) (fun w os=>by kernel_rfl) (fun w os=>by kernel_rfl) w os
theorem sh(w:World)(os:OsState):A6 (eqBool (.str (S "private") 310) (.int 1 314)) Bj false 12 76 0 [3,12,75] Ay qd qd (fun P os=>Bh P os 5 326) (fun P os=>Bh P os 5 326) w os:=byRow2 "special-get-raises" (P:=fun w=>∀os,A6 (eqBool (.str (S "private") 310) (.int 1 314)) Bj false 12 76 0 [3,12,75] Ay qd qd (fun P os=>Bh P os 5 326) (fun P os=>Bh P os 5 326) w os) (fun w os=>by kernel_rfl) (fun w os=>by kernel_rfl) w os
theorem sf(w:World)(os:OsState):A6 (eqBool (.str (S "universal") 304) (.int 2 316)) Bj false 12 76 0 [3,12,75] Ay qd qd (fun P os=>Bh P os 6 327) (fun P os=>Bh P os 6 327) w os:=byRow2 "special-get-raises" (P:=fun w=>∀os,A6 (eqBool (.str (S "universal") 304) (.int 2 316)) Bj false 12 76 0 [3,12,75] Ay qd qd (fun P os=>Bh P os 6 327) (fun P os=>Bh P os 6 327) w os) (fun w os=>by kernel_rfl) (fun w os=>by kernel_rfl) w os
theorem se(w:World)(os:OsState):A6 (eqBool (.str (S "application") 306) (.int 2 316)) Bj false 12 76 0 [3,12,75] Ay qd qd (fun P os=>Bh P os 6 327) (fun P os=>Bh P os 6 327) w os:=byRow2 "special-get-raises" (P:=fun w=>∀os,A6 (eqBool (.str (S "application") 306) (.int 2 316)) Bj false 12 76 0 [3,12,75] Ay qd qd (fun P os=>Bh P os 6 327) (fun P os=>Bh P os 6 327) w os) (fun w os=>by kernel_rfl) (fun w os=>by kernel_rfl) w os
theorem sd(w:World)(os:OsState):A6 (eqBool (.str (S "context") 308) (.int 2 316)) Bj false 12 76 0 [3,12,75] Ay qd qd (fun P os=>Bh P os 6 327) (fun P os=>Bh P os 6 327) w os:=byRow2 "special-get-raises" (P:=fun w=>∀os,A6 (eqBool (.str (S "context") 308) (.int 2 316)) Bj false 12 76 0 [3,12,75] Ay qd qd (fun P os=>Bh P os 6 327) (fun P os=>Bh P os 6 327) w os) (fun w os=>by kernel_rfl) (fun w os=>by kernel_rfl) w os
theorem sb(w:World)(os:OsState):A6 (eqBool (.str (S "private") 310) (.int 2 316)) Bj false 12 76 0 [3,12,75] Ay qd qd (fun P os=>Bh P os 6 327) (fun P os=>Bh P os 6 327) w os:=byRow2 "special-get-raises" (P:=fun w=>∀os,A6 (eqBool (.str (S "private") 310) (.int 2 316)) Bj false 12 76 0 [3,12,75] Ay qd qd (fun P os=>Bh P os 6 327) (fun P os=>Bh P os 6 327) w os) (fun w os=>by kernel_rfl) (fun w os=>by kernel_rfl) w os
theorem sa(w:World)(os:OsState):A6 (eqBool (.str (S "universal") 304) (.int 3 318)) Bj false 12 76 0 [3,12,75] Ay qd qd (fun P os=>Bh P os 7 328) (fun P os=>Bh P os 7 328) w os:=byRow2 "special-get-raises" (P:=fun w=>∀os,A6 (eqBool (.str (S "universal") 304) (.int 3 318)) Bj false 12 76 0 [3,12,75] Ay qd qd (fun P os=>Bh P os 7 328) (fun P os=>Bh P os 7 328) w os) (fun w os=>by kernel_rfl) (fun w os=>by kernel_rfl) w os
theorem sZ(w:World)(os:OsState):A6 (eqBool (.str (S "application") 306) (.int 3 318)) Bj false 12 76 0 [3,12,75] Ay qd qd (fun P os=>Bh P os 7 328) (fun P os=>Bh P os 7 328) w os:=byRow2 "special-get-raises" (P:=fun w=>∀os,A6 (eqBool (.str (S "application") 306) (.int 3 318)) Bj false 12 76 0 [3,12,75] Ay qd qd (fun P os=>Bh P os 7 328) (fun P os=>Bh P os 7 328) w os) (fun w os=>by kernel_rfl) (fun w os=>by kernel_rfl) w os
theorem sY(w:World)(os:OsState):A6 (eqBool (.str (S "context") 308) (.int 3 318)) Bj false 12 76 0 [3,12,75] Ay qd qd (fun P os=>Bh P os 7 328) (fun P os=>Bh P os 7 328) w os:=byRow2 "special-get-raises" (P:=fun w=>∀os,A6 (eqBool (.str (S "context") 308) (.int 3 318)) Bj false 12 76 0 [3,12,75] Ay qd qd (fun P os=>Bh P os 7 328) (fun P os=>Bh P os 7 328) w os) (fun w os=>by kernel_rfl) (fun w os=>by kernel_rfl) w os
theorem sW(w:World)(os:OsState):A6 (eqBool (.str (S "private") 310) (.int 3 318)) Bj false 12 76 0 [3,12,75] Ay qd qd (fun P os=>Bh P os 7 328) (fun P os=>Bh P os 7 328) w os:=byRow2 "special-get-raises" (P:=fun w=>∀os,A6 (eqBool (.str (S "private") 310) (.int 3 318)) Bj false 12 76 0 [3,12,75] Ay qd qd (fun P os=>Bh P os 7 328) (fun P os=>Bh P os 7 328) w os) (fun w os=>by kernel_rfl) (fun w os=>by kernel_rfl) w os
end
section
section
variable{w:World}{os:OsState}{life:Life}
theorem GC{α:Type}{x:Sem α}(res:α→Flow)(a₀:α)(inj:∀a,res a=res a₀→a=a₀){n nk m:Nat}{K:List Nat}{lv:List Value→List Value}{pos q:Pos}{A B:Params→OsState→MS}
  (h:A6 x res a₀ n nk m K lv pos q A B w os) (K':α→Sem Fin) (H':Value→Sem Fin):AQ w n (BR nk (A8 w) life (A w.params os)) ⟨x.wrap K' H' id lv,A3,pos,B0⟩ (BR (nk+m) (A8 w) life (B w.params os)) ⟨K' a₀,A3,q,B0⟩:=
 Ti res a₀ inj h K' H'
theorem RB(j t:Nat):(BR 76 (A8 w) life (Bh w.params os j t)).heap.get? 75=some (WC w.params j):=by
 have h:BX 76 (A8 w) (Bh w.params os j t) 75=some (WC w.params j):=by kernel_rfl
 exact(FQ (life:=life) h).trans rfl
theorem IK{k:Int}{tk tv j t:Nat}(hash:A6 (pyHash (.int k tk)) (FY k) k 6 76 0 [3,12,75] Ay qd qd (fun P os=>Bh P os j t) (fun P os=>Bh P os j (t+1)) w os)
  (put:A6 (JL k (.int k tk) (.int k tv)) DL () 5 76 0 [3,12,75] Ay qd qd (fun P os=>Bh P os j (t+1)) (fun P os=>Bh P os (j+1) (t+1)) w os)
  (hc:∀(i:Nat) (e:DictEntry),((FK w.params).take j).toArray[i]? =some e→carriedByValue e.key=true)
  (hn:∀(i:Nat) (e:DictEntry),((FK w.params).take j).toArray[i]? =some e→e.hash=k→D6 w (BR 76 (A8 w) life (Bh w.params os j (t+1))) Ay qd e.key (.int k tk))
  (K':Unit→Sem Fin) (H':Value→Sem Fin):
  AQ w (6+((1+((FK w.params).take j).toArray.size*15)+5)) (BR 76 (A8 w) life (Bh w.params os j t)) ⟨(dictSet 75 (.int k tk) (.int k tv)).wrap K' H' id Ay,A3,qd,B0⟩ (BR 76 (A8 w) life (Bh w.params os (j+1) (t+1))) ⟨K' (),A3,qd,B0⟩:=by
 unfold dictSet
 rw[show∀{α:Type} (m:Sem α),holding [Value.int k tk,Value.int k tv] m=m from fun _=>rfl,Bv]
 refine(GC (FY k) k (Nq k) hash _ H').trans ?_
 unfold dictSetHashed
 rw[show∀{α:Type} (m:Sem α),holding [Value.int k tk,Value.int k tv] m=m from fun _=>rfl,Bv]
 refine(Mx (RB j (t+1)) rfl hc hn _ H').trans ?_
 exact GC DL () (fun _ _=>rfl) put K' H'
theorem CV(x:Value×Value)(r:List (Value×Value))(K':PUnit→Sem Fin)(H':Value→Sem Fin)(lv:List Value→List Value):
  (Gs 75 (x::r)).wrap K' H' id lv=(dictSet 75 x.1 x.2).wrap (fun _=>(Gs 75 r).wrap K' H' id lv) H' id lv:=by
 unfold Gs
 rw[List.forIn_cons,Bv,Bv,Bv]
 refine Sem.wrap_congr _ _ _ (fun _=> ?_) fun _=>rfl
 rw[Bv]
 rfl
theorem EN{k:Int}{tk:Nat}{x:Value}{j t:Nat}(h:A6 (eqBool x (.int k tk)) Bj false 12 76 0 [3,12,75] Ay qd qd (fun P os=>Bh P os j t) (fun P os=>Bh P os j t) w os):D6 w (BR 76 (A8 w) life (Bh w.params os j t)) Ay qd x (.int k tk):=
 fun K' H'=>GC Bj false JG h K' H'
theorem Fv{p:DictEntry→Prop}{l:List DictEntry}(h:∀e∈l,p e):∀(i:Nat) (e:DictEntry),l.toArray[i]? =some e→p e:=fun i e he=>by
 rw[List.getElem?_toArray] at he
 exact h e (List.mem_of_getElem? he)
theorem GN(P:Params)(j:Nat):∀e∈(FK P).take j,carriedByValue e.key=true:=fun e he=>by
 have he:=List.mem_of_mem_take he
 simp only[FK,List.mem_cons,List.not_mem_nil,or_false] at he
 rcases he with rfl|rfl|rfl|rfl|rfl|rfl|rfl|rfl<;>rfl
theorem no0:∀e∈(FK w.params).take 4,e.hash=0→D6 w (BR 76 (A8 w) life (Bh w.params os 4 (324+1))) Ay qd e.key (.int 0 312):=fun e he hh=>by
 simp only[FK,List.take,List.mem_cons,List.not_mem_nil,or_false] at he
 rcases he with rfl|rfl|rfl|rfl
 ·exact EN (sr w os)
 ·exact EN (sq w os)
 ·exact EN (so w os)
 ·exact EN (sm w os)
theorem no1:∀e∈(FK w.params).take 5,e.hash=1→D6 w (BR 76 (A8 w) life (Bh w.params os 5 (325+1))) Ay qd e.key (.int 1 314):=fun e he hh=>by
 simp only[FK,List.take,List.mem_cons,List.not_mem_nil,or_false] at he
 rcases he with rfl|rfl|rfl|rfl|rfl
 ·exact EN (sk w os)
 ·exact EN (sj w os)
 ·exact EN (si w os)
 ·exact EN (sh w os)
 ·exact absurd hh (by decide)
theorem no2:∀e∈(FK w.params).take 6,e.hash=2→D6 w (BR 76 (A8 w) life (Bh w.params os 6 (326+1))) Ay qd e.key (.int 2 316):=fun e he hh=>by
 simp only[FK,List.take,List.mem_cons,List.not_mem_nil,or_false] at he
 rcases he with rfl|rfl|rfl|rfl|rfl|rfl
 ·exact EN (sf w os)
 ·exact EN (se w os)
 ·exact EN (sd w os)
 ·exact EN (sb w os)
 ·exact absurd hh (by decide)
 ·exact absurd hh (by decide)
theorem no3:∀e∈(FK w.params).take 7,e.hash=3→D6 w (BR 76 (A8 w) life (Bh w.params os 7 (327+1))) Ay qd e.key (.int 3 318):=fun e he hh=>by
 simp only[FK,List.take,List.mem_cons,List.not_mem_nil,or_false] at he
 rcases he with rfl|rfl|rfl|rfl|rfl|rfl|rfl
 ·exact EN (sa w os)
 ·exact EN (sZ w os)
 ·exact EN (sY w os)
 ·exact EN (sW w os)
 ·exact absurd hh (by decide)
 ·exact absurd hh (by decide)
 ·exact absurd hh (by decide)
theorem Qp(K':PUnit→Sem Fin)(H':Value→Sem Fin):AQ w 1000 (BR 76 (A8 w) life (Bh w.params os 0 320)) ⟨(Gs 75 Px).wrap K' H' id Ay,A3,qd,B0⟩ (BR 76 (A8 w) life (Bh w.params os 8 328)) ⟨K' (),A3,qd,B0⟩:=by
 refine AQ.mono (a:=13+(13+(13+(13+(6+((1+4*15)+5)+(6+((1+5*15)+5)+(6+((1+6*15)+5)+(6+((1+7*15)+5)+0)))))))) ?_ (by decide)
 unfold Px
 rw[CV];refine(GC DL () (fun _ _=>rfl) (xm w os) _ H').trans ?_
 rw[CV];refine(GC DL () (fun _ _=>rfl) (xl w os) _ H').trans ?_
 rw[CV];refine(GC DL () (fun _ _=>rfl) (xk w os) _ H').trans ?_
 rw[CV];refine(GC DL () (fun _ _=>rfl) (xj w os) _ H').trans ?_
 rw[CV];refine(IK (x5 w os) (xw w os) (Fv (GN _ 4)) (Fv no0) _ H').trans ?_
 rw[CV];refine(IK (x0 w os) (xu w os) (Fv (GN _ 5)) (Fv no1) _ H').trans ?_
 rw[CV];refine(IK (xz w os) (xt w os) (Fv (GN _ 6)) (Fv no2) _ H').trans ?_
 rw[CV];refine(IK (xy w os) (xq w os) (Fv (GN _ 7)) (Fv no3) _ H').trans ?_
 exact AQ.refl
theorem Ta(rest:List Stmt):AQ w 2000 (BR 75 (A8 w) life (Ba w.params os)) (restOf (AH 21::rest) DC A3 ⟨112,0,112,21⟩ B0) (BR 76 (A8 w) life (Bz w.params os)) (restOf rest DC A3 ⟨113,0,113,21⟩ B0):=by
 refine AQ.mono (a:=2+(2+(2+(25+(1000+8))))) ?_ (by decide)
 unfold restOf
 rw[execs_cons_wrap,Tf,Bv]
 refine(GC Bj false JG (sV w os) _ _).trans ?_
 rw[if_neg (by simp),Bv,Te,Bv]
 refine(GC DL () (fun _ _=>rfl) (x6 w os) _ _).trans ?_
 rw[Td,show∀{α β:Type} (m:Sem α) (f:α→Sem β),m.bind f=(m>>=f) from fun _ _=>rfl,show∀{α β:Type} (m:Sem α) (f:α→Sem β),m.bind f=(m>>=f) from fun _ _=>rfl,Bv,Bv,Tc,Bv]
 refine(GC Xx 75 (fun a h=>by injection h with h;injection h) (Rf w os) _ _).trans ?_
 rw[Bv,show∀{α:Type} (m:Sem α),holding [Value.ref 75] m=m.keep [Value.ref 75] from fun _=>rfl,rY,Bv]
 refine(GC Np Px No (Re w os) _ _).trans ?_
 rw[show∀{α:Type} (m:Sem α),holding (Px.flatMap fun x=>[x.1,x.2]) m=m from fun _=>rfl]
 refine(Qp _ _).trans ?_
 exact GC id Flow.next Nr (WS w os) _ _
end
end
section
section
variable{w:World}{os:OsState}{life:Life}
theorem Aj{nk m n:Nat}{K:List Nat}{S S':Params→OsState→MS}{st:Stmt}{pos pos':Pos}(h:AR nk m K n S S' st pos pos' w)(rest:List Stmt):
  AQ w n (BR nk (A8 w) life (S w.params os)) (restOf (st::rest) DC A3 pos B0) (BR (nk+m) (A8 w) life (S' w.params os)) (restOf rest DC A3 pos' B0):=fun N r hr=>by
 have h1:=LM (life:=life) (congrFun h os)
 unfold LV at h1
 rw[←PySem.W.Fast.te12563942051412417395] at h1
 exact piece_app (l:=[st]) h1 hr
end
noncomputable abbrev Ac:Life:={}
theorem XK(P:Params):(boot_heap P).life=Ac:=by kernel_rfl
theorem RY:behindTheImports P0=[AH 0,AH 1,AH 2,AH 3,AH 4,AH 5,AH 6,AH 7,AH 8,AH 9,AH 10,AH 11,AH 12,AH 13,AH 14,AH 15,AH 16,AH 17,AH 18,AH 19,AH 20,AH 21,AH 22,AH 23,AH 24,AH 25,AH 26,AH 27,AH 28,AH 29,AH 30,AH 31,AH 32,AH 33,AH 34,AH 35,AH 36,AH 37,AH 38,AH 39,AH 40,AH 41,AH 42,AH 43,AH 44,AH 45,AH 46,AH 47,AH 48,AH 49,AH 50,AH 51,AH 52,AH 53,AH 54,AH 55,AH 56,AH 57]:=by kernel_rfl
theorem QI(w:World)(os:OsState):topGo treeTable P0 w 11 (some (R 6)) 12 ⟨boot_heap w.params,#[],boot_drawn,boot_toks,os⟩ (topStub P0)=some (BR 15 (A8 w) Ac (uP w.params os),⟨denote treeTable A3,A3,⟨0,0,0,0⟩,B0⟩):=by kernel_rfl
theorem M4(w:World)(os:OsState):segRun treeTable P0 w 11 (some (R 6)) 1 1 (BR 15 (A8 w) Ac (uP w.params os)) (blockOf (behindTheImports P0) DC A3 ⟨0,0,0,0⟩ B0)=some (.next,BR 15 (A8 w) Ac (uP w.params os),A3,⟨0,0,0,0⟩):=by kernel_rfl
def Q5(P:Params):List Obj:=[boot_o_0 P,boot_o_1 P,boot_o_2 P,o3 P,boot_o_4 P,boot_o_5 P,boot_o_6 P,boot_o_7 P,boot_o_8 P,boot_o_9 P,boot_o_10 P,zZ,zY,zX,zW,zV,zU,zT,zS,zR,zQ,zP,zO,zN,zM,zL,zK,zJ,zI,zH,zG,zF,zE,zD,wb,wa,zC,zB,y9,y8,y7,y6,y5,wS,y4,y3,y2,y1,yz,wR,wQ,wP,yy,yx,yw,yu,yt,wO,wN,wM,yr,yq,yp,yo,yn,wL,wK,ym,yl,yk,yj,yi,wJ,wI,wH,wG P,yh,wF,yg,yf,ye,yd,yc,wE,wD,yb,ya,yZ P,yY,yX,yW,yV,wC,yU,yT,yS,yR,yQ,wB,v9,rC P,VV,rA,VU,q9,q8,q0,qz,qy,VT,VS,VP,qx,qw,qu,qt,qs,VO,VN,qr,VM P,VL,qq,qp,qo,qn,qm,ql,qk P,qj,qh,qg,qf,qe,qc,qb,qa,qZ,qY,qX,qW,qV,qU,qT,qS,qR,qQ,qP,qO,qN,qM,qL,qK,qJ,qI,qH,qG,qF,qE,qD,qC,qB,p9,p8,p7,p6,p5,p4,p3,p1,pz,pw P,pt,pr,pq,pj P,ph,pg P,pf,pe,pd P,pc,pb,pZ,pY,Ur,pX,pW,pV,pU,pR,Uq,Up,pQ,pP,pO,pN,pM,Uo,Un,Um,pL,pK,pJ,pH,pG,Ul,Uk,pF,Uj P,Ui,pE,pD,pC,o9,o8 P,o7,o5,o4,oz,oy,ox,ou,ot,or,Uh,Ug,oq,on,om,oj,oi,Uf,Ue,oh,og,oa,oZ,oY,oX,oW,oV,Ud P,Uc,oU,oT,oS,oR,oQ P,oP,oO,oM,oL,oK,oI,oH,oG,oE,oC,n9,n8,n7,nz,ny,nx,nw,nv,nu,nr,nq,nj,ni,nh,ng,nf,nc,nb P,nZ,nY,nX,nW,nV,nU P,nT,nS,nR,nP,nN,nM,nL,nK,nJ,nI,nH,nG,nF,nE,nD,nC,m9,m8,m7,m5,m4,m0,mz,my,mx,mw,mu,mr P,mq,mo,mn,ml,mj,mi P,mh,mf,me,md,Ub,ma,mZ,mY,mX,mW,Ua,UZ,mV,mU,mQ,mP,mO,UY,UX,mN,mK,mJ,mH,mG,mF,mE,mD,mC,UW P,UV,mA,l9,l8,l7,l6 P,l5,l4,l3,lz,ly,lw,lu,ls,lr,UU,UT,lq,ln,lm,lj,lh,lf,le,ld,lc,lb,lZ,lY,lX,lW,lV,lU,lT,lS,lR,US,UR,UQ,lQ,UP P,UO,lP,lO,lN,lM,lL P,lK,lJ,lI,lH,lG,lF,lE,kA,j9,j8,j7,j6,j5,j4,j3,j2,j1,j0,jz,jy,jx P,jw,jv,ju,js,jr,jq P,jp,jo,jn,jm,jk,ji,jh,jg,jf,UN,UM,je,jd,jc,jb,ja,jZ,jY,jX,jW,jV,jU,jT,UL,UK,UJ,jS,UI P,UH,jR,jQ,jP,jO,jN P,jM,jL,jK,jJ,jI,jH,jG,jF,jE,jD,jC,jB,jA,i9,i8,i7,i6,i5,i4,i3,i0 P,iz,iy,ix,iw,iu,ir P,iq,io,im,ik,ij,ii,ig,ic,ib,ia,iZ,iY,iX,iW,iV,iU,iT,iS,iR,iQ,iP,iO,iN,iM,iL,iK,iJ,iI,iH P,iG,iF,iE,iD,iC,iB P,iA,hY,g9,g8,g7,gz,gy,gx,gw,gv,gu,gt,gr,gq,gp,gn,gm,gk,gj,gi,gg,gf,ge,gc,gb,gZ,gY,gX,gW,gV,gU,gT,gR,gQ,gP,gN,gM,gL,gK,gJ,gH,gG,gF,gE,gD,gC,gA,f0,fz,fw,fu,ft,fq,fo,fm,fk,fj,fh,fg,ff,fe,fc,fZ,fY,fX,fW,fV,fU,fT,fS,fR,fQ,fP,fN,fM,fL,fK,fJ,fI,fH,fG,fF,fD,fC,fB,fA,ez,ey,ew,eu,et,er,eq,eo,en,ek,ej,ei,eh,eg,ef,ee,ed,ec,eZ,eY,eX,eW,eV,eU,eT,eS,eR,eQ,eP,eO,eN,eM,eL,eK,eJ,eI,eH,eG,eF,eE,eD,eB,d9,d8 P,d7,d6,d5,d4,d0,dz P,dy,dw,du,ds,dr,dq,dp,dl,dk,dj,dh,dg,df,de,dc,db,da,dZ,dY,dX,dW,dU,dS,dR,dQ,dP,dN,dM,dL,dK,dJ,dI,dH,dG,dF,dE,dD,dC,dB,dA,c9,c8,c7,c6,c5,c4,cz,cw,cu,cr,cj,ci,ch,cg,cf,cc,cb,cZ,cY,cX,cW,cV,cU,cS,cR,cQ,cP,cN,cM,cL,cK,cJ,cI,cH,cG,cE,cD,cC,cB,cA,b9,b8,bz,bx,bw,bv,bu,br,bq,bp,bo,bn,bk,bj,bi,bh,be,bc,bZ,bY,bX,bW,bV,bU,bT,bQ,bP,bO,bN,bM,bL,bK,bJ,bI,bH,bG,bC,a9,a8,az,ay,ax,aw,av P,au,aq,ao,am,ak,aj P,ai,ah,ag,af,ae,aa,aZ,aY,aX,aW,aV,aU,aT,aS P,aR,aQ,aP,aO,aM,aL P,aK,aJ,aH,aG,aF,aE P,aD,aC,Z9,Z8,Z7 P,Z6,Z5,Z4,Z3,Z1,Z0 P,Zz,Zy,Zx,Zw,Zv,Zu P,Zt,Zs,Zr,Zq,Zp,Zo P,Zn,Zm,Zl,Zk,Zj P,Zi,Zh P,Zg,Zf P,Ze,Zd,Zc,Zb P,Za,ZZ,ZY,ZX,ZW,ZV P,ZU,ZT,ZS,ZR,ZQ P,ZP,ZO P,ZN,ZM,ZL,ZK P,ZJ,ZI,ZH,ZG,ZF,ZE P,ZD,ZC,ZB,ZA,Y9 P,Y8,Y7 P,Y6,Y5,Y4,Y3 P,Y2,Y1,Y0,Yz,Yy,Yx P,Yw,Yv,Yu,Yt,Ys,Yr,Yq,Yp,Yo P,Yn,Ym,Yl,Yk P,Yj,Yi,Yh,Yg,Yf,UG,UF,Ye,Yd,Yc,Yb,Ya,YZ,YY,YX,YW,YV,UE,UD,UC,UB,YU,YT,YS,YR,YQ,UA,Tz,Ty,YP,YO,YN,YM,YL,Tw,Tv,YK,YJ,YI,YH,YG,Tu,Tt,YF,YE,YD,YC,YB,Ts,Tr,YA,X9,X8,Tq,Tp,X7,X6,X5,To,QK]
def BM(P:Params):Heap:=⟨(Q5 P).toArray,Ac⟩
theorem Ot(w:World)(os:OsState):BR 957 (A8 w) Ac (Pl w.params os)=⟨BM w.params,#[],{},1738,os⟩:=by kernel_rfl
theorem Q4(w:World)(os:OsState):topRun treeTable P0 w 11 (some (R 6)) 2 (BR 957 (A8 w) Ac (Pl w.params os)) (restOf [] DC A3 ⟨1210,0,1257,82⟩ B0)=some (BR 957 (A8 w) Ac (Pl w.params os)):=by kernel_rfl
theorem NE(w:World)(os:OsState):AQ w 20000 (BR 15 (A8 w) Ac (uP w.params os)) (restOf (behindTheImports P0) DC A3 ⟨0,0,0,0⟩ B0) (BR 957 (A8 w) Ac (Pl w.params os)) (restOf [] DC A3 ⟨1210,0,1257,82⟩ B0):=by
 refine AQ.mono (a:=30+(10+(31+(10+(12+(12+(12+(30+(30+(10+(34+(32+(10+(9+(10+(10+(47+(38+(10+(9+(63+(2000+(37+(32+(544+(445+(210+(340+(333+(393+(393+(414+(473+(394+(418+(369+(468+(1103+(1012+(275+(276+(241+(338+(285+(315+(253+(268+(30+(33+(27+(109+(59+(40+(10+(32+(32+(27+(27+(0))))))))))))))))))))))))))))))))))))))))))))))))))))))))))) ?_ (by decide)
 rw[RY]
 refine AQ.trans (Aj (life:=Ac) (os:=os) (pc0 w) _) ?_
 refine AQ.trans (Aj (life:=Ac) (os:=os) (pc1 w) _) ?_
 refine AQ.trans (Aj (life:=Ac) (os:=os) (pc2 w) _) ?_
 refine AQ.trans (Aj (life:=Ac) (os:=os) (pc3 w) _) ?_
 refine AQ.trans (Aj (life:=Ac) (os:=os) (pc4 w) _) ?_
 refine AQ.trans (Aj (life:=Ac) (os:=os) (pc5 w) _) ?_
 refine AQ.trans (Aj (life:=Ac) (os:=os) (pc6 w) _) ?_
 refine AQ.trans (Aj (life:=Ac) (os:=os) (pc7 w) _) ?_
 refine AQ.trans (Aj (life:=Ac) (os:=os) (pc8 w) _) ?_
 refine AQ.trans (Aj (life:=Ac) (os:=os) (pc9 w) _) ?_
 refine AQ.trans (Aj (life:=Ac) (os:=os) (vy w) _) ?_
 refine AQ.trans (Aj (life:=Ac) (os:=os) (vx w) _) ?_
 refine AQ.trans (Aj (life:=Ac) (os:=os) (vw w) _) ?_
 refine AQ.trans (Aj (life:=Ac) (os:=os) (vv w) _) ?_
 refine AQ.trans (Aj (life:=Ac) (os:=os) (vt w) _) ?_
 refine AQ.trans (Aj (life:=Ac) (os:=os) (vr w) _) ?_
 refine AQ.trans (Aj (life:=Ac) (os:=os) (vq w) _) ?_
 refine AQ.trans (Aj (life:=Ac) (os:=os) (vp w) _) ?_
 refine AQ.trans (Aj (life:=Ac) (os:=os) (vo w) _) ?_
 refine AQ.trans (Aj (life:=Ac) (os:=os) (vn w) _) ?_
 refine AQ.trans (Aj (life:=Ac) (os:=os) (vm w) _) ?_
 refine AQ.trans (Ta (life:=Ac) (os:=os) _) ?_
 refine AQ.trans (Aj (life:=Ac) (os:=os) (vk w) _) ?_
 refine AQ.trans (Aj (life:=Ac) (os:=os) (vj w) _) ?_
 refine AQ.trans (Aj (life:=Ac) (os:=os) (vi w) _) ?_
 refine AQ.trans (Aj (life:=Ac) (os:=os) (vh w) _) ?_
 refine AQ.trans (Aj (life:=Ac) (os:=os) (vg w) _) ?_
 refine AQ.trans (Aj (life:=Ac) (os:=os) (vf w) _) ?_
 refine AQ.trans (Aj (life:=Ac) (os:=os) (ve w) _) ?_
 refine AQ.trans (Aj (life:=Ac) (os:=os) (vd w) _) ?_
 refine AQ.trans (Aj (life:=Ac) (os:=os) (vc w) _) ?_
 refine AQ.trans (Aj (life:=Ac) (os:=os) (vb w) _) ?_
 refine AQ.trans (Aj (life:=Ac) (os:=os) (vZ w) _) ?_
 refine AQ.trans (Aj (life:=Ac) (os:=os) (vY w) _) ?_
 refine AQ.trans (Aj (life:=Ac) (os:=os) (vX w) _) ?_
 refine AQ.trans (Aj (life:=Ac) (os:=os) (vW w) _) ?_
 refine AQ.trans (Aj (life:=Ac) (os:=os) (vV w) _) ?_
 refine AQ.trans (Aj (life:=Ac) (os:=os) (vU w) _) ?_
 refine AQ.trans (Aj (life:=Ac) (os:=os) (vT w) _) ?_
 refine AQ.trans (Aj (life:=Ac) (os:=os) (vS w) _) ?_
 refine AQ.trans (Aj (life:=Ac) (os:=os) (vR w) _) ?_
 refine AQ.trans (Aj (life:=Ac) (os:=os) (vQ w) _) ?_
 refine AQ.trans (Aj (life:=Ac) (os:=os) (vP w) _) ?_
 refine AQ.trans (Aj (life:=Ac) (os:=os) (vO w) _) ?_
 refine AQ.trans (Aj (life:=Ac) (os:=os) (vN w) _) ?_
 refine AQ.trans (Aj (life:=Ac) (os:=os) (vM w) _) ?_
 refine AQ.trans (Aj (life:=Ac) (os:=os) (vL w) _) ?_
 refine AQ.trans (Aj (life:=Ac) (os:=os) (vK w) _) ?_
 refine AQ.trans (Aj (life:=Ac) (os:=os) (vJ w) _) ?_
 refine AQ.trans (Aj (life:=Ac) (os:=os) (vI w) _) ?_
 refine AQ.trans (Aj (life:=Ac) (os:=os) (vH w) _) ?_
 refine AQ.trans (Aj (life:=Ac) (os:=os) (vG w) _) ?_
 refine AQ.trans (Aj (life:=Ac) (os:=os) (vF w) _) ?_
 refine AQ.trans (Aj (life:=Ac) (os:=os) (vE w) _) ?_
 refine AQ.trans (Aj (life:=Ac) (os:=os) (vD w) _) ?_
 refine AQ.trans (Aj (life:=Ac) (os:=os) (vC w) _) ?_
 refine AQ.trans (Aj (life:=Ac) (os:=os) (vB w) _) ?_
 refine AQ.trans (Aj (life:=Ac) (os:=os) (vA w) _) ?_
 exact AQ.refl
theorem P2(w:World)(os:OsState):topRun treeTable P0 w 11 (some (R 6)) 20100 ⟨boot_heap w.params,#[],boot_drawn,boot_toks,os⟩ (topStub P0)=some ⟨BM w.params,#[],{},1738,os⟩:=by
 have h1:=NE w os 2 _ (Q4 w os)
 rw[←Ot w os]
 have h2:=go_top (QI w os) (piece_block (M4 w os) h1)
 have h3:=topRun_mono (20100 - 20003 - 12) _ _ _ _ h2
 rw[show 12+(1+(20000+2))+(20100 - 20003 - 12)=20100 by decide] at h3
 exact h3
end
section
noncomputable abbrev L0:OpenLaw:=PySem.Challenge.rw_ll0006_01
noncomputable def B7:Look:={strict:=false,foot:=none,bare:=[]}
theorem B9{lk:Look}{s:Stmt}{r:List Stmt}(h:noRoadLS lk s=true)(k:noRoadLSs lk r=true):noRoadLSs lk (s::r)=true:=Bool.and_eq_true_iff.mpr ⟨h,k⟩
theorem sO:P0.main.body=[AH 0,AH 1,AH 2,AH 3,AH 4,AH 5,AH 6,AH 7,AH 8,AH 9,AH 10,AH 11,AH 12,AH 13,AH 14,AH 15,AH 16,AH 17,AH 18,AH 19,AH 20,AH 21,AH 22,AH 23,AH 24,AH 25,AH 26,AH 27,AH 28,AH 29,AH 30,AH 31,AH 32,AH 33,AH 34,AH 35,AH 36,AH 37,AH 38,AH 39,AH 40,AH 41,AH 42,AH 43,AH 44,AH 45,AH 46,AH 47,AH 48,AH 49,AH 50,AH 51,AH 52,AH 53,AH 54,AH 55,AH 56,AH 57]:=by kernel_rfl
theorem ro1:readsOut P0 P0.main.body "vars"=false:=by rw[PySem.W.Fast.te13343964577679436407];kernel_rfl
theorem ro2:readsOut P0 P0.main.body "dir"=false:=by rw[PySem.W.Fast.te13343964577679436407];kernel_rfl
theorem ro3:readsOut P0 P0.main.body "locals"=false:=by rw[PySem.W.Fast.te13343964577679436407];kernel_rfl
theorem xW:(importedModules P0.main.body).all cThrough.contains=true:=by kernel_rfl
theorem rQ:({strict:= !(importedModules P0.main.body).all cThrough.contains,foot:=none,bare:=(["vars","dir","locals"]:List Str).filter (readsOut P0 P0.main.body)}:Look)=B7:=by
 rw[xW,List.filter_cons,ro1,List.filter_cons,ro2,List.filter_cons,ro3]
 rfl
theorem nr0:noRoadLS B7 (AH 0)=true:=by kernel_rfl
theorem nr1:noRoadLS B7 (AH 1)=true:=by kernel_rfl
theorem nr2:noRoadLS B7 (AH 2)=true:=by kernel_rfl
theorem nr3:noRoadLS B7 (AH 3)=true:=by kernel_rfl
theorem nr4:noRoadLS B7 (AH 4)=true:=by kernel_rfl
theorem nr5:noRoadLS B7 (AH 5)=true:=by kernel_rfl
theorem nr6:noRoadLS B7 (AH 6)=true:=by kernel_rfl
theorem nr7:noRoadLS B7 (AH 7)=true:=by kernel_rfl
theorem nr8:noRoadLS B7 (AH 8)=true:=by kernel_rfl
theorem nr9:noRoadLS B7 (AH 9)=true:=by kernel_rfl
theorem xT:noRoadLS B7 (AH 10)=true:=by kernel_rfl
theorem xS:noRoadLS B7 (AH 11)=true:=by kernel_rfl
theorem xR:noRoadLS B7 (AH 12)=true:=by kernel_rfl
theorem xQ:noRoadLS B7 (AH 13)=true:=by kernel_rfl
theorem xP:noRoadLS B7 (AH 14)=true:=by kernel_rfl
theorem xN:noRoadLS B7 (AH 15)=true:=by kernel_rfl
theorem xM:noRoadLS B7 (AH 16)=true:=by kernel_rfl
theorem xL:noRoadLS B7 (AH 17)=true:=by kernel_rfl
theorem xK:noRoadLS B7 (AH 18)=true:=by kernel_rfl
theorem xJ:noRoadLS B7 (AH 19)=true:=by kernel_rfl
theorem xI:noRoadLS B7 (AH 20)=true:=by kernel_rfl
theorem xH:noRoadLS B7 (AH 21)=true:=by kernel_rfl
theorem xG:noRoadLS B7 (AH 22)=true:=by kernel_rfl
theorem xF:noRoadLS B7 (AH 23)=true:=by kernel_rfl
theorem xE:noRoadLS B7 (AH 24)=true:=by kernel_rfl
theorem xD:noRoadLS B7 (AH 25)=true:=by kernel_rfl
theorem xC:noRoadLS B7 (AH 26)=true:=by kernel_rfl
theorem xB:noRoadLS B7 (AH 27)=true:=by kernel_rfl
theorem xA:noRoadLS B7 (AH 28)=true:=by kernel_rfl
theorem w9:noRoadLS B7 (AH 29)=true:=by kernel_rfl
theorem w8:noRoadLS B7 (AH 30)=true:=by kernel_rfl
theorem w7:noRoadLS B7 (AH 31)=true:=by kernel_rfl
theorem w6:noRoadLS B7 (AH 32)=true:=by kernel_rfl
theorem w5:noRoadLS B7 (AH 33)=true:=by kernel_rfl
theorem w4:noRoadLS B7 (AH 34)=true:=by kernel_rfl
theorem w3:noRoadLS B7 (AH 35)=true:=by kernel_rfl
theorem w2:noRoadLS B7 (AH 36)=true:=by kernel_rfl
theorem w0:noRoadLS B7 (AH 37)=true:=by kernel_rfl
theorem wy:noRoadLS B7 (AH 38)=true:=by kernel_rfl
theorem wx:noRoadLS B7 (AH 39)=true:=by kernel_rfl
theorem ww:noRoadLS B7 (AH 40)=true:=by kernel_rfl
theorem wv:noRoadLS B7 (AH 41)=true:=by kernel_rfl
theorem wu:noRoadLS B7 (AH 42)=true:=by kernel_rfl
theorem wt:noRoadLS B7 (AH 43)=true:=by kernel_rfl
theorem wq:noRoadLS B7 (AH 44)=true:=by kernel_rfl
theorem wp:noRoadLS B7 (AH 45)=true:=by kernel_rfl
theorem wo:noRoadLS B7 (AH 46)=true:=by kernel_rfl
theorem wn:noRoadLS B7 (AH 47)=true:=by kernel_rfl
theorem wm:noRoadLS B7 (AH 48)=true:=by kernel_rfl
theorem wl:noRoadLS B7 (AH 49)=true:=by kernel_rfl
theorem wk:noRoadLS B7 (AH 50)=true:=by kernel_rfl
theorem wj:noRoadLS B7 (AH 51)=true:=by kernel_rfl
theorem wi:noRoadLS B7 (AH 52)=true:=by kernel_rfl
theorem wh:noRoadLS B7 (AH 53)=true:=by kernel_rfl
theorem wg:noRoadLS B7 (AH 54)=true:=by kernel_rfl
theorem wf:noRoadLS B7 (AH 55)=true:=by kernel_rfl
theorem we:noRoadLS B7 (AH 56)=true:=by kernel_rfl
theorem wd:noRoadLS B7 (AH 57)=true:=by kernel_rfl
theorem VX:noRoadLSs {strict:= !(importedModules P0.main.body).all cThrough.contains,foot:=none,bare:=(["vars","dir","locals"]:List Str).filter (readsOut P0 P0.main.body)} P0.main.body=true:=by
 rw[rQ,sO]
 exact B9 nr0 (B9 nr1 (B9 nr2 (B9 nr3 (B9 nr4 (B9 nr5 (B9 nr6 (B9 nr7 (B9 nr8 (B9 nr9 (B9 xT (B9 xS (B9 xR (B9 xQ (B9 xP (B9 xN (B9 xM (B9 xL (B9 xK (B9 xJ (B9 xI (B9 xH (B9 xG (B9 xF (B9 xE (B9 xD (B9 xC (B9 xB (B9 xA (B9 w9 (B9 w8 (B9 w7 (B9 w6 (B9 w5 (B9 w4 (B9 w3 (B9 w2 (B9 w0 (B9 wy (B9 wx (B9 ww (B9 wv (B9 wu (B9 wt (B9 wq (B9 wp (B9 wo (B9 wn (B9 wm (B9 wl (B9 wk (B9 wj (B9 wi (B9 wh (B9 wg (B9 wf (B9 we (B9 wd (rfl))))))))))))))))))))))))))))))))))))))))))))))))))))))))))
theorem u9:namesResolve P0=true:=by rw[PySem.W.Fast.te8377067652309620493];kernel_rfl
theorem rJ:namesMeet P0 P0.main.body (fun _ n=>attrL n)=true:=by rw[PySem.W.Fast.te17119622794617984870];kernel_rfl
theorem X4:looksOpen P0=true:=by
 unfold looksOpen
 exact look_both (look_both (look_both (look_both (by kernel_rfl) u9) (by kernel_rfl)) VX) rJ
end
section
theorem X3:L0.row.partSaid=true:=by
 rw[PySem.W.Fast.te2436336058641802641]
 unfold PySem.W.Fast.tw2436336058641802641
 refine look_both (look_both (look_both (look_both (look_both (look_both (look_both (look_both (look_both (look_both (look_both (look_both (look_both ?_ ?_) ?_) ?_) ?_) ?_) ?_) ?_) ?_) ?_) ?_) ?_) ?_) ?_
 ·rw[←PySem.W.Fast.te12908688711261696721];exact X4
 all_goals kernel_rfl
theorem Xw:L0.row.wellSaid=true:=by
 rw[PySem.W.Fast.te17960256430627541270]
 unfold PySem.W.Fast.tw17960256430627541270
 refine look_both (look_both ?_ ?_) ?_
 ·rw[←PySem.W.Fast.te2436336058641802641];exact X3
 all_goals kernel_rfl
theorem Xe:L0.wellSaid=true:=by
 rw[PySem.W.Fast.te9446332074065402090]
 unfold PySem.W.Fast.tw9446332074065402090
 refine look_both (look_both (look_both (look_both (look_both (look_both (look_both (look_both (look_both (look_both (look_both (look_both (look_both (look_both (look_both (look_both (look_both (look_both ?_ ?_) ?_) ?_) ?_) ?_) ?_) ?_) ?_) ?_) ?_) ?_) ?_) ?_) ?_) ?_) ?_) ?_) ?_
 ·rw[←PySem.W.Fast.te2368527892694137696,←PySem.W.Fast.te17960256430627541270];exact Xw
 all_goals kernel_rfl
end
section
noncomputable def qv:Program:=view P0 [57]
noncomputable def DE:List Str:=((List.range 57).map fun i=>match AH i with
 | .FunctionDef n .. =>n
 | .ClassDef n .. =>n
 | .Assign [.Name n _] _ _=>n
 |_=>S "")
theorem QB(w:World):((boot_heap w.params).isNs mainGlobals&&(Array.mk ([]:List GenState)).size==0,(boot_heap w.params).objs.size,(boot_heap w.params).nsMap mainGlobals "__annotations__")=(true,11,some (R 6)):=by kernel_rfl
theorem rO(w:World):(fun os:OsState=>(staticsOk (importedModules P0.main.body) (boot_heap w.params) (BM w.params)&&namesBound P0 (BM w.params)&&gensDone ⟨BM w.params,#[],{},1738,os⟩&&laidKept (boot_heap w.params) (BM w.params)))=fun _=>true:=by kernel_rfl
theorem rN(w:World):(fun os:OsState=>openSeen qv DE (importedModules P0.main.body) (fun _=>true) true ⟨BM w.params,#[],{},1738,os⟩)=fun _=>openGood qv DE:=by kernel_rfl
theorem rM(w:World):(fun os=>((staticsOk (importedModules P0.main.body) (boot_heap w.params) (BM w.params)&&namesBound P0 (BM w.params)&&gensDone ⟨BM w.params,#[],{},1738,os⟩&&laidKept (boot_heap w.params) (BM w.params)),
    openSeen qv DE (importedModules P0.main.body) (fun _=>true) true ⟨BM w.params,#[],{},1738,os⟩,(fun s:Shared=>(s.heap,s.toks)) ⟨BM w.params,#[],{},1738,os⟩))=fun _=>(true,openGood qv DE,(fun w:World=>(BM w.params,1738)) w):=by
 funext os
 rw[congrFun (rO w) os,congrFun (rN w) os]
theorem QJ:opening P0=plainProg P0.main.scope.names:=by kernel_rfl
theorem rT:LeftO P0 qv DE (fun _=>true) (fun s=>(s.heap,s.toks)) (fun w=>(BM w.params,1738)) 30000 true:=
 LeftO.of_pieces (H₀:=boot_heap) (H₁:=BM) (gs₀:= #[]) (gs₁:= #[]) (d₀:=boot_drawn) (d₁:={}) (k₀:=boot_toks) (k₁:=1738) (m₀:=11) (ann:=some (R 6)) (M:=20100)
  (boot_open QJ (by decide) (fun _=>by kernel_rfl)) QB P2 (by decide) rM
noncomputable def stB(s:Stmt):List Stmt:=match s with| .FunctionDef _ _ b .. =>b|_=>[]
noncomputable def Oz:DefRec:=⟨S "law",zj (AH 57),stB (AH 57),zi (AH 57),(AH 57).pos⟩
theorem WF:defOf qv L0.row.name=some (Oz,[]):=by kernel_rfl
theorem Ok(walk:WalkX qv DE (fun _ _=>True) (fun s=>(s.heap,s.toks)) (fun w=>(BM w.params,1738)) L0.row.toRowW Oz [] (fun f vs=>PySem.call f vs))(hw:L0.row.toRowW.promised):L0.Holds:=
 ⟨Xe,holds_openX (q:=qv) (loose:=DE) (Xt:=fun _=>true) (XP:=fun _ _=>True) (N:=30000) rT (fun _ _=>trivial) (fun _ _ _ _ _=>trivial) WF (by kernel_rfl) (by kernel_rfl) (fun _ _=>recFacts_nil rfl) rfl Xw (by kernel_rfl) ⟨rfl,rfl,rfl,rfl,rfl,by decide+kernel⟩ hw walk⟩
end
section
def KF(P:Params):Frag:=[(448,UH),(447,UI P),(243,Uc),(242,Ud P),(210,Ui),(209,Uj P),(121,VL),(120,VM P),(387,UO),(386,UP P),(346,UV),(345,UW P),(3,o3 P),(1,boot_o_1 P),(2,boot_o_2 P),(939,Tt),(946,Tr),(951,Tp),(956,QK),(50,wQ),(58,wN),(66,wK),(73,wI),(35,wa),(84,wD),(99,v9),(101,VV),(110,VS),(118,VN),(192,Up),(199,Un),(207,Uk),(226,Ug),(233,Ue),(328,UZ),(335,UX),(362,UT),(383,UR),(384,UQ),(430,UM),(444,UK),(445,UJ),(903,UF),(915,UD),(924,Tz),(932,Tv),(74,wH),(75,wG P),(916,UC),(321,Ub),(938,Tu),(945,Ts),(950,Tq),(955,To),(43,wS),(49,wR),(51,wP),(57,wO),(59,wM),(65,wL),(72,wJ),(34,wb),(77,wF),(83,wE),(92,wC),(98,wB),(103,VU),(109,VT),(111,VP),(117,VO),(185,Ur),(191,Uq),(198,Uo),(200,Um),(206,Ul),(225,Uh),(232,Uf),(327,Ua),(334,UY),(361,UU),(382,US),(429,UN),(443,UL),(902,UG),(914,UE),(917,UB),(923,UA),(925,Ty),(931,Tw)]
end
section
section
variable{prog:Program}{w:World}{A:Around}{E:Value→Shared→Prop}{s:Shared}
/-! a dict whose keys are ints and strs,asked by an int -/
theorem Jt{a:Str}{t:Nat}{b:Int}{u:Nat}{Q:Bool→Shared→Prop}(h:Q false s):wpAny (model prog w) A (eqBool (.str a t) (.int b u)) Q E s:=by
 unfold eqBool
 refine wpAny_holding ?_
 show wpAny _ _ (if(Value.str a t==Value.int b u)=true then _ else _) Q E s
 rw[if_neg (by intro q;have:=bE q;cases this)]
 exact wpAny_bind (EqMixed.eq_str_int (wpAny_truthy_bool h))
noncomputable def Ca(e:DictEntry):Bool:=match e.key with
 | .int i _=>e.hash==hashInt i
 | .str _ _=>true
 |_=>false
noncomputable def Cw(es:Array DictEntry)(k:Int):Option Value:=((List.range es.size).find? fun i=>match es[i]? with|some e=>Value.isInt k e.key|none=>false).bind fun i=>es[i]?.map (·.val)
theorem NP{d:Addr}{k:Int}{t:Nat}{es:Array DictEntry}{o:Obj}{ep:Nat}{Q:Option Nat→Shared→Prop}(ho:s.heap.get? d=some o)(hd:o.data= .dict es ep)(hk:∀(i:Nat) (e:DictEntry),es[i]? =some e→Ca e=true):
  ∀(places:List Nat),(∀i∈places,∃e,es[i]? =some e∧e.hash=hashInt k)→Q (places.find? fun i=>match es[i]? with|some e=>Value.isInt k e.key|none=>false) s→wpAny (model prog w) A (dictWalkPlain d (.int k t) (hashInt k) es places) Q E s:=by
 intro places
 unfold dictWalkPlain
 intro hp hQ
 refine wpAny_bind ?_
 refine wpAny_forIn_list _ (fun rest b s'=>s'=s∧b=(none,())∧(∀i∈rest,∃e,es[i]? =some e∧e.hash=hashInt k)∧Q (rest.find? fun i=>match es[i]? with|some e=>Value.isInt k e.key|none=>false) s) _ ?_ ?_ _ _ ⟨rfl,rfl,hp,hQ⟩
 ·rintro x rest b s' ⟨rfl,rfl,hp,hQ⟩
  obtain⟨e,he,hh⟩:=hp x (.head _)
  have hke:=hk x e he
  rw[List.find?_cons] at hQ
  simp only[he] at hQ⊢
  rw[if_pos (by rw[hh];exact beq_self_eq_true _)]
  refine wpAny_bind (wpAny_dictEpoch ho hd ?_)
  unfold Ca at hke
  cases hkey:e.key<;>rw[hkey] at hke hQ<;>first|(cases hke;done)|skip
  ·rename_i i t'
   refine wpAny_bind (wpAny_eqBool_int (wpAny_bind (wpAny_dictEpoch ho hd ?_)))
   show wpAny _ _ (if(ep !=ep)=true then _ else _) _ E _
   rw[if_neg (by simp)]
   cases hi:(i==k) with
   |true=>
    have e1:Value.isInt k (.int i t')=true:=hi
    rw[e1] at hQ
    exact wpAny_bind (wpAny_rule (wpAny_pure (wpAny_pure hQ)))
   |false=>
    have e1:Value.isInt k (.int i t')=false:=hi
    rw[e1] at hQ
    exact wpAny_bind (wpAny_rule (wpAny_pure ⟨rfl,rfl,fun j hj=>hp j (.tail _ hj),hQ⟩))
  ·refine wpAny_bind (Jt (wpAny_bind (wpAny_dictEpoch ho hd ?_)))
   show wpAny _ _ (if(ep !=ep)=true then _ else _) _ E _
   rw[if_neg (by simp)]
   have e1:∀x t,Value.isInt k (.str x t)=false:=fun _ _=>rfl
   rw[e1] at hQ
   exact wpAny_bind (wpAny_rule (wpAny_pure ⟨rfl,rfl,fun j hj=>hp j (.tail _ hj),hQ⟩))
 ·rintro b s' ⟨rfl,rfl,_,hQ⟩
  exact wpAny_pure hQ
theorem G3{e:DictEntry}(h:Ca e=true):carriedByValue e.key=true:=by
 unfold Ca at h
 cases hk:e.key<;>rw[hk] at h<;>first|rfl|cases h
theorem D1{d:Addr}{k:Int}{t:Nat}{es:Array DictEntry}{o:Obj}{ep:Nat}{Q:Option Value→Shared→Prop}(ho:s.heap.get? d=some o)(hd:o.data= .dict es ep)(hk:∀(i:Nat) (e:DictEntry),es[i]? =some e→Ca e=true)
  (h:Q (Cw es k) {s with toks:=s.toks+1}):wpAny (model prog w) A (dictGet d (.int k t)) Q E s:=by
 unfold dictGet
 refine wpAny_holding (wpAny_bind (wpAny_pyHash_int (wpAny_bind ?_)))
 unfold dictFind
 refine wpAny_holding (wpAny_bind (wpAny_dictEntries ho hd ?_))
 dsimp only
 rw[if_pos]
 ·refine NP (s:={s with toks:=s.toks+1}) ho hd hk _ (fun i hi=> ?_) ?_
  ·obtain⟨_,hi⟩:=List.mem_filter.mp hi
   dsimp only at hi
   cases q:es[i]? with
   |none=>rw[q] at hi;simp at hi
   |some e=>
    rw[q] at hi
    exact⟨e,rfl,by simpa using hi⟩
  ·have e1:((placesWithHash es.size (fun i=>es[i]?.map (·.hash)) (hashInt k)).find? fun i=>match es[i]? with|some e=>Value.isInt k e.key|none=>false)=((List.range es.size).find? fun i=>match es[i]? with|some e=>Value.isInt k e.key|none=>false):=by
    unfold placesWithHash
    rw[List.find?_filter]
    congr 1
    funext i
    cases q:es[i]? with
    |none=>simp
    |some e=>
     have:=hk i e q
     unfold Ca at this
     cases hi:Value.isInt k e.key with
     |false=>simp[hi]
     |true=>
      obtain⟨t',ht⟩:=Value.isInt_shape hi
      rw[ht] at this
      have:=bE this
      simp[this,hi,q]
   rw[e1]
   unfold Cw at h
   cases hf:((List.range es.size).find? fun i=>match es[i]? with|some e=>Value.isInt k e.key|none=>false) with
   |none=>rw[hf] at h;exact wpAny_pure h
   |some i=>rw[hf] at h;exact wpAny_bind (wpAny_dictEntries (s:={s with toks:=s.toks+1}) ho hd (wpAny_pure h))
 ·rw[List.all_cons,Bool.and_eq_true]
  refine⟨rfl,List.all_eq_true.mpr fun x hx=> ?_⟩
  obtain⟨i,_,hi⟩:=List.mem_filterMap.mp hx
  obtain⟨e,he,rfl⟩:=Option.map_eq_some_iff.mp hi
  exact G3 (hk i e he)
theorem Oi{d:Addr}{k:Int}{t:Nat}{es:Array DictEntry}{o:Obj}{ep:Nat}{Q:Value→Shared→Prop}(ho:s.heap.get? d=some o)(hc:o.cls= .type "dict")(hd:o.data= .dict es ep)(hk:∀(i:Nat) (e:DictEntry),es[i]? =some e→Ca e=true)(hs:(d==sysModules)=false)
  (h:Q (.bool (Cw es k).isSome) {s with toks:=s.toks+1}):wpAny (model prog w) A (compareOp .In (.int k t) (.ref d)) Q E s:=by
 have hT:s.TypeIs (.ref d) "dict":=⟨o,ho,hc⟩
 show wpAny _ _ (do return .bool (←contains (.ref d) (.int k t))) Q E s
 refine wpAny_bind ?_
 unfold contains
 try with_reducible refine wpAny_holding ?_
 refine wpAny_bind (wpAny_specialOf hT slot_dict_contains.lookup ?_)
 show wpAny _ _ (if(some (Value.builtin "dict.__contains__")==some Value.none)=true then _ else _) _ E s
 rw[if_neg (by rw[beq_builtin_none];exact Bool.false_ne_true)]
 refine wpAny_bind (wpAny_callSpecialUnlessNone?_slot (name:=Str.ofString "__contains__") hT slot_dict_contains
  (wpAny_call_entry slot_dict_contains hT entry_dict_contains ?_ (args_dict_contains _ _)))
 show wpAny _ _ (dictGet d (.int k t)>>=_) _ _ s
 refine wpAny_bind (D1 ho hd hk ?_)
 cases hf:Cw es k with
 |some v=>
  rw[hf] at h
  show wpAny _ _ (ret (.bool true)) _ _ _
  exact wpAny_pure ⟨_,rfl,wpAny_truthy_bool (wpAny_pure h)⟩
 |none=>
  rw[hf] at h
  show wpAny _ _ (Builtin.Dict.pendingKey? d (.int k t)>>=_) _ _ _
  exact wpAny_bind (wpAny_pendingKey_other hs (wpAny_pure ⟨_,rfl,wpAny_truthy_bool (wpAny_pure h)⟩))
theorem JT{d:Addr}{k:Int}{t:Nat}{es:Array DictEntry}{o:Obj}{ep:Nat}{Q:Value→Shared→Prop}(ho:s.heap.get? d=some o)(hc:o.cls= .type "dict")(hd:o.data= .dict es ep)(hk:∀(i:Nat) (e:DictEntry),es[i]? =some e→Ca e=true)(hs:(d==sysModules)=false)
  (h:Q (.bool (!(Cw es k).isSome)) {s with toks:=s.toks+1}):wpAny (model prog w) A (compareOp .NotIn (.int k t) (.ref d)) Q E s:=by
 have hT:s.TypeIs (.ref d) "dict":=⟨o,ho,hc⟩
 show wpAny _ _ (do return .bool (!(←contains (.ref d) (.int k t)))) Q E s
 refine wpAny_bind ?_
 unfold contains
 try with_reducible refine wpAny_holding ?_
 refine wpAny_bind (wpAny_specialOf hT slot_dict_contains.lookup ?_)
 show wpAny _ _ (if(some (Value.builtin "dict.__contains__")==some Value.none)=true then _ else _) _ E s
 rw[if_neg (by rw[beq_builtin_none];exact Bool.false_ne_true)]
 refine wpAny_bind (wpAny_callSpecialUnlessNone?_slot (name:=Str.ofString "__contains__") hT slot_dict_contains
  (wpAny_call_entry slot_dict_contains hT entry_dict_contains ?_ (args_dict_contains _ _)))
 show wpAny _ _ (dictGet d (.int k t)>>=_) _ _ s
 refine wpAny_bind (D1 ho hd hk ?_)
 cases hf:Cw es k with
 |some v=>
  rw[hf] at h
  show wpAny _ _ (ret (.bool true)) _ _ _
  exact wpAny_pure ⟨_,rfl,wpAny_truthy_bool (wpAny_pure h)⟩
 |none=>
  rw[hf] at h
  show wpAny _ _ (Builtin.Dict.pendingKey? d (.int k t)>>=_) _ _ _
  exact wpAny_bind (wpAny_pendingKey_other hs (wpAny_pure ⟨_,rfl,wpAny_truthy_bool (wpAny_pure h)⟩))
theorem Hd{d:Addr}{k:Int}{t:Nat}{es:Array DictEntry}{o:Obj}{ep:Nat}{v:Value}{Q:Value→Shared→Prop}(ho:s.heap.get? d=some o)(hc:o.cls= .type "dict")(hd:o.data= .dict es ep)(hk:∀(i:Nat) (e:DictEntry),es[i]? =some e→Ca e=true)
  (hv:Cw es k=some v) (h:Q v {s with toks:=s.toks+1}):wpAny (model prog w) A (getItem (.ref d) (.int k t)) Q E s:=by
 have hT:s.TypeIs (.ref d) "dict":=⟨o,ho,hc⟩
 unfold getItem
 try with_reducible refine wpAny_holding ?_
 refine wpAny_bind (wpAny_sequenceKey hT (by decide) ?_)
 refine wpAny_bind (wpAny_callSpecial?_slot (name:=Str.ofString "__getitem__") hT slot_dict_getitem
  (wpAny_call_entry slot_dict_getitem hT entry_dict_getitem ?_ (args_dict_getitem _ _)))
 show wpAny _ _ (dictGet d (.int k t)>>=_) _ _ s
 refine wpAny_bind (D1 ho hd hk ?_)
 rw[hv]
 exact wpAny_pure ⟨v,rfl,wpAny_pure h⟩
end
end
section
theorem GY:Slot "bytes" "join" "bytes.join":=
 .of (owner:="bytes") (n:="join") (by rw[typeLookup_type,builtinLookup_eq_fast];kernel_rfl) (by decide+kernel) (by decide+kernel) (by decide+kernel)
  (by first|exact .inl (by decide+kernel)|exact .inr (by decide+kernel)) (by rw[isSubtype_type];kernel_rfl)
theorem KC:typeOf (.builtin "bytes.join")=pure (.type "method_descriptor"):=by show builtinType _=_;rw[builtinType_eq_fast];kernel_rfl
theorem Ju:entryFor table "bytes.join"=some Builtin.«bytes.join»:=entryFor_of_fast (by kernel_rfl)
theorem Kz(a b:Value):argsOk "bytes.join" ⟨[a,b],[]⟩:=by unfold argsOk;kernel_rfl
theorem On:typeLookup (.type "bytes") "__getattribute__"=pure (some (.builtin "bytes.__getattribute__")):=by rw[typeLookup_type,builtinLookup_eq_fast];kernel_rfl
theorem HN:(Manifest.canonical "bytes.__getattribute__" !="object.__getattribute__")=false:=by decide+kernel
theorem Fb:typeLookup (.type "bytes") "__getattr__"=pure none:=by rw[typeLookup_type,builtinLookup_eq_fast];kernel_rfl
section
variable{prog:Program}{w:World}{M:Model}{A:Around}{E:Value→Shared→Prop}{s:Shared}{b:Array UInt8}{t:Nat}
theorem F9{pl:Sem Bool}{Q:Value×List Value→Shared→Prop}(h:Q (.builtin "bytes.join",[.bytes b t]) s):
  wpAny M A (getMethod (.bytes b t) (Str.ofString "join") pl) Q E s:=
 getMethod_value (T:="bytes") (name:=Str.ofString "join") (ga:="bytes.__getattribute__") (id:="bytes.join") (show s.TypeIs (.bytes b t) "bytes" from rfl) (by intro _ x;cases x) On HN Fb GY.lookup KC h
theorem P5{id:String}:Builtin.Bytes.takeBufferQuiet? id (.bytes b t) 0=pure (some (b,none)):=by
 unfold Builtin.Bytes.takeBufferQuiet? Builtin.Bytes.takeBuffer?
 have e:Builtin.Bytes.buffer? id (.bytes b t) ((0:Int)==Builtin.Bytes.fullReadOnly)=pure (some b):=by
  rw[show((0:Int)==Builtin.Bytes.fullReadOnly)=false from by decide+kernel]
  exact KBy.buffer_eq
 rw[KBy.special_eq KBy.look_buffer,KBy.own_buffer,e]
 kernel_rfl
def DR(vs:List Value)(bs:List (List UInt8)):Prop:=vs.length=bs.length∧∀(i:Nat) (v:Value),vs[i]? =some v→∃l t,bs[i]? =some l∧v= .bytes l.toArray t
theorem G1{Q:Unit→Shared→Prop}(keep:List Value):∀(taken:List (Value×Option Value)),(∀p∈taken,p.2=none)→Q () s→wpAny M A (Builtin.Bytes.joinLetGo taken keep) Q E s
 |[],_,h=>wpAny_pure h
 |(x,u)::r,hp,h=>by
  have:=hp _ (.head _)
  dsimp only at this
  subst this
  unfold Builtin.Bytes.joinLetGo
  exact wpAny_bind (wpAny_letGo (G1 keep r (fun p hq=>hp p (.tail _ hq)) h))
theorem Tn{α:Type}{vs:List Value}{f1:Value→Sem α}{f2:Sem α}{Q:α→Shared→Prop}(h:¬∃x,vs=[x])(hw:wpAny M A f2 Q E s):wpAny M A (match vs.toArray with| #[x]=>f1 x|_=>f2) Q E s:=by
 match vs,h with
 |[],_=>exact hw
 |[x],h=>exact absurd ⟨x,rfl⟩ h
 |x::y::r,_=>exact hw
theorem MN:∀(l:List (List UInt8)) (k:Nat),(l.map (·.toArray)).foldl (fun x1 x2=>x1+x2.size) k=k+l.flatten.length:=by
 intro l
 induction l with
 |nil=>exact fun k=>rfl
 |cons y r ih=>exact fun k=>(ih _).trans (by rw[List.flatten_cons,List.length_append];exact Nat.add_assoc ..)
theorem Jk:∀(l:List (List UInt8)) (k:Nat) (acc:Array UInt8),((l.map (·.toArray)).zipIdx k).foldl (fun out (x:Array UInt8×Nat)=>(if x.2>0 then out++ #[] else out)++x.1) acc=acc++l.flatten.toArray:=by
 intro l
 induction l with
 |nil=>intro k acc;simp
 |cons y r ih=>intro k acc;exact(ih _ _).trans (by simp)
theorem DR.quiet{vs:List Value}{bs:List (List UInt8)}(hb:DR vs bs)(i:Nat):(((vs.take i).map (·,(none:Option Value))).any fun x=>x.1.onHeap)=false:=by
 rw[List.any_map,List.any_eq_false]
 intro v hv
 obtain⟨j,hj,rfl⟩:=List.getElem_of_mem hv
 obtain⟨_,_,_,e⟩:=hb.2 j (vs.take i)[j] (by rw[List.getElem_take];exact List.getElem?_eq_getElem _)
 rw[Function.comp,e]
 exact Bool.false_ne_true
theorem DR.one{x:Value}{bs:List (List UInt8)}(hb:DR [x] bs):∃l t,bs=[l]∧x= .bytes l.toArray t:=by
 obtain⟨l,t,h0,rfl⟩:=hb.2 0 x rfl
 match bs,hb.1,h0 with
 |[y],_,h0=>exact⟨l,t,congrArg (fun z=>[z]) (oJ h0),rfl⟩
inductive J8(vs:List Value)(bs:List (List UInt8))(s:Shared)(i:Nat)(c:Array (Array UInt8)×List (Value×Option Value))(s':Shared):Prop
 |mk:s'=s→c.1.toList=(bs.take i).map (·.toArray)→c.2=(vs.take i).map (·,none)→J8 vs bs s i c s'
theorem J8.next{vs:List Value}{bs:List (List UInt8)}{s:Shared}{i:Nat}{c:Array (Array UInt8)×List (Value×Option Value)}{l:List UInt8}{v:Value}(h:J8 vs bs s i c s)(h0:bs[i]? =some l)(hv:vs[i]? =some v):J8 vs bs s (i+1) (c.1.push l.toArray,c.2++[(v,none)]) s:=by
 obtain⟨_,h1,h2⟩:=h
 refine⟨rfl,?_,?_⟩
 ·rw[List.take_succ,h0,List.map_append,Array.toList_push,h1];rfl
 ·rw[List.take_succ,hv,List.map_append,h2];rfl
theorem Ko{l:Addr}{o:Obj}{vs:List Value}{n:Nat}{bs:List (List UInt8)}{Q:Value→Shared→Prop}(ho:s.heap.get? l=some o)(hc:o.cls= .type "list")(hd:o.data= .seq vs.toArray n)(hb:DR vs bs)(hsz:bs.flatten.length≤16777216)
  (h:∀t' k,Q (.bytes bs.flatten.toArray t') {s with toks:=k}):wpAny (model prog w) A (call (.builtin "bytes.join") [.bytes #[] t,.ref l]) Q E s:=by
 refine wpAny_call_entry GY (show s.TypeIs (.bytes #[] t) "bytes" from rfl) Ju ?_ (Kz _ _)
 show wpAny _ _ (Builtin.Bytes.joinM .bytes ⟨[.bytes #[] t,.ref l],[]⟩) _ _ s
 refine wpAny_bind (m:=selfAndOne _ _) (wpAny_pure (wpAny_bind (m:=Builtin.Bytes.joinItems _) (wpAny_bind (wpAny_typeOf ⟨o,ho,hc⟩ (wpAny_pure (wpAny_bind (wpAny_seqItems ho hd ?_)))))))
 by_cases h1:∃x,vs=[x]
 ·obtain⟨x,rfl⟩:=h1
  obtain⟨l0,t0,rfl,rfl⟩:=hb.one
  refine wpAny_bind (m:=typeOf _) (wpAny_typeOf (T:="bytes") rfl (wpAny_bind (wpAny_rule (wpAny_pure ⟨_,rfl,?_⟩))))
  have q:=h t0 s.toks
  rw[List.flatten_singleton] at q
  exact q
 ·refine Tn (vs:=vs) h1 ?_
  refine wpAny_bind (KV (J8 vs bs s) ⟨rfl,rfl,rfl⟩ (fun i c s' hlt q=> ?_) fun c s' q=> ?_)
  ·cases q.1
   obtain⟨l0,t0,h0,hx⟩:=hb.2 i vs[i] (List.getElem?_eq_getElem hlt)
   refine wpAny_bind (wpAny_seqItems ho hd ?_)
   refine CC (if_neg (by rw[q.3,hb.quiet];exact Bool.false_ne_true)) ?_
   have hget:vs.toArray.getD i Value.none= .bytes l0.toArray t0:=by
    rw[←hx]
    simp[show i<vs.length from hlt]
   rw[hget]
   refine wpAny_bind (wpAny_holding (wpAny_of_eq P5 (wpAny_bind (wpAny_seqItems ho hd ?_))))
   exact CC (if_neg (by simp)) (wpAny_pure ⟨_,rfl,q.next h0 ((List.getElem?_eq_getElem hlt).trans (congrArg some hx))⟩)
  ·obtain⟨rfl,hc1,hc2⟩:=q
   rw[List.take_of_length_le (Nat.le_of_eq (show bs.length=vs.toArray.size from hb.1.symm))] at hc1
   rw[List.take_of_length_le (Nat.le_of_eq (show vs.length=vs.toArray.size from rfl))] at hc2
   refine wpAny_bind (m:=Builtin.Bytes.payload _) (wpAny_pure ?_)
   refine CC (if_neg (by rw[←Array.foldl_toList,hc1,MN,show(#[]:Array UInt8).size*(c.fst.size - 1)+bs.flatten.length=bs.flatten.length from by rw[show(#[]:Array UInt8).size=0 from rfl,Nat.zero_mul,Nat.zero_add],KBy.tooLong_not hsz];exact Bool.false_ne_true)) ?_
   rw[show Builtin.Bytes.joined #[] c.fst.toList=bs.flatten.toArray from by rw[hc1];exact(Jk bs 0 #[]).trans (by simp)]
   refine wpAny_bind (wpAny_mkBytes (wpAny_bind (wpAny_holding (wpAny_point (wpAny_bind ?_)))) (by rw[sizeLine_eq];simpa using hsz))
   refine G1 _ _ (fun p hp=> ?_) ?_
   ·rw[hc2] at hp
    obtain⟨v,_,rfl⟩:=List.mem_map.mp hp
    rfl
   ·refine wpAny_pure ⟨_,rfl,?_⟩
    exact h _ _
end
section
variable{prog:Program}{w:World}{A:Around}{E:Value→Shared→Prop}{h:Heap}{g:Array GenState}{d:Drawn}{t:Nat}{os:OsState}{a:Addr}{o:Obj}
theorem Dm{b:Bool}{Q:Value→Shared→Prop}(hx:h.get? a=some o)(hc:o.cls= .type "tuple")(hq:Q (.type "tuple") ⟨h,g,d,t+1,os⟩):wpAny (model prog w) A (getAttr (.ref a) "__class__" b) Q E ⟨h,g,d,t,os⟩:=by
 have hT:(⟨h,g,d,t+1,os⟩:Shared).TypeIs (.ref a) "tuple":=⟨_,hx,hc⟩
 have f2:=F.slot_tuple_getattribute.lookup
 have f3:=F.slot_tuple_getattribute.bind (.ref a)
 unfold getAttr
 refine wpAny_bind (wpAny_mkText ?_)
 unfold getAttrBy
 refine wpAny_holding (wpAny_bind (wpAny_typeOf hT (wpAny_bind (wpAny_of_eq f2 ?_))))
 show wpAny _ _ (getAttrByItsOwn _ _ _ _ _ _) _ _ _
 unfold getAttrByItsOwn
 repeat(any_goals (first|assumption|wp_step))
 rw[if_neg (by cases b<;>decide)]
 unfold boundAndCalled
 refine wpAny_bind (wpAny_of_eq f3 ?_)
 refine wpAny_call (class_call_tuple hx hc ?_)
 show wpAny _ _ (handedOut (Value.type "tuple")) _ _ _
 exact handed_on rfl hq
end
end
section
open PySem.Builtin.Int (intBits)
theorem Ri(a b:Value)(c d:Value):argsOk "int.to_bytes" ⟨[a,b],[("byteorder",c),("signed",d)]⟩:=by unfold argsOk;kernel_rfl
noncomputable def BN(k:Nat)(x:Int):List UInt8:=(KTBy.low x k).reverse
theorem Ax(k:Nat)(x:Int):(BN k x).length=k:=by unfold BN;rw[List.length_reverse,KTBy.low_length]
theorem Rb{k:Nat}{x:Int}(h0:0≤x)(h1:x<256^k):(BN k x).map (fun c=>((c.toNat:Nat):Int))=((List.range k).map fun i=>x/256^i%256).reverse:=by
 unfold BN
 rw[List.map_reverse,KTBy.low_ints h0 h1]
section
variable{prog:Program}{w:World}{M:Model}{A:Around}{E:Value→Shared→Prop}{s:Shared}{x:Int}{k:Nat}{t u v:Nat}{K:Frag}{h₀:Heap}{L:Addr}{m:Str→Option Value}{news:List (Addr×Obj)}
theorem JB{Q:Value→Shared→Prop}(hk:k≤1000)(h0:0≤x)(h1:x<256^k)(h:∀t' k',Q (.bytes (BN k x).toArray t') {s with toks:=k'}):
  wpAny (model prog w) A (call (.builtin "int.to_bytes") [.int x t,.int (k:Int) u] [("byteorder",.str (Str.ofString "big") v),("signed",.bool false)]) Q E s:=by
 refine wpAny_call_entry_kw KTBy.slot (typeIs_int s x t) KTBy.entry ?_ (Ri _ _ _ _)
 have hb:=KTBy.bits_le (k:=k) rfl h0 h1
 show wpAny _ _ (Builtin.Int.intOfSelf (.int x t)>>=fun y=>_) _ _ s
 refine wpAny_bind (wpAny_of_eq (a:=x) rfl ?_)
 show wpAny _ _ (Builtin.Int.intBindNamed "to_bytes" ["length","byteorder","signed"] 0 2 [.int (k:Int) u] [("byteorder",.str (Str.ofString "big") v),("signed",.bool false)]>>=fun l=>_) _ _ s
 refine wpAny_bind (wpAny_of_eq (a:=[some (.int (k:Int) u),some (.str (Str.ofString "big") v),some (.bool false)]) (by kernel_rfl) ?_)
 show wpAny _ _ (Builtin.Int.intIndex "int.to_bytes" (.int (k:Int) u)>>=fun n=>_) _ _ s
 refine wpAny_bind (wpAny_of_eq (a:=(k:Int)) rfl ?_)
 refine KTBy.if_not (by show(decide ((k:Int)< -(2^63:Int))||decide ((k:Int)≥2^63))=false;rw[decide_eq_false (show¬((k:Int)< -(2^63:Int)) by omega),decide_eq_false (show¬((k:Int)≥2^63) by omega)];rfl) ?_
 refine wpAny_bind (wpAny_of_eq (a:=Str.ofString "big") (by kernel_rfl) ?_)
 refine wpAny_bind (wpAny_of_eq (a:=false) rfl ?_)
 refine wpAny_bind (wpAny_of_eq (a:=false) (by kernel_rfl) ?_)
 refine wpAny_ite_false (decide_eq_false (show¬((k:Int)<0) by exact fun q=>DF [_] [] [.it (.c AA) k0] [1] rfl q)) ?_
 refine wpAny_ite_false (decide_eq_false (show¬((k:Int)>2^63 - 1 - 33) by omega)) ?_
 refine wpAny_ite_false (decide_eq_false (show¬((k:Int)>(sizeLine:Int)) by rw[sizeLine_eq];exact fun q=>DF [_] [] [.it (.c Aa) (.c AA),.nl AA A7] [1,1] rfl q hk)) ?_
 refine KTBy.if_not (by show(decide (x<0)&& !false)=false;rw[decide_eq_false (show¬x<0 by exact fun q=>DF [] [_] [.it AA k0,.il k0 AA] [1,1] rfl q h0)];rfl) ?_
 refine KTBy.if_not (by show(_&&decide ((intBits x:Int)>8*(k:Int)))=false;rw[decide_eq_false (show¬((intBits x:Int)>8*(k:Int)) by exact fun q=>DF [_,_] [] [.it (.m 8 (.c AA)) (.c v1),.nl v1 (.m 8 AA)] [1,1] rfl q hb),Bool.and_false]) ?_
 refine wpAny_bind (wpAny_mkBytes (wpAny_pure ⟨_,rfl,?_⟩) (by show(List.reverse (KTBy.low x (Int.toNat (k:Int)))).length≤sizeLine;rw[List.length_reverse,KTBy.low_length,Int.toNat_natCast,sizeLine_eq];exact AK [_] [] [.nl AA A7] (.nl AA Aa) [1,1] rfl hk))
 exact h _ _
/-! int.from_bytes -/
theorem Vz{n:Nat}{Q:Value→Shared→Prop}(hn:n<256^1000)(h:Q (.int (n:Int) s.toks) {s with toks:=s.toks+1}):wpAny M A (mkIntGrown (n:Int)) Q E s:=by
 unfold mkIntGrown
 have hl:¬((n:Int).natAbs.log2≥bitsLine):=by
  rw[Int.natAbs_natCast]
  have hb:bitsLine=134217728:=by first|rfl|decide
  by_cases hz:n=0
  ·subst hz
   rw[hb]
   decide
  ·have e:(256:Nat)^1000=2^8000:=by
    rw[show(256:Nat)=2^8 by decide,←Nat.pow_mul]
   rw[e] at hn
   have h1:=(Nat.log2_lt hz).mpr hn
   exact fun q=>DF [_,_] [] [.nl AA v1,.ne AA (.k 134217728),.nt v1 (.k 8000)] [1, -1,1] rfl q hb h1
 rw[if_neg hl]
 exact wpAny_mkInt h
noncomputable def At(l:List UInt8):Nat:=l.foldl (fun(acc:Nat) (b:UInt8)=>acc*256+b.toNat) 0
theorem OF(l:List UInt8):At l<256^l.length:=by
 have:=KFB.fold_lt l 0
 rw[Nat.zero_add,Nat.one_mul] at this
 exact this
theorem MJ{b:Array UInt8}{t u:Nat}{P:Fin→Shared→Prop}(hl:b.size≤1000)(h:P (.done (.ret (.int (At b.toList) s.toks))) {s with toks:=s.toks+1}):
  wpAny M A (Builtin.«int.from_bytes» ⟨[.type "int",.bytes b t,.str (Str.ofString "big") u],[("signed",.bool false)]⟩) P E s:=by
 have hn:At b.toList<256^1000:=by
  have h1:=OF b.toList
  rw[Array.length_toList] at h1
  exact Nat.lt_of_lt_of_le h1 (Nat.pow_le_pow_right (by decide) hl)
 unfold Builtin.«int.from_bytes»
 refine wpAny_bind (wpAny_of_eq (a:=true) KFB.type_int ?_)
 refine KFB.if_not rfl ?_
 refine wpAny_bind (wpAny_of_eq (a:=true) F.conv_sub_int ?_)
 refine KFB.if_not rfl ?_
 refine wpAny_bind (wpAny_of_eq (a:=[some (.bytes b t),some (.str (Str.ofString "big") u),some (.bool false)]) (by kernel_rfl) ?_)
 refine wpAny_bind (wpAny_of_eq (a:=Str.ofString "big") (by kernel_rfl) ?_)
 refine wpAny_bind (wpAny_of_eq (a:=false) rfl ?_)
 refine wpAny_bind (wpAny_of_eq (a:=false) (by kernel_rfl) ?_)
 refine wpAny_bind (wpAny_of_eq (a:=b) rfl ?_)
 show wpAny _ _ (mkIntGrown (b.toList.foldl (fun(acc:Int) (b:UInt8)=>acc*256+(b.toNat:Int)) ((0:Nat):Int))>>=fun v=>_) _ _ _
 rw[KFB.foldI_eq]
 refine wpAny_bind (Vz hn ?_)
 refine KFB.if_so (by decide+kernel) ?_
 exact wpAny_bind (wpAny_pure (wpAny_pure h))
theorem M2{b:Array UInt8}{t u:Nat}{o:Str}:checkBoundCall "int.from_bytes" ⟨[.type "int",.bytes b t,.str o u],[("signed",.bool false)]⟩=pure ():=by first|kernel_rfl|rfl
theorem He{x:Addr}{b:Array UInt8}{t u:Nat}{Q:Value→Shared→Prop}(ho:KFB.StandsAt x s.heap)(hl:b.size≤1000)(h:Q (.int (At b.toList) s.toks) {s with toks:=s.toks+1}):
  wpAny (model prog w) A (call (.ref x) [.bytes b t,.str (Str.ofString "big") u] [("signed",.bool false)]) Q E s:=by
 refine wpAny_call (codeAny_of_tree ?_)
 show wpAny _ A.in1 (callAny (.ref x) ⟨[.bytes b t,.str (Str.ofString "big") u],[("signed",.bool false)]⟩) _ _ s
 simp only[callAny]
 refine wpAny_bind (wpAny_load ho ?_)
 simp only[KFB.bound,show(Value.type "builtin_function_or_method"==Value.type "method"||Value.type "builtin_function_or_method"==Value.type "builtin_function_or_method"||Value.type "builtin_function_or_method"==Value.type "method-wrapper")=true by decide,if_true]
 refine KFB.if_so (by decide) ?_
 refine wpAny_bind (wpAny_of_eq (a:=()) M2 ?_)
 refine wpAny_bind (wpAny_pure (wpAny_pure ?_))
 exact⟨KFB.quiet_fb,codeAny_builtin KFB.entry_fb (MJ hl h)⟩
theorem OT{x:Addr}{h:Heap}(ho:h.get? x=some KFB.bound):Looks M h (keeperOf (.ref x)) .machine:=by
 intro A' Q' E' s' hk q
 unfold keeperOf
 refine wpAny_bind (wpAny_load (hk _ _ ho) ?_)
 simp only[KFB.bound,show(Value.type "builtin_function_or_method" !=Value.type "method")=true by decide,show(Value.type "builtin_function_or_method"==Value.type "builtin_function_or_method"||Value.type "builtin_function_or_method"==Value.type "method-wrapper")=true by decide,if_true]
 exact wpAny_pure q
end
end
section
theorem Fd:fillsNumberSlot (.type "tuple") "mul"=pure false:=
 PySem.fillsNumberSlot_seq (id:="tuple.__mul__") (r:=some (.builtin "tuple.__rmul__")) F.slot_tuple_mul.lookup (by decide+kernel) (by rw[typeLookup_type,builtinLookup_eq_fast];kernel_rfl) (by decide+kernel)
theorem IM:seqRepeat? (.type "tuple")=pure (some (.builtin "tuple.__mul__")):=by
 unfold seqRepeat?
 rw[PySem.seqSlot_of (T:="tuple") (name:="__mul__") (id:="tuple.__mul__") F.slot_tuple_mul.lookup (by decide+kernel),PySem.seqSlot_of (T:="tuple") (name:="__rmul__") (id:="tuple.__rmul__") (by rw[typeLookup_type,builtinLookup_eq_fast];kernel_rfl) (by decide+kernel)]
 rfl
section
variable{prog:Program}{w:World}{M:Model}{A:Around}{E:Value→Shared→Prop}{s:Shared}
theorem Nj(a:Int)(t:Nat)(l:Addr)(items:Array Value)(n:Nat):
  Meets (Builtin.«int.__rmul__» ⟨[.int a t,.ref l],[]⟩) (fun _ R s=>s.heap.get? l=some {cls:= .type "tuple",dict:=none,data:= .seq items n,slots:= #[]}∧R (.ok (.ret Value.notImplemented)) s):=
 .of_wp fun prog w A R s h=>by obtain⟨hp,g,d,tk,os⟩:=s;obtain⟨hl,h⟩:=h;wp_walk;exact⟨_,rfl,h⟩
theorem OI(l:Addr)(items:Array Value)(n:Nat)(x:Int)(u:Nat)(h0:0≤x)(h1:x≤1000)(hne:items.isEmpty=false)(hz:items.size≤1000):
  Meets (Builtin.«tuple.__mul__» ⟨[.ref l,.int x u],[]⟩) (fun _ R s=>s.heap.get? l=some {cls:= .type "tuple",dict:=none,data:= .seq items n,slots:= #[]}∧R (.ok (.ret (.ref (if x=1 then l else s.heap.objs.size)))) (if x=1 then s else{s with heap:=s.heap.push {cls:= .type "tuple",data:= .seq (List.foldl (fun x1 x2=>x1++x2) #[] (List.replicate x.toNat items))}})):=
 .of_wp fun prog w A R s h=>by
  obtain⟨hp,g,d,tk,os⟩:=s;obtain⟨hl,h⟩:=h
  wp_walk
  have hprod:items.size*x.toNat≤1000000:=Nat.le_trans (Nat.mul_le_mul hz (show x.toNat≤1000 by exact AK [_] [_] [.il AA A7,.ie (.c AA) AA] (.nl AA A7) [1,1,1] rfl h1 (tN (AK [] [_] [.il k0 AA] (.il k0 AA) [1,1] rfl h0)))) (by decide)
  have hcast:((items.size:Int)*x)=((items.size*x.toNat:Nat):Int):=by rw[Int.natCast_mul,tN h0]
  refine wpAny_ite_false (by rw[decide_eq_false (show¬x< -2^63 by omega),decide_eq_false (show¬x≥2^63 by omega)];rfl) ?_
  show wpAny _ _ (Builtin.Tuple.tupleItemsOf (Value.ref l)>>=_) _ _ _
  refine wpAny_bind (wpAny_bind (wpAny_seqItems hl rfl (wpAny_pure ?_)))
  by_cases hx:x=1
  ·subst hx
   rw[if_pos (by simp)]
   refine wpAny_bind (wpAny_bind (wpAny_typeOf (T:="tuple") ⟨_,hl,rfl⟩ (wpAny_pure ?_)))
   rw[if_pos (by decide)]
   exact wpAny_bind (wpAny_rule (wpAny_pure ⟨_,rfl,by simpa using h⟩))
  ·rw[if_neg (by rw[hne];simpa using hx)]
   show wpAny _ _ (if(decide (x≤0)||items.isEmpty)=true then _ else _) _ _ _
   rw[if_neg hx,if_neg hx] at h
   by_cases h0':x≤0
   ·have hx0:x=0:=by exact zA (AK [] [_] [.il AA k0] (.il AA k0) [1,1] rfl h0') (AK [] [_] [.il k0 AA] (.il k0 AA) [1,1] rfl h0)
    subst hx0
    rw[if_pos (by simp)]
    refine wpAny_bind (wpAny_newObj_type (wpAny_pure ⟨_,rfl,?_⟩))
    simpa using h
   ·rw[if_neg (by rw[hne,decide_eq_false h0'];decide)]
    show wpAny _ _ (if(items.size:Int)*x>(2^63 - 1)/8 then _ else _) _ _ _
    rw[if_neg (by rw[hcast];omega)]
    show wpAny _ _ (if Builtin.Tuple.tupleTooMany ((items.size:Int)*x)=true then _ else _) _ _ _
    rw[if_neg (by unfold Builtin.Tuple.tupleTooMany;rw[hcast,sizeLine_eq,decide_eq_true_eq];exact fun q=>DF [_] [] [.it (.c Aa) (.c AA),.nl AA AE] [1,1] rfl q hprod)]
    have hl2:(List.foldl (fun x1 x2=>x1++x2) #[] (List.replicate x.toNat items)).size=items.size*x.toNat:=by
     have:∀(k:Nat) (acc:Array Value),(List.foldl (fun x1 x2=>x1++x2) acc (List.replicate k items)).size=acc.size+items.size*k:=by
      intro k
      induction k with
      |zero=>intro acc;simp
      |succ k ih=>intro acc;rw[List.replicate_succ,List.foldl_cons,ih,Array.size_append,Nat.mul_succ];exact Sa [_,_,_] [] (.a (.a AA v1) AT) (.a AA (.a AT v1)) rfl
     rw[this];simp
    refine wpAny_bind (wpAny_newObj_type (wpAny_pure ⟨_,rfl,h⟩) ?_)
    show(List.foldl (fun x1 x2=>x1++x2) #[] (List.replicate x.toNat items)).size≤sizeLine
    rw[hl2,sizeLine_eq];exact AK [_] [] [.nl AA AE] (.nl AA Aa) [1,1] rfl hprod
theorem Qj{l:Addr}{items:Array Value}{n:Nat}{x:Int}{u:Nat}{Q:Value→Shared→Prop}(hl:s.heap.get? l=some {cls:= .type "tuple",dict:=none,data:= .seq items n,slots:= #[]})(h0:0≤x)(h1:x≤1000)(hne:items.isEmpty=false)(hz:items.size≤1000)
  (h:Q (.ref (if x=1 then l else s.heap.objs.size)) (if x=1 then s else{s with heap:=s.heap.push {cls:= .type "tuple",data:= .seq (List.foldl (fun x1 x2=>x1++x2) #[] (List.replicate x.toNat items))}})):
  wpAny (model prog w) A (binaryOp .Mult (.ref l) (.int x u)) Q E s:=
 wpAny_binaryOp_repeat_ref (T:="tuple") (U:="int") (by decide) ⟨_,hl,rfl⟩ (fun s'=>typeIs_int s' x u) Fd F.fills_int_mul F.slot_int_rmul IM F.slot_int_index.lookup
  (call_meets F.slot_int_rmul (typeIs_int s x u) F.entry_int_rmul (F.args_int_rmul_2 _ _) (Nj x u l items n)
   ⟨hl,rfl,⟨_,hl,rfl⟩,call_meets F.slot_tuple_mul ⟨_,hl,rfl⟩ F.entry_tuple_mul (F.args_tuple_mul_2 _ _) (OI l items n x u h0 h1 hne hz) ⟨hl,h⟩⟩)
end
end
section
open Builtin Builtin.Str Builtin.Int
theorem B1:Slot "map" "__next__" "map.__next__":=
 .of (owner:="map") (n:="__next__") (by rw[typeLookup_type,builtinLookup_eq_fast];kernel_rfl) (by decide+kernel) (by decide+kernel) (by decide+kernel)
  (by first|exact .inl (by decide+kernel)|exact .inr (by decide+kernel)) (by rw[isSubtype_type];kernel_rfl)
theorem ET:Slot "map" "__iter__" "map.__iter__":=
 .of (owner:="map") (n:="__iter__") (by rw[typeLookup_type,builtinLookup_eq_fast];kernel_rfl) (by decide+kernel) (by decide+kernel) (by decide+kernel)
  (by first|exact .inl (by decide+kernel)|exact .inr (by decide+kernel)) (by rw[isSubtype_type];kernel_rfl)
theorem Ha:Slot "map" "__init__" "object.__init__":=
 .of (owner:="object") (n:="__init__") (by rw[typeLookup_type,builtinLookup_eq_fast];kernel_rfl) (by decide+kernel) (by decide+kernel) (by decide+kernel)
  (by first|exact .inl (by decide+kernel)|exact .inr (by decide+kernel)) (by rw[isSubtype_type];kernel_rfl)
theorem r9{id:String}{b:Builtin}(h:treeTable id=some b):entryFor table id=some b:=by unfold entryFor;rw[table_eq_tree,h]
theorem Dz:entryFor table "map.__next__"=some Builtin.«map.__next__»:=r9 (by kernel_rfl)
theorem Eg(a:Value):argsOk "map.__next__" ⟨[a],[]⟩:=by unfold argsOk;kernel_rfl
theorem Hj(a:Value):argsOk "map.__iter__" ⟨[a],[]⟩:=by unfold argsOk;kernel_rfl
theorem HH:entryFor table "map.__iter__"=some Builtin.«dict_keyiterator.__iter__»:=
 entryFor_alias (id':="dict_keyiterator.__iter__") (by kernel_rfl) (by first|rfl|decide+kernel) (by decide+kernel) (by kernel_rfl)
theorem Lc:mroOf (.type "map")=pure [.type "map",.type "object"]:=by rw[mroOf_type];kernel_rfl
theorem Gu:typeLookup (.type "map") "__new__"=pure (some (.builtin "map.__new__")):=by rw[typeLookup_type,builtinLookup_eq_fast];kernel_rfl
theorem Kn:TypeCalled "map" "map.__new__" "object.__init__":=
 ⟨by decide+kernel,by decide+kernel,⟨_,_,Lc⟩,madeBy_type Lc Gu (by decide+kernel),by decide+kernel,by rw[isSubtype_type];kernel_rfl,Ha⟩
theorem IG(a b:Value):checkTypeCall "map" ⟨[a,b],[]⟩=pure ():=by rw[PySem.W.Fast.te11612656972197000677];kernel_rfl
theorem JW(a b:Value):checkBuiltinCall "map.__new__" ⟨[.type "map",a,b],[]⟩=pure ():=by rw[PySem.W.Fast.te10254737850608025244];kernel_rfl
theorem Hg:entryFor table "map.__new__"=some Builtin.«map.__new__»:=r9 (by kernel_rfl)
theorem P7:isSubtype (.type "map") (.type "map")=pure true:=by rw[isSubtype_type];kernel_rfl
theorem KU:typeLookup (.type "map") "__len__"=pure none:=by rw[typeLookup_type,builtinLookup_eq_fast];kernel_rfl
theorem Jb:typeLookup (.type "map") "__length_hint__"=pure none:=by rw[typeLookup_type,builtinLookup_eq_fast];kernel_rfl
noncomputable abbrev B2(TI:Addr):Obj:={cls:= .type "map",data:= .fields #[.ref TI,.type "str"]}
noncomputable abbrev Bq(it:Addr):Obj:={cls:= .type "tuple",data:= .seq #[.ref it]}
noncomputable abbrev E1(t:Addr)(k:Nat):Obj:={cls:= .type "tuple_iterator",data:= .fields #[.ref t,.int k 0]}
section
variable{prog:Program}{w:World}{A:Around}{E:Value→Shared→Prop}{s:Shared}
theorem F7{it t:Addr}{i:Nat}{items:Array Value}{x:Value}{Q:Value→Shared→Prop}(hit:s.heap.IsTupleIter it t i)(ht:s.heap.IsTuple t items)(hx:items[i]? =some x)
  (hQ:∀h',h'.IsTupleIter it t (i+1)→Heap.SameBut it s.heap h'→Q x {s with heap:=h'}):wpAny (model prog w) A (Builtin.SmallTypes.nextOf (.ref it)) Q E s:=by
 obtain⟨o,ho,hc,hd⟩:=id hit
 obtain⟨ol,hol,_,nl,hdl⟩:=ht
 unfold Builtin.SmallTypes.nextOf
 refine wpAny_bind (wpAny_callSpecial?_slot (name:=Str.ofString "__next__") hit.typeIs F.slot_tuple_iterator_next
  (wpAny_call_entry F.slot_tuple_iterator_next hit.typeIs F.entry_tuple_iterator_next ?_ (F.args_tuple_iterator_next_1 _)))
 show wpAny _ _ (field (.ref it) 0>>=_) _ _ s
 refine wpAny_bind (wpAny_field ho hd (x:= .ref t) rfl ?_)
 show wpAny _ _ (if(Value.ref t==Value.none)=true then _ else _) _ _ s
 rw[if_neg (show¬((Value.ref t==Value.none)=true) from Bool.false_ne_true)]
 show wpAny _ _ (field (.ref it) 1>>=_) _ _ s
 refine wpAny_bind (wpAny_field ho hd (x:= .int i 0) rfl ?_)
 show wpAny _ _ (seqItems? (.ref t)>>=_) _ _ s
 refine wpAny_bind (wpAny_seqItems hol hdl ?_)
 simp only[Int.toNat_natCast,hx]
 refine wpAny_bind (wpAny_setField ho hd (by simp) (wpAny_pure ⟨x,rfl,wpAny_pure (hQ _ ?_ (Heap.SameBut.update ..))⟩))
 exact⟨_,Heap.get?_update_self _ ho (Obj.isFreed_of_fields (Obj.data_mapFields hd _)),(Obj.cls_mapFields ..).trans hc,by
  rw[Obj.data_mapFields hd];simp[rawInt]⟩
theorem Gq{it t:Addr}{i:Nat}{items:Array Value}{Q:Value→Shared→Prop}(hh:A.handled=none)(hit:s.heap.IsTupleIter it t i)(ht:s.heap.IsTuple t items)(hx:items[i]? =none)
  (hE:∀h' e,Heap.ExtBut it s.heap h'→(∃o,h'.get? e=some o∧o.cls= .type "StopIteration")→E (.ref e) {s with heap:=h'}):wpAny (model prog w) A (Builtin.SmallTypes.nextOf (.ref it)) Q E s:=by
 obtain⟨o,ho,hc,hd⟩:=id hit
 obtain⟨ol,hol,_,nl,hdl⟩:=ht
 unfold Builtin.SmallTypes.nextOf
 refine wpAny_bind (wpAny_callSpecial?_slot (name:=Str.ofString "__next__") hit.typeIs F.slot_tuple_iterator_next
  (wpAny_call_entry F.slot_tuple_iterator_next hit.typeIs F.entry_tuple_iterator_next ?_ (F.args_tuple_iterator_next_1 _)))
 show wpAny _ _ (field (.ref it) 0>>=_) _ _ s
 refine wpAny_bind (wpAny_field ho hd (x:= .ref t) rfl ?_)
 show wpAny _ _ (if(Value.ref t==Value.none)=true then _ else _) _ _ s
 rw[if_neg (show¬((Value.ref t==Value.none)=true) from Bool.false_ne_true)]
 show wpAny _ _ (field (.ref it) 1>>=_) _ _ s
 refine wpAny_bind (wpAny_field ho hd (x:= .int i 0) rfl ?_)
 show wpAny _ _ (seqItems? (.ref t)>>=_) _ _ s
 refine wpAny_bind (wpAny_seqItems hol hdl ?_)
 simp only[Int.toNat_natCast,hx]
 refine wpAny_bind (wpAny_rule (wpAny_bind (wpAny_setField ho hd (by simp) ?_)))
 show wpAny _ _ (newExc (.type "StopIteration") []>>=_) _ _ _
 refine wpAny_bind ?_
 simp only[newExc,newTuple]
 refine wpAny_bind (wpAny_newObj_type ?_ (by size_fits))
 refine wpAny_bind (m:=firstArgMember _ _) (wpAny_of_eq (a:=Value.none) (by first|rfl|(simp only[firstArgMember];rfl)) ?_)
 refine wpAny_newObj_type ?_ (by size_fits)
 simp only[raiseNew]
 refine wpAny_bind (wpAny_handled ?_)
 first|rw[show A.in1.handled=none from hh]|rw[hh]
 refine wpAny_bind (wpAny_pure (wpAny_throw ?_))
 exact hE _ _ (((Heap.SameBut.update ..).extBut.push _).push _) ⟨_,Heap.get?_push_size _ rfl,rfl⟩
theorem ON{Mo TI it t:Addr}{i:Nat}{items:Array Value}{x:Int}{u:Nat}{Q:Option Value→Shared→Prop}(hM:s.heap.get? Mo=some (B2 TI))(hTI:s.heap.get? TI=some (Bq it))(hMi:Mo≠it)
  (hit:s.heap.IsTupleIter it t i) (ht:s.heap.IsTuple t items) (hx:items[i]? =some (.int x u)) (hf:x.natAbs.log2<1920)
  (hQ:∀h',h'.IsTupleIter it t (i+1)→Heap.SameBut it s.heap h'→Q (some (.str (toString x) s.toks)) {s with heap:=h',toks:=s.toks+1}):wpAny (model prog w) A (pyNext (.ref Mo)) Q E s:=by
 have hT:s.TypeIs (.ref Mo) "map":=⟨_,hM,rfl⟩
 unfold pyNext
 refine wpAny_bind (wpAny_attempt (wpAny_callSpecial?_slot (name:=Str.ofString "__next__") hT B1 (wpAny_call_entry B1 hT Dz ?_ (Eg _))))
 show wpAny _ _ (field (.ref Mo) 0>>=_) _ _ s
 refine wpAny_bind (wpAny_field hM rfl (x:= .ref TI) rfl ?_)
 refine wpAny_bind (wpAny_seqItems hTI rfl ?_)
 dsimp only
 have hloop:∀(f:Value→Array Value→Sem (ForInStep (Array Value))) (b:Array Value),forIn (#[Value.ref it]:Array Value) b f=(f (.ref it) b>>=fun r=>match r with| .done b=>pure b| .yield b=>pure b):=fun f b=>by
  rw[show(#[Value.ref it]:Array Value)=([Value.ref it]:List Value).toArray from rfl,List.forIn_toArray,List.forIn_cons]
  congr 1
  funext r
  cases r<;>rfl
 rw[hloop]
 refine wpAny_bind (wpAny_bind (wpAny_bind (wpAny_holding (F7 hit ht hx fun h' hit' hs=> ?_))))
 refine wpAny_pure (wpAny_pure ?_)
 refine wpAny_bind (wpAny_field (hs.extBut _ _ hMi hM) rfl (x:= .type "str") rfl ?_)
 refine wpAny_bind (wpAny_holding ?_)
 refine P.str_of_int hf ?_
 exact wpAny_bind (wpAny_letGo (wpAny_pure ⟨_,rfl,wpAny_pure (hQ h' hit' hs)⟩))
theorem Ql{Mo TI it t:Addr}{i:Nat}{items:Array Value}{Q:Option Value→Shared→Prop}(hh:A.handled=none)(hM:s.heap.get? Mo=some (B2 TI))(hTI:s.heap.get? TI=some (Bq it))
  (hit:s.heap.IsTupleIter it t i) (ht:s.heap.IsTuple t items) (hx:items[i]? =none)
  (hQ:∀h',Heap.ExtBut it s.heap h'→Q none {s with heap:=h'}):wpAny (model prog w) A (pyNext (.ref Mo)) Q E s:=by
 have hT:s.TypeIs (.ref Mo) "map":=⟨_,hM,rfl⟩
 unfold pyNext
 refine wpAny_bind (wpAny_attempt (wpAny_callSpecial?_slot (name:=Str.ofString "__next__") hT B1 (wpAny_call_entry B1 hT Dz ?_ (Eg _))))
 show wpAny _ _ (field (.ref Mo) 0>>=_) _ _ s
 refine wpAny_bind (wpAny_field hM rfl (x:= .ref TI) rfl ?_)
 refine wpAny_bind (wpAny_seqItems hTI rfl ?_)
 dsimp only
 have hloop:∀(f:Value→Array Value→Sem (ForInStep (Array Value))) (b:Array Value),forIn (#[Value.ref it]:Array Value) b f=(f (.ref it) b>>=fun r=>match r with| .done b=>pure b| .yield b=>pure b):=fun f b=>by
  rw[show(#[Value.ref it]:Array Value)=([Value.ref it]:List Value).toArray from rfl,List.forIn_toArray,List.forIn_cons]
  congr 1
  funext r
  cases r<;>rfl
 rw[hloop]
 refine wpAny_bind (wpAny_bind (wpAny_bind (wpAny_holding (Gq hh hit ht hx fun h' e hs he=> ?_))))
 obtain⟨o,ho,hc⟩:=he
 refine wpAny_bind (wpAny_isInstance (T:="StopIteration") (b:=true) ⟨o,ho,hc⟩ isSubtype_stop ?_)
 exact wpAny_pure (hQ _ hs)
theorem OM{Mo TI:Addr}{Q:Value→Shared→Prop}(hM:s.heap.get? Mo=some (B2 TI))(h:Q (.ref Mo) s):wpAny (model prog w) A (pyIter (.ref Mo)) Q E s:=by
 have hT:s.TypeIs (.ref Mo) "map":=⟨_,hM,rfl⟩
 refine wpAny_pyIter_slot hT ET (wpAny_call_entry ET hT HH ?_ (Hj _))
 show wpAny _ _ (ret (.ref Mo)) _ _ s
 exact wpAny_pure ⟨_,rfl,"map",_,hT,B1.lookup,h⟩
end
def Qm(prog:Program)(w:World){A:Around}(hh:A.handled=none){Mo TI it t:Addr}{n0:Nat}{items:Array Value}{ns:List Int}(hi:IntsAre items.toList ns)(hf:∀n∈ns,n.natAbs.log2<1920)(hMi:Mo≠it)(hTi:TI≠it)(hti:t≠it):
  WalksS prog w A Mo [Mo,TI,it,t] [it] (fun a b=>a=b) ns.length (fun j v=>∃u,v= .str (toString (ns.getD j 0)) u)
   (fun j s=>s.heap.get? Mo=some (B2 TI)∧s.heap.get? TI=some (Bq it)∧s.heap.IsTupleIter it t j∧s.heap.get? t=some {cls:= .type "tuple",data:= .seq items n0}) where
 sub:=by simp
 grefl:=fun _=>rfl
 gtrans:=fun _ _ _ a b=>a.trans b
 frame:=fun i s h' tk st _ hk=>by
  obtain⟨h1,h2,⟨o,ho,r⟩,h4⟩:=st
  exact⟨hk _ (by simp) _ h1,hk _ (by simp) _ h2,⟨o,hk _ (by simp) _ ho,r⟩,hk _ (by simp) _ h4⟩
 item:=fun i s Q E hlt st hQ=>by
  obtain⟨h1,h2,h3,h4⟩:=st
  obtain⟨u,hu⟩:=hi.get i (ns.getD i 0) (by rw[List.getD_eq_getElem?_getD,List.getElem?_eq_getElem hlt];rfl)
  refine ON h1 h2 hMi (t:=t) (i:=i) (items:=items) h3 ⟨_,h4,rfl,_,rfl⟩ (x:=ns.getD i 0) (u:=u) (by simpa using hu) (hf _ ?_) fun h' hit hs=> ?_
  ·rw[List.getD_eq_getElem?_getD,List.getElem?_eq_getElem hlt]
   exact List.getElem_mem hlt
  ·exact hQ _ _ ⟨_,rfl⟩ ⟨hs.extBut _ _ hMi h1,hs.extBut _ _ hTi h2,hit,hs.extBut _ _ hti h4⟩ ⟨fun b o hb e=>hs.extBut _ _ (by simpa using hb) e,rfl,rfl,rfl,Nat.le_succ _⟩
 done:=fun s Q E st hQ=>by
  obtain⟨h1,h2,h3,h4⟩:=st
  refine Ql hh h1 h2 (t:=t) (i:=ns.length) (items:=items) h3 ⟨_,h4,rfl,_,rfl⟩ (by have:=hi.length;simp at this;simp;exact AK [_,_] [] [.ne AA v1] (.nl AA v1) [1,1] rfl this) fun h' hs=>hQ _ ⟨fun b o hb e=>hs _ _ (by simpa using hb) e,rfl,rfl,rfl,Nat.le_refl _⟩
 self:=fun i s Q E st h=>OM st.1 h
section
variable{prog:Program}{w:World}{A:Around}{E:Value→Shared→Prop}{s:Shared}{I:Addr}{fp wr:List Addr}{G:Array GenState→Array GenState→Prop}{n:Nat}{P:Nat→Value→Prop}{St:Nat→Shared→Prop}
theorem Jx{Q:List Value→Shared→Prop}(W:WalksS prog w A.in1 I fp wr G n P St)(hT:∀i s,St i s→s.TypeIs (.ref I) "map")(hst:St 0 s)(hfp:∀b∈fp,b<s.heap.objs.size)(hI:I∈fp)
  (hQ:∀s' acc,Moved wr G s s'→ItemsOf P acc n→Q acc.toList s') (hn:n≤sizeLine):wpAny (model prog w) A (collect (.ref I)) Q E s:=by
 have hSf:s.heap.objs.size∉fp:=fun hm=>Nat.lt_irrefl _ (hfp _ hm)
 have hSI:s.heap.objs.size≠I:=fun e=>hSf (e▸hI)
 unfold collect
 refine wpAny_bind (wpAny_runValue (codeAny_builtin F.entry_proto_collect ?_))
 rw[Around.under_plainId F.plain_proto_collect _]
 show wpAny _ A.in1 (newList []>>=fun l=>again (.builtin "list.__iadd__" ⟨[l,.ref I],[]⟩)) _ _ s
 refine wpAny_bind (wpAny_newObj_type ?_)
 refine wpAny_pure ⟨plainId_quiet F.plain_list_iadd _,codeAny_builtin F.entry_list_iadd ?_⟩
 rw[Around.under_plainId F.plain_list_iadd _]
 have hst₁:=W.frame 0 s (s.heap.push {cls:= .type "list",data:= .seq ([]:List Value).toArray}) s.toks hst (Nat.le_refl _) fun b _ o e=>Heap.get?_push_of_some _ e
 show wpAny _ A.in1 (Builtin.List.listExtendWith (.ref s.heap.objs.size) (.ref I) (.ref s.heap.objs.size)) _ _ _
 unfold Builtin.List.listExtendWith
 refine wpAny_bind (wpAny_typeOf (hT 0 _ hst₁) ?_)
 have h1:Builtin.List.listSameRef (.ref s.heap.objs.size) (.ref I)=false:=by simp[Builtin.List.listSameRef,hSI]
 have h2:(Value.type "map"==Value.type "list")=false:=by decide
 have h3:(Value.type "map"==Value.type "tuple")=false:=by decide
 simp only[h1,h2,h3,Bool.or_false,Bool.false_eq_true,if_false]
 refine wpAny_bind (W.self 0 _ _ _ hst₁ ?_)
 refine wpAny_bind (wpAny_holding ?_)
 unfold Builtin.List.listLengthHint
 refine wpAny_bind (wpAny_specialOf (hT 0 _ hst₁) KU ?_)
 show wpAny _ A.in1 (specialOf (Value.ref I) (Str.ofString "__length_hint__")>>=_) _ _ _
 refine wpAny_bind (wpAny_specialOf (hT 0 _ hst₁) Jb ?_)
 refine wpAny_pure ?_
 show wpAny _ A.in1 (rule "list.extend.makes-room">>=fun _=>Builtin.List.listTouch (.ref s.heap.objs.size)>>=fun _=>
  again (.builtin "list.extend.loop" ⟨[.ref s.heap.objs.size,.ref I,.ref s.heap.objs.size],[]⟩)) _ _ _
 refine wpAny_bind (wpAny_rule ?_)
 have hS₁:(s.heap.push {cls:= .type "list",data:= .seq ([]:List Value).toArray}).get? s.heap.objs.size=some {cls:= .type "list",data:= .seq ([]:List Value).toArray}:=Heap.get?_push_size _ rfl
 refine wpAny_bind ?_
 show wpAny _ A.in1 (updateSeq s.heap.objs.size (·.push .none)>>=fun _=>updateSeq s.heap.objs.size (·.pop)) _ _ _
 refine wpAny_bind (wpAny_updateSeq hS₁ rfl ?_)
 have hS₂:=Heap.get?_update_self (Obj.mapSeq (·.push Value.none)) hS₁ rfl
 refine wpAny_updateSeq hS₂ rfl ?_
 have hS₃:=Heap.get?_update_self (Obj.mapSeq (·.pop)) hS₂ rfl
 have oth:∀b o,b≠s.heap.objs.size→(s.heap.push {cls:= .type "list",data:= .seq ([]:List Value).toArray}).get? b=some o→
   (((s.heap.push {cls:= .type "list",data:= .seq ([]:List Value).toArray}).update s.heap.objs.size (Obj.mapSeq (·.push Value.none))).update s.heap.objs.size (Obj.mapSeq (·.pop))).get? b=some o:=
  fun b o hb e=>(Heap.get?_update_other _ _ (Ne.symm hb)).trans ((Heap.get?_update_other _ _ (Ne.symm hb)).trans e)
 refine wpAny_pure ⟨plainId_quiet F.plain_extend_loop _,codeAny_extend_loopS W hn _ hSf _ n 0 _ _ _ rfl (Nat.zero_le _)
  (W.frame 0 ({s with heap:=s.heap.push {cls:= .type "list",data:= .seq ([]:List Value).toArray}}:Shared) _ s.toks hst₁ (Nat.le_refl _) fun b hb o e=>oth b o (fun h=>hSf (h▸hb)) e) hS₃ (ItemsOf.nil P) fun s' acc' c' hm hS' hacc=> ?_⟩
 show wpAny _ A (load s.heap.objs.size>>=_) _ _ s'
 refine wpAny_bind (wpAny_load hS' ?_)
 refine wpAny_pure (hQ s' acc' (Moved.drop_new (o:={cls:= .type "list",data:= .seq ([]:List Value).toArray}) (tk:=s.toks) (Moved.trans W.gtrans ((Moved.refl W.grefl).then_heap (by first|exact Nat.le_refl _|exact Nat.le_succ _|omega) fun b o hb e=> ?_) hm) (Nat.le_refl _)) hacc)
 exact oth b o (fun h=>hb (h▸List.mem_cons_self)) e
theorem Mr{x:Str}{t:Nat}{Q:Value→Shared→Prop}(W:WalksS prog w A.in1.in1 I fp wr G n P St)(hT:∀i s,St i s→s.TypeIs (.ref I) "map")(hst:St 0 s)(hfp:∀b∈fp,b<s.heap.objs.size)(hI:I∈fp)
  (hstr:∀i v,P i v→∃y u,v=Value.str y u)
  (hq:∀s' (l:List (Str×Tok)),Moved wr G s s'→ItemsOf P (strValues l).toArray n→JoinOk x (l.map (·.1))=true∧∀t' k,Q (.str (Txt.join x (l.map (·.1))) t') {s' with toks:=k}) (hsz:n≤sizeLine):
  wpAny (model prog w) A (call (.builtin "str.join") [.str x t,.ref I]) Q E s:=by
 refine wpAny_call (codeAny_call_builtin F.slot_str_join.plain F.entry_str_join (F.slot_str_join.check _ _ _ _ _ _ _ _ (typeIs_str _ _ _) (F.args_str_join_2 _ _) ?_))
 rw[join_tree_other]
 refine wpAny_bind (wpAny_typeOf (hT 0 s hst) ?_)
 show wpAny _ A.in1 ((pyIter (.ref I)).tryCatch _>>=fun it=>collect it>>=fun items=>joinTail x items) _ _ s
 refine wpAny_bind (wpAny_tryCatch (W.of_in1.self 0 s _ _ hst ?_))
 refine wpAny_bind (Jx W hT hst hfp hI (fun s' acc hm hacc=> ?_) hsz)
 obtain⟨l,hl⟩:=exists_strValues acc.toList fun v hv=>by
  obtain⟨j,hj,rfl⟩:=Array.mem_iff_getElem.mp (Array.mem_toList_iff.mp hv)
  exact hstr j _ (hacc.2 j _ (Array.getElem?_eq_getElem hj))
 rw[←hl]
 have hacc':ItemsOf P (strValues l).toArray n:=by rw[hl];simpa using hacc
 obtain⟨hok,hpost⟩:=hq s' l hm hacc'
 unfold JoinOk at hok
 rw[Bool.not_eq_true'] at hok
 have g:Gives (joinTail x (strValues l)) (joinMade x l):=by
  have g0:=gives_joinTail x l hok
  cases l with
  |nil=>exact g0
  |cons p r=>cases r with
   |nil=>exact g0
   |cons q r'=>exact g0
 exact g prog w A (wants Q E) s' (post_join l ⟨joinFit_length hok,hpost⟩)
end
end
section
open Builtin Builtin.Str Builtin.Int
theorem Hb(t:Addr)(items:Array Value):
  Meets (Builtin.«map.__new__» ⟨[.type "map",.type "str",.ref t],[]⟩) (fun _ R s=>s.heap.IsTuple t items∧
   R (.ok (.ret (.ref (s.heap.objs.size+2)))) {s with heap:=((s.heap.push {cls:= .type "tuple_iterator",data:= .fields #[.ref t,.int 0 0]}).push (Bq s.heap.objs.size)).push (B2 (s.heap.objs.size+1))}):=
 .of_wp fun prog w A R s h=>by
  obtain⟨hp,g,d,tk,os⟩:=s;obtain⟨ht,h⟩:=h
  have hsub:=P7
  have hT:Heap.IsTuple (Shared.heap ⟨hp,g,d,tk,os⟩) t items:=ht
  wp_walk using wpAny_pyIter_tuple hT
  have e1:(hp.push {cls:= .type "tuple_iterator",data:= .fields #[.ref t,.int 0 0]}).objs.size=hp.objs.size+1:=Heap.size_push ..
  have e2:((hp.push {cls:= .type "tuple_iterator",data:= .fields #[.ref t,.int 0 0]}).push (Bq hp.objs.size)).objs.size=hp.objs.size+2:=by rw[Heap.size_push,e1]
  refine⟨_,rfl,?_⟩
  show R (.ok (.ret (.ref ((hp.push {cls:= .type "tuple_iterator",data:= .fields #[.ref t,.int 0 0]}).push (Bq hp.objs.size)).objs.size))) ⟨((hp.push {cls:= .type "tuple_iterator",data:= .fields #[.ref t,.int 0 0]}).push (Bq hp.objs.size)).push (B2 (hp.push {cls:= .type "tuple_iterator",data:= .fields #[.ref t,.int 0 0]}).objs.size),g,d,tk,os⟩
  rw[e1,e2]
  exact h
section
variable{prog:Program}{w:World}{A:Around}{E:Value→Shared→Prop}{s:Shared}
theorem O5{t:Addr}{items:Array Value}{Q:Value→Shared→Prop}(ht:s.heap.IsTuple t items)
  (h:Q (.ref (s.heap.objs.size+2)) {s with heap:=((s.heap.push {cls:= .type "tuple_iterator",data:= .fields #[.ref t,.int 0 0]}).push (Bq s.heap.objs.size)).push (B2 (s.heap.objs.size+1))}):
  wpAny (model prog w) A (call (.type "map") [.type "str",.ref t]) Q E s:=by
 refine callType_new Kn (by decide) (IG _ _) (JW _ _) (fun obj=>F.args_object_init_3 obj _ _) Hg (Hb t items) ⟨ht,?_⟩
 have e1:(s.heap.push {cls:= .type "tuple_iterator",data:= .fields #[.ref t,.int 0 0]}).objs.size=s.heap.objs.size+1:=Heap.size_push ..
 have e2:((s.heap.push {cls:= .type "tuple_iterator",data:= .fields #[.ref t,.int 0 0]}).push (Bq s.heap.objs.size)).objs.size=s.heap.objs.size+2:=by rw[Heap.size_push,e1]
 exact⟨⟨_,by
  have:=Heap.get?_push_size ((s.heap.push {cls:= .type "tuple_iterator",data:= .fields #[.ref t,.int 0 0]}).push (Bq s.heap.objs.size)) (o:=B2 (s.heap.objs.size+1)) rfl
  rw[e2] at this
  exact this,rfl⟩,h⟩
noncomputable def Et(n:Int):Str:=toString n
theorem RC:∀k:Nat,k<10→(Et (k:Int)).length=1:=by decide+kernel
theorem Oe{Mo TI it t:Addr}{x:Str}{tk n0:Nat}{items:Array Value}{ns:List Int}{Q:Value→Shared→Prop}(hh:A.handled=none)(hi:IntsAre items.toList ns)(hf:∀n∈ns,0≤n∧n<10)(hMi:Mo≠it)(hTi:TI≠it)(hti:t≠it)
  (hM:s.heap.get? Mo=some (B2 TI)) (hTI:s.heap.get? TI=some (Bq it)) (hit:s.heap.IsTupleIter it t 0) (ht:s.heap.get? t=some {cls:= .type "tuple",data:= .seq items n0}) (hn:ns.length≤100000) (hx:x.length≤64)
  (h:∀(h':Heap) (t' k:Nat),(∀b o,b≠it→s.heap.get? b=some o→h'.get? b=some o)→Q (.str (Txt.join x (ns.map Et)) t') {s with heap:=h',toks:=k}):
  wpAny (model prog w) A (call (.builtin "str.join") [.str x tk,.ref Mo]) Q E s:=by
 have small:∀n:Int,0≤n∧n<10→(Et n).length=1:=fun n hn=>by
  obtain⟨k,rfl⟩:=Int.eq_ofNat_of_zero_le hn.1
  exact RC k (Int.ofNat_lt.mp hn.2)
 refine Mr (Qm prog w (A:=A.in1.in1) (n0:=n0) hh hi (fun n hm=> ?_) hMi hTi hti) (fun i s st=>⟨_,st.1,rfl⟩) ⟨hM,hTI,hit,ht⟩ (fun b hb=> ?_) (by simp) (fun i v hv=>let⟨u,e⟩:=hv;⟨_,u,e⟩) (fun s' l hm hl=> ?_) (by rw[sizeLine_eq];exact AK [_] [] [.nl AA Bt] (.nl AA Aa) [1,1] rfl hn)
 ·have:=hf n hm
  have h2:n.natAbs<16:=ED this.1 (Int.lt_trans this.2 (by decide))
  by_cases hz:n.natAbs=0
  ·rw[hz];decide
  ·have:=(Nat.log2_lt hz).mpr (show n.natAbs<2^4 from h2)
   exact AK [_] [] [.nt AA k4] (.nt AA (.k 1920)) [1,1] rfl this
 ·simp only[List.mem_cons,List.mem_nil_iff,or_false] at hb
  rcases hb with rfl|rfl|rfl|rfl
  ·exact Heap.lt_size hM
  ·exact Heap.lt_size hTI
  ·obtain⟨o,ho,_⟩:=hit;exact Heap.lt_size ho
  ·exact Heap.lt_size ht
 ·have el:l.map (·.1)=ns.map Et:=by
   have hlen:l.length=ns.length:=by
    have:=hl.1
    simpa [strValues] using this
   refine List.ext_getElem (by simp[hlen]) fun i h1 h2=> ?_
   have hi1:i<l.length:=by simpa using h1
   obtain⟨u,hu⟩:=hl.2 i (.str l[i].1 l[i].2) (by simp[strValues,hi1])
   rw[List.getElem_map,List.getElem_map]
   have hi2:i<ns.length:=by exact AK [_,_,_] [] [.ne AT v1,.nt AA AT] (.nt AA v1) [1,1,1] rfl hlen hi1
   have hg:ns.getD i 0=ns[i]:=by rw[List.getD_eq_getElem?_getD,List.getElem?_eq_getElem hi2];rfl
   rw[hg] at hu
   injection hu with h1 h2
  rw[el]
  refine⟨joinOk_of ?_,fun t' k=> ?_⟩
  ·have hs:((ns.map Et).map (·.length)).sum≤ns.length:=by
    have:∀l:List Int,(∀n∈l,0≤n∧n<10)→((l.map Et).map (·.length)).sum≤l.length:=by
     intro l
     induction l with
     |nil=>intro _;simp
     |cons y r ih=>
      intro hq
      have h1:=small y (hq y (.head _))
      have h2:=ih fun n hn=>hq n (.tail _ hn)
      simp only[List.map_cons,List.sum_cons,List.length_cons]
      exact AK [_,_,_] [] [.ne AA AO,.nl v1 AT] (.nl (.a AA v1) (.a AT AO)) [1,1,1] rfl h1 h2
    exact this ns hf
   rw[List.length_map]
   have:ns.length*x.length≤100000*64:=Nat.mul_le_mul hn hx
   exact AK [_,_,_] [] [.nl AT Bt,.nl AA AT,.nl v1 (.m 100000 (.k 64))] (.nl (.a AA v1) Aa) [1,1,1,1] rfl hn hs this
  ·have:=h s'.heap t' k (fun b o hb e=>hm.heap b o (by simpa using hb) e)
   have e3:({s with heap:=s'.heap,toks:=k}:Shared)={s' with toks:=k}:=by
    obtain⟨hh',g',d',tk',os'⟩:=s'
    have h1:=hm.gens;have h2:=hm.drawn;have h3:=hm.os
    dsimp only at h1 h2 h3
    subst h1;subst h2;subst h3
    rfl
   rw[←e3]
   exact this
end
end
section
open NumText
theorem Mz{n:Nat}(h:n<2):digit? (48+n)=some n:=by
 have:n=0∨n=1:=by omega
 rcases this with rfl|rfl<;>rfl
theorem M5{n:Nat}(h:n<2):blank (48+n)=false:=by
 have:n=0∨n=1:=by omega
 rcases this with rfl|rfl<;>rfl
theorem GW:∀(ns:List Nat) (acc:Array Nat) (f:Bool),(∀n∈ns,n<2)→(ns.map (48+·)).foldlM (NumText.step 2) (acc,f)=some (acc++ns.toArray,f|| !ns.isEmpty)
 |[],acc,f,_=>by simp
 |n::r,acc,f,h=>by
  have hn:=h n (.head _)
  rw[List.map_cons,List.foldlM_cons]
  have e:NumText.step 2 (acc,f) (48+n)=some (acc.push n,true):=by
   unfold NumText.step
   rw[if_neg (by simp;exact fun q=>DF [_] [] [.ne (.a (.k 48) AA) (.k 95),.nt AA J9] [-1,1] rfl q hn),Mz hn]
   dsimp only
   rw[if_pos hn]
  rw[e]
  show(r.map (48+·)).foldlM (NumText.step 2) (acc.push n,true)=_
  rw[GW r _ _ fun n hm=>h n (.tail _ hm)]
  simp
theorem H3:∀(ns:List Nat),(∀n∈ns,n<2)→(ns.map (48+·)).dropWhile blank=ns.map (48+·)
 |[],_=>rfl
 |n::r,h=>by rw[List.map_cons,List.dropWhile_cons,M5 (h n (.head _))];rfl
theorem MO:∀(ns:List Nat),(∀n∈ns,n<2)→sign (ns.map (48+·))=(false,ns.map (48+·))
 |[],_=>rfl
 |n::r,h=>by
  have:n=0∨n=1:=by have:=h n (.head _);omega
  rcases this with rfl|rfl<;>rfl
theorem JM:∀(ns:List Nat),(∀n∈ns,n<2)→prefix? (ns.map (48+·))=none
 |[],_=>rfl
 |[n],h=>by
  have:n=0∨n=1:=by have:=h n (.head _);omega
  rcases this with rfl|rfl<;>rfl
 |n::k::r,h=>by
  have h1:n=0∨n=1:=by have:=h n (.head _);omega
  have h2:k=0∨k=1:=by have:=h k (.tail _ (.head _));omega
  rcases h1 with rfl|rfl<;>rcases h2 with rfl|rfl<;>rfl
noncomputable def Dg(ns:List Nat):Nat:=ns.foldl (fun acc d=>acc*2+d) 0
theorem MT{ns:List Nat}(hne:ns≠[])(h:∀n∈ns,n<2):(int_private%"readNumeral") 0 2 (ns.map (48+·))=(int_private%"Numeral.value") (Dg ns):=by
 rw[readNumeral_eq,H3 ns h,MO ns h]
 have hb:based 2 (ns.map (48+·))=(2,false,ns.map (48+·)):=by
  unfold based
  rw[JM ns h]
  rfl
 dsimp only
 rw[hb]
 dsimp only
 have hr:((ns.map (48+·)).reverse.dropWhile blank).reverse=ns.map (48+·):=by
  rw[←List.map_reverse,H3 ns.reverse fun n hn=>h n (by simpa using hn),←List.map_reverse,List.reverse_reverse]
 rw[hr]
 unfold digits?
 rw[GW ns _ _ h]
 have:(!ns.isEmpty)=true:=by cases ns with|nil=>exact absurd rfl hne|cons _ _=>rfl
 simp only[Option.bind_some,Bool.false_or,this,if_true]
 show judge 0 false 2 false (some (#[]++ns.toArray))=_
 unfold judge
 simp[Dg]
theorem HZ(a b:Value):checkTypeCall "int" ⟨[a,b],[]⟩=pure ():=by rw[PySem.W.Fast.te11612656972197000677];kernel_rfl
theorem IU(a b:Value):checkBuiltinCall "int.__new__" ⟨[.type "int",a,b],[]⟩=pure ():=by rw[PySem.W.Fast.te10254737850608025244];kernel_rfl
theorem NM{M:Model}{A:Around}{E:Value→Shared→Prop}{s:Shared}{Q:Value→Shared→Prop}{v:Value}{text:List Nat}{n:Int}
  (hs:(text.takeWhile (·!=0)).length≤640) (hr:(int_private%"readNumeral") 0 2 (text.takeWhile (·!=0))=(int_private%"Numeral.value") n)
  (ha:((text.takeWhile (·!=0)).length==text.length)=true) (h:Q (.int n s.toks) {s with toks:=s.toks+1}):
  wpAny M A ((int_private%"intFromText") v text 2) Q E s:=by
 obtain⟨hp,g,d,tk,os⟩:=s
 repeat(any_goals (first
  |assumption
  |(with_reducible refine wpAny_ite_true (decide_eq_true hs) ?_)
  |(with_reducible refine wpAny_ite_true (decide_eq_true ha) ?_)
  |wp_step))
 all_goals(try rw[hr])
 all_goals(try dsimp only)
 repeat(any_goals (first
  |assumption
  |(with_reducible refine wpAny_ite_true (decide_eq_true hs) ?_)
  |(with_reducible refine wpAny_ite_true (decide_eq_true ha) ?_)
  |wp_step))
noncomputable def BE(ns:List Nat):Str:=⟨(ns.map (48+·)).toArray⟩
theorem Kf{ns:List Nat}{u v:Nat}(hne:ns≠[])(hb:∀n∈ns,n<2)(hl:ns.length≤640):Gives (Builtin.«int.__new__» ⟨[.type "int",.str (BE ns) u,.int 2 v],[]⟩) (.int (Dg ns)):=
 .of_wp fun M A E s Q h=>by
  obtain⟨hp,g,d,tk,os⟩:=s
  have f1:=F.conv_sub_int
  have f2:=F.madeHere_int
  have f6:typeOf (.str (BE ns) u)=pure (.type "str"):=rfl
  have htw:∀l:List Nat,((l.map (48+·)).takeWhile (·!=0))=l.map (48+·):=by
   intro l
   induction l with
   |nil=>rfl
   |cons y r ih=>rw[List.map_cons,List.takeWhile_cons,if_pos (by simp),ih]
  have hall:(BE ns).cps.all (·<128)=true:=by
   rw[Array.all_eq_true']
   intro c hc
   have hc':c∈ns.map (48+·):=by simpa [BE] using hc
   obtain⟨n,hn,rfl⟩:=List.mem_map.mp hc'
   have:=hb n hn
   simp;exact AK [_] [] [.nt AA J9] (.nt (.a (.k 48) AA) CZ) [1,1] rfl this
  have ht:numTextOf (BE ns)=ns.map (48+·):=by
   unfold numTextOf
   rw[if_pos hall]
   simp[BE]
  have hk:((numTextOf (BE ns)).takeWhile (·!=0)).length≤640∧(int_private%"readNumeral") 0 2 ((numTextOf (BE ns)).takeWhile (·!=0))=(int_private%"Numeral.value") (Dg ns)∧(((numTextOf (BE ns)).takeWhile (·!=0)).length==(numTextOf (BE ns)).length)=true:=by
   rw[ht,htw]
   exact⟨by simpa using hl,MT hne hb,by simp⟩
  clear htw hall ht
  repeat(any_goals (first
   |assumption
   |((with_reducible show wpAny _ _ ((int_private%"intFromText") _ _ _) _ _ _);refine NM hk.1 hk.2.1 hk.2.2 ?_)
   |wp_step))
  all_goals exact⟨_,rfl,h⟩
section
variable{prog:Program}{w:World}{A:Around}{E:Value→Shared→Prop}{s:Shared}
theorem Oh{ns:List Nat}{u v:Nat}{Q:Value→Shared→Prop}(hne:ns≠[])(hb:∀n∈ns,n<2)(hl:ns.length≤640)(h:Q (.int (Dg ns) s.toks) {s with toks:=s.toks+1}):
  wpAny (model prog w) A (call (.type "int") [.str (BE ns) u,.int 2 v]) Q E s:=
 callType_new F.called_int F.newNe_int (HZ _ _) (IU _ _) (fun obj=>F.args_object_init_3 obj _ _) F.entry_int_new (Kf hne hb hl).meets (show(Made.int (Dg ns)).post _ s from⟨rfl,h⟩)
end
end
section
inductive Bm:List DictEntry→List (Str×Value)→Prop where
 |nil:Bm [] []
 |cons {h:Int} {x:Str} {t:Nat} {v:Value} {es:List DictEntry} {l:List (Str×Value)}:Bm es l→Bm (⟨h,.str x t,v⟩::es) ((x,v)::l)
theorem Bm.len{es:List DictEntry}{l:List (Str×Value)}(h:Bm es l):es.length=l.length:=by
 induction h with
 |nil=>rfl
 |cons _ ih=>exact congrArg (·+1) ih
inductive J6(es:List DictEntry)(l:List (Str×Value))(i:Nat):Prop
 |mk:∀h x t v,es[i]? =some ⟨h,.str x t,v⟩→l[i]? =some (x,v)→J6 es l i
theorem Bm.get{es:List DictEntry}{l:List (Str×Value)}{i:Nat}(h:Bm es l)(hi:i<es.length):J6 es l i:=by
 induction h generalizing i with
 |nil=>exact absurd hi (Nat.not_lt_zero _)
 | @cons h x t v es l r ih=>
  cases i with
  |zero=>exact⟨h,x,t,v,rfl,rfl⟩
  |succ i=>obtain⟨h,x,t,v,a,b⟩:=ih (Nat.lt_of_succ_lt_succ hi);exact⟨h,x,t,v,a,b⟩
theorem Bm.strs{es:List DictEntry}{l:List (Str×Value)}(h:Bm es l):es.all (fun e=>isExactStrKey e.key)=true:=by
 induction h with
 |nil=>rfl
 |cons _ ih=>exact ih
theorem Bm.take{es:List DictEntry}{l:List (Str×Value)}(i:Nat)(h:Bm es l):Bm (es.take i) (l.take i):=by
 induction h generalizing i with
 |nil=>cases i<;>exact .nil
 |cons _ ih=>cases i with
  |zero=>exact .nil
  |succ i=>exact .cons (ih i)
theorem Bm.fresh{es:List DictEntry}{l:List (Str×Value)}{x:Str}(h:Bm es l)(hx:x∉l.map (·.1)):es.findIdx? (fun e=>e.key.isStr x)=none:=by
 induction h with
 |nil=>rfl
 | @cons _ z t _ _ _ _ ih=>
  rw[List.map_cons,List.mem_cons,not_or] at hx
  rw[List.findIdx?_cons]
  have:(Value.str z t).isStr x=false:=beq_false_of_ne (Ne.symm hx.1)
  dsimp only
  rw[this,ih hx.2]
  rfl
section
variable{prog:Program}{w:World}{M:Model}{A:Around}{E:Value→Shared→Prop}{s:Shared}
theorem HD{d:Addr}{o:Obj}{es:List DictEntry}{ep:Nat}{l:List (Str×Value)}{x:Str}{t:Nat}{hh:Int}{Q:Option Nat→Shared→Prop}(ho:s.heap.get? d=some o)(hd:o.data= .dict es.toArray ep)(hn:Bm es l)(hx:x∉l.map (·.1))(h:Q none s):
  wpAny M A (dictFind d (.str x t) hh) Q E s:=by
 unfold dictFind
 refine wpAny_holding (wpAny_bind (wpAny_dictEntries ho hd ?_))
 dsimp only
 rw[if_pos (by rw[List.all_toArray];exact hn.strs)]
 unfold foundByValue
 have:es.toArray.findIdx? (fun e=>e.key.isStr x)=none:=by rw[List.findIdx?_toArray];exact hn.fresh hx
 rw[this]
 exact wpAny_pure h
theorem MU{d:Addr}{es:List DictEntry}{ep:Nat}{l:List (Str×Value)}{x:Str}{t:Nat}{hh:Int}{v:Value}{Q:Unit→Shared→Prop}(ho:s.heap.get? d=some (dictOf es ep))(hn:Bm es l)(hx:x∉l.map (·.1))(hz:es.length≤1000)
  (h:∀h':Heap,h'.get? d=some (dictOf (es++[⟨hh,.str x t,v⟩]) (ep+1))→Heap.SameBut d s.heap h'→Q () {s with heap:=h'}):
  wpAny M A (dictPut d hh (.str x t) v) Q E s:=by
 unfold dictPut
 refine wpAny_bind (HD ho rfl hn hx ?_)
 refine wpAny_updateDictKeys ho rfl (h _ ?_ (Heap.SameBut.update ..)) (by rw[List.size_toArray,sizeLine_eq];exact AK [_] [] [.nl AA A7] (.nl AA Aa) [1,1] rfl hz)
 rw[Heap.get?_update_self _ ho rfl]
 simp[Obj.mapDictKeys]
theorem Bm.novel{es:List DictEntry}{l:List (Str×Value)}{i:Nat}{h:Int}{x:Str}{t:Nat}{v:Value}(hn:Bm es l)(nd:(l.map (·.1)).Nodup)(e2:l[i]? =some (x,v)):x∉(l.take i).map (·.1):=by
 have hsplit:l=l.take i++(x,v)::l.drop (i+1):=by
  obtain⟨hi,hg⟩:=List.getElem?_eq_some_iff.mp e2
  rw[←hg,←List.drop_eq_getElem_cons hi,List.take_append_drop]
 rw[hsplit,List.map_append,List.nodup_append] at nd
 exact fun hm=>nd.2.2 x hm x (.head _) rfl
theorem Bm.loop{es:List DictEntry}{l:List (Str×Value)}(hn:Bm es l)(f:DictEntry→PUnit→Sem (ForInStep PUnit))(hf:∀h x t v,f ⟨h,.str x t,v⟩ PUnit.unit=pure (ForInStep.yield PUnit.unit)):forIn es.toArray PUnit.unit f=(pure PUnit.unit:Sem PUnit):=by
 rw[List.forIn_toArray]
 induction hn with
 |nil=>rfl
 |cons r ih=>rw[List.forIn_cons,hf];exact ih
inductive Pg(d:Addr)(es:List DictEntry)(s:Shared)(i:Nat)(s':Shared):Prop
 |mk:∀h',s'={s with heap:=h'}→h'.get? d=some (dictOf (es.take i) i)→Heap.SameBut d s.heap h'→Pg d es s i s'
theorem Ja{a d:Addr}{es:List DictEntry}{n:Nat}{l:List (Str×Value)}{Q:Unit→Shared→Prop}(ha:s.heap.get? a=some (dictOf es n))(hd:s.heap.get? d=some (dictOf [] 0))(had:a≠d)(hs:(a==sysModules)=false)(hn:Bm es l)(nd:(l.map (·.1)).Nodup)(hz:es.length≤1000)
  (h:∀h':Heap,h'.get? d=some (dictOf es es.length)→Heap.SameBut d s.heap h'→Q () {s with heap:=h'}):wpAny M A (mergeMapping d (.ref a) true) Q E s:=by
 have hT:s.TypeIs (.ref a) "dict":=⟨_,ha,rfl⟩
 refine wpAny_bind (wpAny_isInstance (T:="dict") (U:="dict") (b:=true) hT (by rw[isSubtype_type];kernel_rfl) ?_)
 refine wpAny_bind (wpAny_specialOf hT F.slot_dict_iter.lookup (wpAny_bind (wpAny_pure ?_)))
 refine CC (if_neg (show¬(a==sysModules)=true from by rw[hs];exact Bool.false_ne_true)) ?_
 refine wpAny_bind (wpAny_dictEntries hd rfl (wpAny_bind (wpAny_dictEntries ha rfl ?_)))
 refine wpAny_bind (CC (hn.loop _ fun _ _ _ _=>rfl) (wpAny_pure (wpAny_bind (wpAny_dictEntries ha rfl (wpAny_bind (wpAny_dictEpoch ha rfl (wpAny_bind ?_)))))))
 rw[List.range_eq_range']
 refine(Hs es.length (fun i _ s'=>Pg d es s i s') (fun i b s' hlt q=> ?_) (fun b s' q=> ?_) _ 0 _ s (Nat.zero_add _) ⟨s.heap,rfl,hd,Heap.SameBut.refl _ _⟩)
 ·obtain⟨h',rfl,hd',hs'⟩:=q
  obtain⟨hh,nm,t,v,e1,e2⟩:=hn.get hlt
  have ha':h'.get? a=some (dictOf es n):=hs'.extBut _ _ had ha
  have hnew:=hn.novel (h:=hh) (t:=t) nd e2
  refine wpAny_bind (wpAny_dictEntries ha' rfl ?_)
  rw[show es.toArray[i]? =some ⟨hh,.str nm t,v⟩ from List.getElem?_toArray.trans e1]
  refine wpAny_bind (wpAny_holding (wpAny_bind (HD hd' rfl (hn.take i) hnew ?_)))
  refine MU (ep:=i) hd' (hn.take i) hnew (Nat.le_trans (Nat.le_of_eq (List.length_take_of_le (Nat.le_of_lt hlt))) (Nat.le_trans (Nat.le_of_lt hlt) hz)) fun h2 hd2 hs2=> ?_
  refine wpAny_bind (wpAny_dictEpoch (hs2.extBut _ _ had ha') rfl ?_)
  refine CC (if_neg (by simp)) (wpAny_pure ⟨_,rfl,h2,rfl,?_,hs'.trans hs2⟩)
  rw[List.take_succ,e1]
  exact hd2
 ·obtain⟨h',rfl,hd',hs'⟩:=q
  rw[List.take_length] at hd'
  exact wpAny_pure (h h' hd' hs')
theorem Vq{f:Value}{d:Addr}{es:List DictEntry}{n:Nat}{l:List (Str×Value)}{Q:List (Str×Value)→Shared→Prop}(hd:s.heap.get? d=some (dictOf es n))(hn:Bm es l)(h:Q l s):wpAny M A (keywordsIn f d) Q E s:=by
 unfold keywordsIn
 refine wpAny_bind (wpAny_dictEntries hd rfl ?_)
 rw[List.forIn_toArray]
 refine wpAny_bind ?_
 have:∀(es:List DictEntry) (l acc:List (Str×Value)) (g:DictEntry→List (Str×Value)→Sem (ForInStep (List (Str×Value)))) (R:List (Str×Value)→Shared→Prop),(∀h x t v acc,g ⟨h,.str x t,v⟩ acc=pure (ForInStep.yield (acc++[(x,v)])))→Bm es l→R (acc++l) s→wpAny M A (forIn es acc g) R E s:=by
  intro es
  induction es with
  |nil=>intro l acc g R _ hn hR;cases hn;rw[List.forIn_nil];exact wpAny_pure (by simpa using hR)
  |cons e r ih=>
   intro l acc g R hg hn hR
   cases hn with
   |cons hn=>
    rw[List.forIn_cons,hg]
    refine wpAny_bind (wpAny_pure ?_)
    exact ih _ _ g R hg hn (by simpa using hR)
 exact this es l [] _ _ (fun _ _ _ _ _=>rfl) hn (wpAny_pure (by simpa using h))
theorem VY{f:Value}{args:List (Bool×Sem Value)}{ks:List (Option Str×Sem Value)}(hp:args.any (·.1)=false):evalArgs f true args ks=evalArgs f false args ks:=by
 rcases args with _|⟨⟨b,y⟩,_|⟨z,r⟩⟩
 ·rfl
 ·cases b with
  |true=>cases hp
  |false=>rfl
 ·cases b<;>rfl
theorem Js{f:Value}{args:List (Bool×Sem Value)}{x:Sem Value}{Q:Args→Shared→Prop}(hp:args.any (·.1)=false)
  (h:wpAny M A (spliced args) (fun vs s₁=>wpAny M A x (fun v s₂=>∃a es n l,v= .ref a∧s₂.heap.get? a=some (dictOf es n)∧a≠s₁.heap.objs.size∧s₂.heap.get? s₁.heap.objs.size=some (dictOf [] 0)∧(a==sysModules)=false∧Bm es l∧(l.map (·.1)).Nodup∧es.length≤1000∧
   ∀h':Heap,h'.get? s₁.heap.objs.size=some (dictOf es es.length)→Heap.SameBut s₁.heap.objs.size s₂.heap h'→Q ⟨vs,l⟩ {s₂ with heap:=h'})
   E {s₁ with heap:=s₁.heap.push (dictOf [] 0)}) E s):
  wpAny M A (evalArgs f true args [(none,x)]) Q E s:=by
 refine CC (VY hp) (wpAny_bind (m:=spliced _) (wpAny_mono h (fun vs s₁ h₁=>wpAny_bind (wpAny_pure (wpAny_holding ?_))) fun _ _ e=>e))
 refine CC (if_neg (by simp)) (wpAny_bind (m:=mergedKeywords _ _) (wpAny_bind (wpAny_alloc (wpAny_bind (wpAny_holding (wpAny_bind ?_))))))
 refine CC (List.forIn_cons _ _ _ _) (wpAny_bind (wpAny_bind (wpAny_pure (wpAny_bind (wpAny_mono h₁ (fun v s₂ h₂=> ?_) fun _ _ e=>e)))))
 obtain⟨a,es,n,l,rfl,ha,had,hd,hs,hn,nd,hz,hq⟩:=h₂
 exact wpAny_bind (wpAny_onRaise (wpAny_holding (wpAny_tryCatch (wpAny_onRaise (Ja ha hd had hs hn nd hz fun h' hd' hs'=>
  wpAny_pure (wpAny_pure (wpAny_pure (wpAny_pure (wpAny_bind (wpAny_pure (wpAny_bind (wpAny_holding (Vq hd' hn (wpAny_pure (hq h' hd' hs')))))))))))))))
end
end
section
section
inductive V where
 |none
 |bool (b:Bool)
 |int (i:Int)
 |str (s:Str)
 |bytes (b:List UInt8)
 |typ (n:String)
 |blt (n:String)
 |glob (a:Nat)
 |tup (l:List V)
 |lst (l:List V)
 |ti (l:List Int)
 |li (l:List Int)
 |rng (a b c:Int)
 |obj (i:Nat)
inductive AB where
 |inst (C:Nat) (attrs:List (Str×V))
 |list (l:List V)
 |dict (l:List (Str×V))
 |map (l:List Int)
 |dead
abbrev BK:=List (Addr×Obj)
abbrev I7:=List (Addr×Addr)
structure Lg where
 W:BK
 ρ:I7
structure Bs where
 g:Array GenState
 d:Drawn
 o:OsState
 z:BK
structure Gx where
 prog:Program
 w:World
 p:Program
 loose:List Str
 mg:Str→Option Value
 mb:Str→Option Value
structure Fx where
 base:Heap
 fs:List Env
 h₀:Heap
 L:Addr
 b:Bs
 μ:Str→Option Value
structure Nm where
 sc:Scope
 cl:List (Str×Addr)
 zc:BK
 μ:Str→Option Value
end
noncomputable def Gx.P(g:Gx):Params:=g.w.params
noncomputable def Gx.M(g:Gx):Model:=model g.prog g.w
noncomputable def Bs.withZ(b:Bs)(z:BK):Bs:=⟨b.g,b.d,b.o,z⟩
noncomputable def Fx.wz(f:Fx)(z:BK):Fx:=⟨f.base,f.fs,f.h₀,f.L,⟨f.b.g,f.b.d,f.b.o,z⟩,f.μ⟩
noncomputable def Fx.wμ(f:Fx)(z:BK)(μ:Str→Option Value):Fx:=⟨f.base,f.fs,f.h₀,f.L,⟨f.b.g,f.b.d,f.b.o,z⟩,μ⟩
noncomputable abbrev Ag(c:String)(vs:List Value)(n:Nat):Obj:={cls:= .type c,data:= .seq vs.toArray n}
noncomputable abbrev JK(a b c:Int)(t u v:Nat):Obj:={cls:= .type "range",data:= .fields #[.int a t,.int b u,.int c v]}
mutual
inductive VR(σ:Lg):V→Value→Prop where
 |none:VR σ .none .none
 |bool (b:Bool):VR σ (.bool b) (.bool b)
 |int (i:Int) (t:Nat):VR σ (.int i) (.int i t)
 |str (s:Str) (t:Nat):VR σ (.str s) (.str s t)
 |bytes (b:List UInt8) (t:Nat):VR σ (.bytes b) (.bytes b.toArray t)
 |typ (n:String):VR σ (.typ n) (.type n)
 |blt (n:String):VR σ (.blt n) (.builtin n)
 |glob (a:Nat):VR σ (.glob a) (.ref a)
 |ti {l:List Int} {a:Addr} {vs:List Value} {n:Nat}:(a,Ag "tuple" vs n)∈σ.W→IntsAre vs l→VR σ (.ti l) (.ref a)
 |li {l:List Int} {a:Addr} {vs:List Value} {n:Nat}:(a,Ag "list" vs n)∈σ.W→IntsAre vs l→VR σ (.li l) (.ref a)
 |rng {a b c:Int} {r:Addr} {t u v:Nat}:(r,JK a b c t u v)∈σ.W→VR σ (.rng a b c) (.ref r)
 |obj {i:Nat} {p:Addr×Addr}:σ.ρ[i]? =some p→VR σ (.obj i) (.ref p.1)
 |tup {l:List V} {a:Addr} {vs:List Value} {n:Nat}:(a,Ag "tuple" vs n)∈σ.W→BU σ l vs→VR σ (.tup l) (.ref a)
 |lst {l:List V} {a:Addr} {vs:List Value} {n:Nat}:(a,Ag "list" vs n)∈σ.W→BU σ l vs→VR σ (.lst l) (.ref a)
inductive BU(σ:Lg):List V→List Value→Prop where
 |nil:BU σ [] []
 |cons {v:V} {x:Value} {l:List V} {vs:List Value}:VR σ v x→BU σ l vs→BU σ (v::l) (x::vs)
end
inductive K7:Value→Prop|mk:K7 .none
inductive LF(b:Bool):Value→Prop|mk:LF b (.bool b)
inductive Pj(i:Int):Value→Prop|mk (t:Nat):Pj i (.int i t)
inductive PP(s:Str):Value→Prop|mk (t:Nat):PP s (.str s t)
inductive I0(b:List UInt8):Value→Prop|mk (t:Nat):I0 b (.bytes b.toArray t)
inductive Lx(n:String):Value→Prop|mk:Lx n (.type n)
inductive Pq(n:String):Value→Prop|mk:Pq n (.builtin n)
inductive LD(a:Nat):Value→Prop|mk:LD a (.ref a)
inductive DJ(σ:Lg)(c:String)(l:List Int):Value→Prop|mk {a:Addr} {vs:List Value} {n:Nat}:(a,Ag c vs n)∈σ.W→IntsAre vs l→DJ σ c l (.ref a)
inductive PW(σ:Lg)(a b c:Int):Value→Prop|mk {r:Addr} {t u v:Nat}:(r,JK a b c t u v)∈σ.W→PW σ a b c (.ref r)
inductive PY(σ:Lg)(i:Nat):Value→Prop|mk {p:Addr×Addr}:σ.ρ[i]? =some p→PY σ i (.ref p.1)
inductive F5(σ:Lg)(c:String)(l:List V):Value→Prop|mk {a:Addr} {vs:List Value} {n:Nat}:(a,Ag c vs n)∈σ.W→BU σ l vs→F5 σ c l (.ref a)
def s0(σ:Lg)(v:V):Value→Prop:=
 @V.casesOn (fun _=>Value→Prop) v K7 LF Pj PP I0 Lx Pq LD (F5 σ "tuple") (F5 σ "list") (DJ σ "tuple") (DJ σ "list") (PW σ) (PY σ)
theorem VR.inv{σ:Lg}{v:V}{y:Value}(r:VR σ v y):s0 σ v y:=
 @VR.casesOn σ (fun v y _=>s0 σ v y) v y r .mk (fun _=> .mk) (fun _=> .mk) (fun _=> .mk) (fun _=> .mk) (fun _=> .mk) (fun _=> .mk) (fun _=> .mk) .mk .mk .mk .mk .mk .mk
section
variable{σ:Lg}{y:Value}
theorem VR.noneI(r:VR σ .none y):K7 y:=r.inv
theorem VR.boolI{b:Bool}(r:VR σ (.bool b) y):LF b y:=r.inv
theorem VR.intI{i:Int}(r:VR σ (.int i) y):Pj i y:=r.inv
theorem VR.strI{s:Str}(r:VR σ (.str s) y):PP s y:=r.inv
theorem VR.bytesI{b:List UInt8}(r:VR σ (.bytes b) y):I0 b y:=r.inv
theorem VR.typI{n:String}(r:VR σ (.typ n) y):Lx n y:=r.inv
theorem VR.bltI{n:String}(r:VR σ (.blt n) y):Pq n y:=r.inv
theorem VR.globI{a:Nat}(r:VR σ (.glob a) y):LD a y:=r.inv
theorem VR.tiI{l:List Int}(r:VR σ (.ti l) y):DJ σ "tuple" l y:=r.inv
theorem VR.liI{l:List Int}(r:VR σ (.li l) y):DJ σ "list" l y:=r.inv
theorem VR.rngI{a b c:Int}(r:VR σ (.rng a b c) y):PW σ a b c y:=r.inv
theorem VR.objI{i:Nat}(r:VR σ (.obj i) y):PY σ i y:=r.inv
theorem VR.tupI{l:List V}(r:VR σ (.tup l) y):F5 σ "tuple" l y:=r.inv
theorem VR.lstI{l:List V}(r:VR σ (.lst l) y):F5 σ "list" l y:=r.inv
end
section
variable{σ:Lg}{u:Value}{G:Value→Prop}
@[elab_as_elim] theorem VR.gNone(r:VR σ .none u)(k:G .none):G u:=by cases r.noneI;exact k
@[elab_as_elim] theorem VR.gBool{b:Bool}(r:VR σ (.bool b) u)(k:G (.bool b)):G u:=by cases r.boolI;exact k
@[elab_as_elim] theorem VR.gInt{i:Int}(r:VR σ (.int i) u)(k:∀t,G (.int i t)):G u:=by cases r.intI;exact k _
@[elab_as_elim] theorem VR.gStr{x:Str}(r:VR σ (.str x) u)(k:∀t,G (.str x t)):G u:=by cases r.strI;exact k _
@[elab_as_elim] theorem VR.gBytes{b:List UInt8}(r:VR σ (.bytes b) u)(k:∀t,G (.bytes b.toArray t)):G u:=by cases r.bytesI;exact k _
@[elab_as_elim] theorem VR.gTyp{n:String}(r:VR σ (.typ n) u)(k:G (.type n)):G u:=by cases r.typI;exact k
@[elab_as_elim] theorem VR.gBlt{n:String}(r:VR σ (.blt n) u)(k:G (.builtin n)):G u:=by cases r.bltI;exact k
@[elab_as_elim] theorem VR.gGlob{a:Nat}(r:VR σ (.glob a) u)(k:G (.ref a)):G u:=by cases r.globI;exact k
@[elab_as_elim] theorem VR.gObj{i:Nat}(r:VR σ (.obj i) u)(k:∀p,σ.ρ[i]? =some p→G (.ref p.1)):G u:=by cases r.objI;exact k _ ‹_›
@[elab_as_elim] theorem DJ.g{c:String}{l:List Int}(r:DJ σ c l u)(k:∀a vs n,(a,Ag c vs n)∈σ.W→IntsAre vs l→G (.ref a)):G u:=by cases r;exact k _ _ _ ‹_› ‹_›
@[elab_as_elim] theorem F5.g{c:String}{l:List V}(r:F5 σ c l u)(k:∀a vs n,(a,Ag c vs n)∈σ.W→BU σ l vs→G (.ref a)):G u:=by cases r;exact k _ _ _ ‹_› ‹_›
@[elab_as_elim] theorem BU.g0{vals:List Value}{G:List Value→Prop}(r:BU σ [] vals)(k:G []):G vals:=by cases r;exact k
@[elab_as_elim] theorem BU.g1{v:V}{l:List V}{vals:List Value}{G:List Value→Prop}(r:BU σ (v::l) vals)(k:∀x vs,VR σ v x→BU σ l vs→G (x::vs)):G vals:=by cases r;exact k _ _ ‹_› ‹_›
end
theorem AM{α:Type}{x:α}{p:Prop}(h:none=some x):p:=nomatch h
theorem Bn{b:Bool}:(h:(!b)=true)→b=false:=by cases b;exact fun _=>rfl;exact fun h=>nomatch h
theorem BQ{p:Prop}(h:false=true):p:=nomatch h
theorem uf{G:Prop}(h:∀p:Prop,(G→p)→p):G:=h G id
structure Am(σ σ':Lg):Prop where
 w:∀p∈σ.W,p∈σ'.W
 r:∀(i:Nat) (p:Addr×Addr),σ.ρ[i]? =some p→σ'.ρ[i]? =some p
theorem Am.refl{σ:Lg}:Am σ σ:=⟨fun _ h=>h,fun _ _ h=>h⟩
theorem Am.trans{σ σ' σ'':Lg}(a:Am σ σ')(b:Am σ' σ''):Am σ σ'':=⟨fun p h=>b.w p (a.w p h),fun i p h=>b.r i p (a.r i p h)⟩
theorem VR.ext{σ σ':Lg}(h:Am σ σ'){v:V}{x:Value}(r:VR σ v x):VR σ' v x:=
 @VR.rec σ (fun v x _=>VR σ' v x) (fun l vs _=>BU σ' l vs) .none .bool .int .str .bytes .typ .blt .glob (fun hm i=> .ti (h.w _ hm) i) (fun hm i=> .li (h.w _ hm) i) (fun hm=> .rng (h.w _ hm)) (fun hi=> .obj (h.r _ _ hi))
  (fun hm _ ih=> .tup (h.w _ hm) ih) (fun hm _ ih=> .lst (h.w _ hm) ih) .nil (fun _ _ ih1 ih2=> .cons ih1 ih2) v x r
theorem BU.ext{σ σ':Lg}(h:Am σ σ'){l:List V}{vs:List Value}(r:BU σ l vs):BU σ' l vs:=by
 induction l generalizing vs with
 |nil=>cases r;exact .nil
 |cons v l ih=>cases r with|cons a b=>exact .cons (a.ext h) (ih b)
abbrev AU:=List (Str×V)
noncomputable def AP(m:AU)(x:Str):Option V:=match m with
 |[]=>none
 |(y,v)::r=>if y=x then some v else AP r x
structure A2(N:Nm)(σ:Lg)(m:AU):Prop where
 loc:∀x v,AP m x=some v→(N.sc.names.lookup x=some .local→∃y,N.μ x=some y∧VR σ v y)∧
  (N.sc.names.lookup x=some .cell∨N.sc.names.lookup x=some .free→∃a o y,N.cl.lookup x=some a∧(a,o)∈N.zc∧o.data= .cell (some y)∧VR σ v y)
 cel:∀x,N.sc.names.lookup x=some .cell→∃a o v,N.cl.lookup x=some a∧(a,o)∈N.zc∧o.data= .cell v
 inj:∀x y a,N.cl.lookup x=some a→N.cl.lookup y=some a→x=y
theorem A2.ext{N:Nm}{σ σ':Lg}(h:Am σ σ'){m:AU}(r:A2 N σ m):A2 N σ' m:=
 ⟨fun x v e=>⟨fun k=>let⟨y,a,b⟩:=(r.loc x v e).1 k;⟨y,a,b.ext h⟩,fun k=>let⟨a,o,y,h1,h2,h3,b⟩:=(r.loc x v e).2 k;⟨a,o,y,h1,h2,h3,b.ext h⟩⟩,r.cel,r.inj⟩
inductive Dk(g:Gx)(σ:Lg):List (Str×V)→List DictEntry→Prop where
 |nil:Dk g σ [] []
 |cons {x:Str} {v:V} {l:List (Str×V)} {t:Nat} {y:Value} {es:List DictEntry}:VR σ v y→Dk g σ l es→Dk g σ ((x,v)::l) (⟨PyData.keyHash g.w.params x,.str x t,y⟩::es)
inductive BZ(g:Gx)(σ:Lg):AB→Addr×Addr→BK→Prop where
 |inst {C:Nat} {at_:List (Str×V)} {x d:Addr} {es:List DictEntry} {n:Nat}:Dk g σ at_ es→BZ g σ (.inst C at_) (x,d) [(x,instObj C d),(d,dictOf es n)]
 |list {l:List V} {a:Addr} {vs:List Value} {n:Nat}:BU σ l vs→BZ g σ (.list l) (a,a) [(a,Ag "list" vs n)]
 |dict {l:List (Str×V)} {a:Addr} {es:List DictEntry} {n:Nat}:Dk g σ l es→BZ g σ (.dict l) (a,a) [(a,dictOf es n)]
 |map {l:List Int} {t:Addr} {vs:List Value} {n:Nat} {Mo TI it:Addr}:(t,Ag "tuple" vs n)∈σ.W→IntsAre vs l→BZ g σ (.map l) (Mo,Mo) [(Mo,B2 TI),(TI,Bq it),(it,E1 t 0)]
 |dead {p:Addr×Addr}:BZ g σ .dead p []
inductive Ah(g:Gx)(σ:Lg):List AB→I7→BK→Prop where
 |nil:Ah g σ [] [] []
 |cons {c:AB} {p:Addr×Addr} {o:BK} {C:List AB} {as:I7} {os:BK}:BZ g σ c p o→Ah g σ C as os→Ah g σ (c::C) (p::as) (o++os)
structure Ey(g:Gx)(b:Bs)(C:List AB)(σ:Lg)(os:BK)(s:Shared):Prop where
 c:Ah g σ C σ.ρ os
 nd:((os++(b.z++σ.W)).map (·.1)).Nodup
 g:s.gens=b.g
 d:s.drawn=b.d
 o:s.os=b.o
inductive St(g:Gx)(f:Fx)(C:List AB)(σ:Lg)(s:Shared):Prop where
 |mk:∀os,Fr f.h₀ f.L s.heap f.μ→News f.h₀ f.L s.heap (os++(f.b.z++σ.W))→Ey g f.b C σ os s→St g f C σ s
theorem Dk.ext{g:Gx}{σ σ':Lg}(h:Am σ σ'){l:List (Str×V)}{es:List DictEntry}(r:Dk g σ l es):Dk g σ' l es:=by
 induction r with
 |nil=>exact .nil
 |cons a _ ih=>exact .cons (a.ext h) ih
theorem BZ.ext{g:Gx}{σ σ':Lg}(h:Am σ σ'){c:AB}{p:Addr×Addr}{o:BK}(r:BZ g σ c p o):BZ g σ' c p o:=by
 induction r with
 |inst a=>exact .inst (a.ext h)
 |list a=>exact .list (a.ext h)
 |dict a=>exact .dict (a.ext h)
 |map hm hi=>exact .map (h.w _ hm) hi
 |dead=>exact .dead
theorem Ah.ext{g:Gx}{σ σ':Lg}(h:Am σ σ'){C:List AB}{as:I7}{os:BK}(r:Ah g σ C as os):Ah g σ' C as os:=by
 induction r with
 |nil=>exact .nil
 |cons a _ ih=>exact .cons (a.ext h) ih
section
variable{g:Gx}{f:Fx}{s:Shared}{C:List AB}{σ:Lg}
theorem St.F(S:St g f C σ s):Fr f.h₀ f.L s.heap f.μ:=by cases S with|mk _ a _ _=>exact a
theorem St.toks(S:St g f C σ s)(n:Nat):St g f C σ {s with toks:=n}:=by
 cases S with|mk os F N c=>exact⟨os,F,N,c.c,c.nd,c.g,c.d,c.o⟩
theorem A0{l l':BK}(h:(l.map (·.1)).Nodup)(p:l.Perm l'):(l'.map (·.1)).Nodup:=(p.map (·.1)).nodup_iff.mp h
theorem BO{h₀ h:Heap}{L:Addr}{l l':BK}(N:News h₀ L h l)(p:l.Perm l'):News h₀ L h l':=fun x hx=>N x (p.mem_iff.mpr hx)
theorem nodup_cons{l:BK}{p:Addr×Obj}(h:(l.map (·.1)).Nodup)(hp:∀q∈l,q.1≠p.1):((p::l).map (·.1)).Nodup:=
 List.nodup_cons.mpr ⟨fun q=>let⟨r,hr,e⟩:=List.mem_map.mp q;hp r hr e,h⟩
theorem St.push{os:BK}(c:Ey g f.b C σ os s){h':Heap}{D:Addr}{ob:Obj}(F':Fr f.h₀ f.L h' f.μ)(hN:News f.h₀ f.L h' ((D,ob)::(os++(f.b.z++σ.W))))(hD:∀p∈os++(f.b.z++σ.W),p.1≠D):
  St g f C ⟨(D,ob)::σ.W,σ.ρ⟩ {s with heap:=h'}:=
 have pm:((D,ob)::(os++(f.b.z++σ.W))).Perm (os++(f.b.z++(D,ob)::σ.W)):=
  List.perm_middle.symm.trans (List.Perm.append_left os List.perm_middle.symm)
 ⟨os,F',BO hN pm,c.c.ext (σ':=⟨(D,ob)::σ.W,σ.ρ⟩) ⟨fun _ h=> .tail _ h,fun _ _ h=>h⟩,A0 (nodup_cons c.nd hD) pm,c.g,c.d,c.o⟩
theorem Am.push{p:Addr×Obj}:Am σ ⟨p::σ.W,σ.ρ⟩:=⟨fun _ h=> .tail _ h,fun _ _ h=>h⟩
theorem St.zpush{os:BK}(c:Ey g f.b C σ os s){h':Heap}{D:Addr}{ob:Obj}(F':Fr f.h₀ f.L h' f.μ)(hN:News f.h₀ f.L h' ((D,ob)::(os++(f.b.z++σ.W))))(hD:∀p∈os++(f.b.z++σ.W),p.1≠D):
  St g (f.wz ((D,ob)::f.b.z)) C σ {s with heap:=h'}:=
 ⟨os,F',BO hN List.perm_middle.symm,c.c,A0 (nodup_cons c.nd hD) List.perm_middle.symm,c.g,c.d,c.o⟩
theorem St.zdrop{z:BK}{p:Addr×Obj}(S:St g (f.wz (p::z)) C σ s):St g (f.wz z) C σ s:=by
 cases S with|mk os F N c=>exact⟨os,F,fun q hq=>BO N List.perm_middle q (.tail _ hq),c.c,(List.nodup_cons.mp (A0 c.nd List.perm_middle)).2,c.g,c.d,c.o⟩
theorem St.zmem{p:Addr×Obj}(S:St g f C σ s)(h:p∈f.b.z):s.heap.get? p.1=some p.2∧p.1≠f.L∧f.h₀.get? p.1=none:=by
 cases S with|mk os F N c=>exact N p (List.mem_append_right _ (List.mem_append_left _ h))
theorem St.wmem{p:Addr×Obj}(S:St g f C σ s)(h:p∈σ.W):s.heap.get? p.1=some p.2∧p.1≠f.L∧f.h₀.get? p.1=none:=by
 cases S with|mk os F N c=>exact N p (List.mem_append_right _ (List.mem_append_right _ h))
theorem JV{h₀ h h':Heap}{L c:Addr}{o o':Obj}{l:BK}{μ:Str→Option Value}(F:Fr h₀ L h μ)(N:News h₀ L h ((c,o)::l))(nd:(((c,o)::l).map (·.1)).Nodup)(hs:Heap.SameBut c h h')(ho:h'.get? c=some o'):
  Fr h₀ L h' μ∧News h₀ L h' ((c,o')::l):=by
 have hm:=N (c,o) (.head _)
 refine⟨⟨F.ns.sameBut hs (Ne.symm hm.2.1),fun b ob e=> ?_,F.above⟩,N.setHead (fun p hp e=>(List.nodup_cons.mp nd).1 (mM ⟨p,hp,e⟩)) hs ho⟩
 refine(hs.2 b fun q=> ?_).trans (F.keep b ob e)
 rw[q,hm.2.2] at e;cases e
theorem St.zset{z:BK}{c:Addr}{o o':Obj}{h':Heap}{k:Nat}(S:St g (f.wz ((c,o)::z)) C σ s)(hs:Heap.SameBut c s.heap h')(ho:h'.get? c=some o'):St g (f.wz ((c,o')::z)) C σ {s with heap:=h',toks:=k}:=by
 cases S with|mk os F N q=>
 have pm:∀o,(os++((c,o)::z++σ.W)).Perm ((c,o)::(os++(z++σ.W))):=fun o=>List.perm_middle
 obtain⟨F',N'⟩:=JV F (BO N (pm o)) (A0 q.nd (pm o)) hs ho
 exact⟨os,F',BO N' (pm o').symm,q.c,A0 (l:=(c,o')::(os++(z++σ.W))) (show(((c,o)::(os++(z++σ.W))).map (·.1)).Nodup from A0 q.nd (pm o)) (pm o').symm,q.g,q.d,q.o⟩
theorem St.zperm{z z':BK}(S:St g (f.wz z) C σ s)(p:z.Perm z'):St g (f.wz z') C σ s:=by
 cases S with|mk os F N c=>
 have pm:(os++(z++σ.W)).Perm (os++(z'++σ.W)):=(p.append_right σ.W).append_left os
 exact⟨os,F,BO N pm,c.c,A0 c.nd pm,c.g,c.d,c.o⟩
theorem Ah.len{C:List AB}{as:I7}{os:BK}(r:Ah g σ C as os):as.length=C.length:=by
 induction r with
 |nil=>rfl
 |cons _ _ ih=>exact congrArg (·+1) ih
theorem Ah.snoc{c:AB}{p:Addr×Addr}{o:BK}(r:BZ g σ c p o){C:List AB}{as:I7}{os:BK}(h:Ah g σ C as os):Ah g σ (C++[c]) (as++[p]) (os++o):=by
 induction h with
 |nil=>have:=Ah.cons r .nil;rwa [List.append_nil] at this
 |cons a _ ih=>rw[List.append_assoc];exact .cons a ih
theorem Am.snoc{p:Addr×Addr}{W:BK}{ρ:I7}:Am ⟨W,ρ⟩ ⟨W,ρ++[p]⟩:=⟨fun _ h=>h,fun i q h=>(List.getElem?_append_left (List.getElem?_eq_some_iff.mp h).1).trans h⟩
theorem St.grow{c:AB}{p:Addr×Addr}{o:BK}(hr:BZ g ⟨σ.W,σ.ρ++[p]⟩ c p o){os:BK}(k:Ey g f.b C σ os s){h':Heap}(F':Fr f.h₀ f.L h' f.μ)(hN:News f.h₀ f.L h' (o++(os++(f.b.z++σ.W))))(nd:((o++(os++(f.b.z++σ.W))).map (·.1)).Nodup):
  St g f (C++[c]) ⟨σ.W,σ.ρ++[p]⟩ {s with heap:=h'}:=
 have pm:(o++(os++(f.b.z++σ.W))).Perm ((os++o)++(f.b.z++σ.W)):=(List.perm_append_comm_assoc ..).trans (List.Perm.of_eq (List.append_assoc ..).symm)
 ⟨os++o,F',BO hN pm,Ah.snoc hr (k.c.ext Am.snoc),A0 nd pm,k.g,k.d,k.o⟩
end
end
section
noncomputable def JA(x:Value):Option V:=@Value.casesOn (fun _=>Option V) x (some .none) none none (fun b=>some (.bool b)) (fun i _=>some (.int i)) (fun _ _=>none) (fun s _=>some (.str s)) (fun b _=>some (.bytes b.toList)) (fun n=>some (.typ n)) (fun n=>some (.blt n)) (fun a=>some (.glob a))
theorem GU{σ:Lg}{x:Value}{v:V}:(h:JA x=some v)→VR σ v x:=by
 cases x with
 |bytes b t=>exact fun h=>oJ h▸(by have:=VR.bytes (σ:=σ) b.toList t;rw[Array.toArray_toList] at this;exact this)
 |_=>first|exact AM|exact fun h=>oJ h▸by constructor
abbrev VQ:=V→List AB→Prop
def Ad(b:Bool)(p q:Prop):Prop:=@Bool.rec (fun _=>Prop) q p b
theorem Ad.t{p q:Prop}(h:Ad true p q):p:=h
theorem Ad.f{p q:Prop}(h:Ad false p q):q:=h
theorem Ad.mk{b:Bool}{p q:Prop}(h:b=true→p)(k:b=false→q):Ad b p q:=by cases b<;>first|exact h rfl|exact k rfl
theorem ifT{b:Bool}{p q:Prop}(h:b=true)(k:p):Ad b p q:=h▸k
theorem ifF{b:Bool}{p q:Prop}(h:b=false)(k:q):Ad b p q:=h▸k
theorem cT{p q:Prop}[Decidable p](h:¬p)(k:decide p=true):q:=(h (of_decide_eq_true k)).elim
theorem cF{p q:Prop}[Decidable p](h:p)(k:decide p=false):q:=(of_decide_eq_false k h).elim
def AD(b:Bool)(p:Prop):Prop:=match b with|true=>p|false=>False
theorem AD.ok{b:Bool}{p:Prop}(h:AD b p):b=true∧p:=by
 cases b
 ·exact h.elim
 ·exact⟨rfl,h⟩
def AF{α:Type}(o:Option α)(Q:α→Prop):Prop:=match o with|some v=>Q v|none=>False
inductive tQ{α:Type}(o:Option α)(Q:α→Prop):Prop
 |mk:∀v,o=some v→Q v→tQ o Q
theorem AF.ok{α:Type}{o:Option α}{Q:α→Prop}(h:AF o Q):tQ o Q:=by
 cases o with
 |none=>exact h.elim
 |some v=>exact⟨v,rfl,h⟩
def Au{α:Type}(o:Option α)(Q:α→Prop)(e:Prop):Prop:=match o with|some v=>Q v|none=>e
inductive WY{α:Type}(o:Option α)(Q:α→Prop)(e:Prop):Prop
 |y:∀v,o=some v→Q v→WY o Q e
 |n:e→WY o Q e
theorem Au.ok{α:Type}{o:Option α}{Q:α→Prop}{e:Prop}(h:Au o Q e):WY o Q e:=by
 cases o with
 |none=>exact .n h
 |some v=>exact .y v rfl h
noncomputable def AX(v:V):Option Int:=@V.casesOn (fun _=>Option Int) v none (fun _=>none) (fun x=>some x) (fun _=>none) (fun _=>none) (fun _=>none) (fun _=>none) (fun _=>none) (fun _=>none) (fun _=>none) (fun _=>none) (fun _=>none) (fun _ _ _=>none) (fun _=>none)
theorem AX.ok{v:V}{x:Int}:(h:AX v=some x)→v= .int x:=by cases v<;>first|exact AM|exact fun h=>congrArg V.int (oJ h)
noncomputable def BF(v:V):Option (List UInt8):=@V.casesOn (fun _=>Option (List UInt8)) v none (fun _=>none) (fun _=>none) (fun _=>none) (fun x=>some x) (fun _=>none) (fun _=>none) (fun _=>none) (fun _=>none) (fun _=>none) (fun _=>none) (fun _=>none) (fun _ _ _=>none) (fun _=>none)
theorem BF.ok{v:V}{x:(List UInt8)}:(h:BF v=some x)→v= .bytes x:=by cases v<;>first|exact AM|exact fun h=>congrArg V.bytes (oJ h)
noncomputable def Bl(v:V):Option Str:=@V.casesOn (fun _=>Option Str) v none (fun _=>none) (fun _=>none) (fun x=>some x) (fun _=>none) (fun _=>none) (fun _=>none) (fun _=>none) (fun _=>none) (fun _=>none) (fun _=>none) (fun _=>none) (fun _ _ _=>none) (fun _=>none)
theorem Bl.ok{v:V}{x:Str}:(h:Bl v=some x)→v= .str x:=by cases v<;>first|exact AM|exact fun h=>congrArg V.str (oJ h)
noncomputable def asLi(v:V):Option (List Int):=@V.casesOn (fun _=>Option (List Int)) v none (fun _=>none) (fun _=>none) (fun _=>none) (fun _=>none) (fun _=>none) (fun _=>none) (fun _=>none) (fun _=>none) (fun _=>none) (fun _=>none) (fun x=>some x) (fun _ _ _=>none) (fun _=>none)
theorem asLi.ok{v:V}{x:(List Int)}:(h:asLi v=some x)→v= .li x:=by cases v<;>first|exact AM|exact fun h=>congrArg V.li (oJ h)
noncomputable def asTi(v:V):Option (List Int):=@V.casesOn (fun _=>Option (List Int)) v none (fun _=>none) (fun _=>none) (fun _=>none) (fun _=>none) (fun _=>none) (fun _=>none) (fun _=>none) (fun _=>none) (fun _=>none) (fun x=>some x) (fun _=>none) (fun _ _ _=>none) (fun _=>none)
theorem asTi.ok{v:V}{x:(List Int)}:(h:asTi v=some x)→v= .ti x:=by cases v<;>first|exact AM|exact fun h=>congrArg V.ti (oJ h)
noncomputable def asLst(v:V):Option (List V):=@V.casesOn (fun _=>Option (List V)) v none (fun _=>none) (fun _=>none) (fun _=>none) (fun _=>none) (fun _=>none) (fun _=>none) (fun _=>none) (fun _=>none) (fun x=>some x) (fun _=>none) (fun _=>none) (fun _ _ _=>none) (fun _=>none)
theorem asLst.ok{v:V}{x:(List V)}:(h:asLst v=some x)→v= .lst x:=by cases v<;>first|exact AM|exact fun h=>congrArg V.lst (oJ h)
noncomputable def asTyp(v:V):Option String:=@V.casesOn (fun _=>Option String) v none (fun _=>none) (fun _=>none) (fun _=>none) (fun _=>none) (fun x=>some x) (fun _=>none) (fun _=>none) (fun _=>none) (fun _=>none) (fun _=>none) (fun _=>none) (fun _ _ _=>none) (fun _=>none)
theorem asTyp.ok{v:V}{x:String}:(h:asTyp v=some x)→v= .typ x:=by cases v<;>first|exact AM|exact fun h=>congrArg V.typ (oJ h)
theorem VR.gI{σ:Lg}{v:V}{u:Value}{x:Int}{G:Value→Prop}(r:VR σ v u)(h:AX v=some x)(k:∀t,G (.int x t)):G u:=by
 rw[AX.ok h] at r
 cases r.intI
 exact k _
theorem VR.gB{σ:Lg}{v:V}{u:Value}{x:(List UInt8)}{G:Value→Prop}(r:VR σ v u)(h:BF v=some x)(k:∀t,G (.bytes x.toArray t)):G u:=by
 rw[BF.ok h] at r
 cases r.bytesI
 exact k _
theorem VR.gS{σ:Lg}{v:V}{u:Value}{x:Str}{G:Value→Prop}(r:VR σ v u)(h:Bl v=some x)(k:∀t,G (.str x t)):G u:=by
 rw[Bl.ok h] at r
 cases r.strI
 exact k _
noncomputable def Cs(v:V):Option Nat:=@V.casesOn (fun _=>Option Nat) v none (fun _=>none) (fun _=>none) (fun _=>none) (fun _=>none) (fun _=>none) (fun _=>none) (fun _=>none) (fun _=>none) (fun _=>none) (fun _=>none) (fun _=>none) (fun _ _ _=>none) (fun x=>some x)
theorem Cs.ok{v:V}{x:Nat}:(h:Cs v=some x)→v= .obj x:=by cases v<;>first|exact AM|exact fun h=>congrArg V.obj (oJ h)
noncomputable def Io(v:V):Option Nat:=@V.casesOn (fun _=>Option Nat) v none (fun _=>none) (fun _=>none) (fun _=>none) (fun _=>none) (fun _=>none) (fun _=>none) (fun x=>some x) (fun _=>none) (fun _=>none) (fun _=>none) (fun _=>none) (fun _ _ _=>none) (fun _=>none)
theorem Io.ok{v:V}{x:Nat}:(h:Io v=some x)→v= .glob x:=by cases v<;>first|exact AM|exact fun h=>congrArg V.glob (oJ h)
noncomputable def Fn(v:V):Option Bool:=@V.casesOn (fun _=>Option Bool) v none (fun x=>some x) (fun _=>none) (fun _=>none) (fun _=>none) (fun _=>none) (fun _=>none) (fun _=>none) (fun _=>none) (fun _=>none) (fun _=>none) (fun _=>none) (fun _ _ _=>none) (fun _=>none)
theorem Fn.ok{v:V}{x:Bool}:(h:Fn v=some x)→v= .bool x:=by cases v<;>first|exact AM|exact fun h=>congrArg V.bool (oJ h)
def v2{α β:Type}(f:V→Option α)(g:V→Option β)(a b:V)(Q:α→β→Prop):Prop:=AF (f a) fun x=>AF (g b) fun y=>Q x y
inductive zp{α β:Type}(f:V→Option α)(g:V→Option β)(a b:V)(Q:α→β→Prop):Prop
 |mk:∀x y,f a=some x→g b=some y→Q x y→zp f g a b Q
theorem v2.ok{α β:Type}{f:V→Option α}{g:V→Option β}{a b:V}{Q:α→β→Prop}(h:v2 f g a b Q):zp f g a b Q:=by
 obtain⟨x,hx,h⟩:=AF.ok h
 obtain⟨y,hy,h⟩:=AF.ok h
 exact⟨x,y,hx,hy,h⟩
noncomputable def BH:List V→Option (List Int)
 |[]=>some []
 |v::r=>(match AX v with|some i=>(match BH r with|some l=>some (i::l)|none=>none)|none=>none)
theorem BH.cons{v:V}{r:List V}{is:List Int}(h:BH (v::r)=some is):∃i l,v= .int i∧BH r=some l∧is=i::l:=by
 unfold BH at h
 cases ha:AX v with
 |none=>rw[ha] at h;exact AM h
 |some i=>
  rw[ha] at h
  cases q:BH r with
  |none=>rw[q] at h;exact AM h
  |some l=>rw[q] at h;exact⟨i,l,AX.ok ha,rfl,(oJ h).symm⟩
noncomputable def Ld(l:List V):V:=match BH l with|some is=> .li is|none=> .lst l
noncomputable def Qk(l:List V):V:=match BH l with|some is=> .ti is|none=> .tup l
noncomputable def Ni(a b c:Int):List Int:=(List.range (Builtin.Range.rangeSize a b c).toNat).map fun i:Nat=>a+i*c
noncomputable def G2(C:List AB):V→Option (List V)
 | .tup l=>some l
 | .lst l=>some l
 | .ti l=>some (l.map .int)
 | .li l=>some (l.map .int)
 | .bytes b=>some (b.map fun c=> .int c.toNat)
 | .rng a b c=>some ((Ni a b c).map .int)
 | .obj i=>(match C[i]? with|some (.list l)=>some l|_=>none)
 |_=>none
noncomputable def Fz(C:List AB):V→Option (List V)
 | .lst l=>some l
 | .li l=>some (l.map .int)
 | .obj i=>(match C[i]? with|some (.list l)=>some l|_=>none)
 |_=>none
noncomputable def BW{α:Type}(l:List α)(lo hi:Option Int):List α:=(l.drop (lo.elim 0 (clipAt l.length))).take (hi.elim l.length (clipAt l.length) - lo.elim 0 (clipAt l.length))
noncomputable def Ft:V→Option (Option Int)
 | .none=>some none
 | .int i=>some (some i)
 |_=>none
noncomputable def CJ:List V→Option (List (List UInt8))
 |[]=>some []
 |v::r=>(match BF v with|some b=>(match CJ r with|some l=>some (b::l)|none=>none)|none=>none)
theorem CJ.cons{v:V}{r:List V}{bs:List (List UInt8)}(h:CJ (v::r)=some bs):∃i l,v= .bytes i∧CJ r=some l∧bs=i::l:=by
 unfold CJ at h
 cases ha:BF v with
 |none=>rw[ha] at h;exact AM h
 |some i=>
  rw[ha] at h
  cases q:CJ r with
  |none=>rw[q] at h;exact AM h
  |some l=>rw[q] at h;exact⟨i,l,BF.ok ha,rfl,(oJ h).symm⟩
def Pn(f:Str)(n:Int)(T:Str):Prop:=n.natAbs.log2<1920∧∀t u,PySem.Meets (Builtin.«str.__mod__» ⟨[.str f t,.int n u],[]⟩) (fun _ R s=>∀t' k,R (.ok (.ret (.str T t'))) {s with toks:=k})
def NR(op:Operator)(a b:V)(Q:V→Prop):Prop:=match op with
 | .Add=>Au (AX a) (fun a=>AF (AX b) fun b=>Q (.int (a+b)))<|
   Au (BF a) (fun a=>AF (BF b) fun b=>a.length+b.length≤16777216∧Q (.bytes (a++b)))<|
   Au (asLi a) (fun a=>AF (asLi b) fun b=>a.length+b.length≤1000000∧Q (.li (a++b)))<|
   Au (asLst a) (fun a=>AF (asLst b) fun b=>a.length+b.length≤1000000∧Q (.lst (a++b)))<|
   v2 Bl Bl a b fun a b=>a.length+b.length≤1000000∧Q (.str (a++b))
 | .Sub=>v2 AX AX a b fun a b=>Q (.int (a - b))
 | .BitAnd=>v2 AX AX a b fun a b=>Q (.int (Builtin.bitAnd a b))
 | .BitOr=>v2 AX AX a b fun a b=>Q (.int (Builtin.bitOr a b))
 | .Mod=>Au (Bl a) (fun f=>AF (AX b) fun n=>∃T,Pn f n T∧Q (.str T))<|
   v2 AX AX a b fun a b=>b≠0∧Q (.int (a.fmod b))
 | .FloorDiv=>v2 AX AX a b fun a b=>b≠0∧(b.natAbs<2^30)∧Q (.int (a.fdiv b))
 | .RShift=>v2 AX AX a b fun a b=>0≤b∧Q (.int (a.fdiv (2^b.toNat)))
 | .LShift=>v2 AX AX a b fun a b=>0≤b∧(Builtin.Int.intBits a:Int)+b≤2^27∧Q (.int (a*2^b.toNat))
 | .Mult=>Au (AX a) (fun a=>AF (AX b) fun b=>IntMulOk a b∧Q (.int (a*b)))<|
   Au (asLi a) (fun a=>AF (AX b) fun n=>0≤n∧a.length*n.toNat≤1000000∧n≤1000000∧Q (.li (List.replicate n.toNat a).flatten))<|
   Au (Bl a) (fun a=>AF (AX b) fun n=>a.length≤16∧ -1000≤n∧n≤1000∧Q (.str (Txt.mul a n)))<|
   Au (asTi a) (fun a=>AF (AX b) fun n=>a≠[]∧a.length≤1000∧0≤n∧n≤1000∧Q (.ti (List.replicate n.toNat a).flatten))<|
   v2 BF AX a b fun b n=>b≠[]∧ -1048576≤n∧n≤1048576∧b.length≤16∧Q (.bytes (List.replicate n.toNat b).flatten)
 | .MatMult| .Div| .Pow| .BitXor=>False
def R6(op:Operator)(a b:V)(Q:V→Prop):Prop:=match op with
 | .Add=>Au (AX a) (fun a=>AF (AX b) fun b=>Q (.int (a+b)))<|
   Au (BF a) (fun a=>AF (BF b) fun b=>a.length+b.length≤16777216∧Q (.bytes (a++b)))<|
   v2 Bl Bl a b fun a b=>a.length+b.length≤1000000∧Q (.str (a++b))
 | .Sub=>v2 AX AX a b fun a b=>Q (.int (a - b))
 | .BitAnd=>v2 AX AX a b fun a b=>Q (.int (Builtin.bitAnd a b))
 | .BitOr=>v2 AX AX a b fun a b=>Q (.int (Builtin.bitOr a b))
 | .RShift=>v2 AX AX a b fun a b=>0≤b∧Q (.int (a.fdiv (2^b.toNat)))
 | .LShift=>v2 AX AX a b fun a b=>0≤b∧(Builtin.Int.intBits a:Int)+b≤2^27∧Q (.int (a*2^b.toNat))
 | .FloorDiv=>v2 AX AX a b fun a b=>b≠0∧(b.natAbs<2^30)∧Q (.int (a.fdiv b))
 | .Mod=>v2 AX AX a b fun a b=>b≠0∧Q (.int (a.fmod b))
 | .Mult=>v2 AX AX a b fun a b=>IntMulOk a b∧Q (.int (a*b))
 | .MatMult| .Div| .Pow| .BitXor=>False
noncomputable def CQ:V→Bool
 | .none=>true
 |_=>false
noncomputable def Gj(K:Frag)(c:Nat):Bool:=plainGet K c "__class__"&&(hasDictIn K c&&((findIn K (.ref c) "__class__"==some (some (.builtin "object.__class__")))&&((specialIn K (.builtin "object.__class__") "__get__"==some (some (.builtin "getset_descriptor.__get__")))&&((takesIn K (.builtin "object.__class__")==some true)&&(mroIn K c (.type "object")==some true)))))
noncomputable def R9(K:Frag)(C:List AB):V→Option Value
 | .none=>some (.type "NoneType")
 | .bool _=>some (.type "bool")
 | .int _=>some (.type "int")
 | .str _=>some (.type "str")
 | .bytes _=>some (.type "bytes")
 | .ti _=>some (.type "tuple")
 | .tup _=>some (.type "tuple")
 | .li _=>some (.type "list")
 | .lst _=>some (.type "list")
 | .obj i=>(match C[i]? with
  |some (.inst c _)=>(match Gj K c with|true=>some (.ref c)|false=>none)
  |some (.list _)=>some (.type "list")
  |some (.dict _)=>some (.type "dict")
  |_=>none)
 |_=>none
noncomputable def RL:V→Option Value
 | .typ n=>some (.type n)
 | .glob a=>some (.ref a)
 |_=>none
noncomputable def Es(K:Frag)(a:Nat):Option (List DictEntry):=match K.lookup a with
 |some ⟨.type t,_,.dict es _,_⟩=>(match(t=="dict")&&(es.toList.all Ca&& !(a==sysModules)) with|true=>some es.toList|false=>none)
 |_=>none
noncomputable def Kc(es:List DictEntry)(k:Int):Option Value:=Cw es.toArray k
def NS(K:Frag)(C:List AB)(x b:V)(Q:Bool→Prop):Prop:=match b with
 | .glob a=>AF (AX x) fun k=>AF (Es K a) fun es=>Q (Kc es k).isSome
 | .obj i=>AF (Bl x) fun x=>(match C[i]? with|some (.dict l)=>AD (decide ((l.map (·.1)).Nodup)&&(K.lookup sysModules).isSome) (Q (AP l x).isSome)|_=>False)
 |_=>False
def Hl(K:Frag)(C:List AB)(op:CmpOp)(a b:V)(Q:V→Prop):Prop:=match op with
 | .Eq=>Au (AX a) (fun a=>AF (AX b) fun b=>Q (.bool (a==b)))<|
   Au (BF a) (fun a=>AF (BF b) fun b=>Q (.bool (a==b)))<|
   Au (Bl a) (fun a=>AF (Bl b) fun b=>Q (.bool (a==b)))<|
   Au (asTi a) (fun a=>AF (asTi b) fun b=>a.length≤1000000∧b.length≤1000000∧Q (.bool (a==b)))<|
   v2 asTyp asTyp a b fun a b=>AD (kitMeta a&&kitMeta b) (Q (.bool (a==b)))
 | .NotEq=>Au (AX a) (fun a=>AF (AX b) fun b=>Q (.bool (a !=b)))<|
   Au (BF a) (fun a=>AF (BF b) fun b=>Q (.bool (a !=b)))<|
   Au (Bl a) (fun a=>AF (Bl b) fun b=>Q (.bool (a !=b)))<|
   v2 asTi asTi a b fun a b=>a.length≤1000000∧b.length≤1000000∧Q (.bool (a !=b))
 | .Lt=>v2 AX AX a b fun a b=>Q (.bool (decide (a<b)))
 | .LtE=>v2 AX AX a b fun a b=>Q (.bool (decide (a≤b)))
 | .Gt=>v2 AX AX a b fun a b=>Q (.bool (decide (a>b)))
 | .GtE=>v2 AX AX a b fun a b=>Q (.bool (decide (a≥b)))
 | .In=>NS K C a b fun r=>Q (.bool r)
 | .NotIn=>NS K C a b fun r=>Q (.bool (!r))
 | .Is=>AD (CQ b) (Q (.bool (CQ a)))
 | .IsNot=>AD (CQ b) (Q (.bool (!CQ a)))
noncomputable def OR(C:List AB):V→Option Nat
 | .bytes b=>some b.length
 | .str s=>some s.length
 | .li l=>some l.length
 | .lst l=>some l.length
 | .tup l=>some l.length
 | .ti l=>some l.length
 | .obj i=>(match C[i]? with|some (.list l)=>some l.length|_=>none)
 |_=>none
def Bb(K:Frag)(C:List AB)(a:V)(Q:Bool→Prop):Prop:=match a with
 | .none=>Q false
 | .bool b=>Q b
 | .int i=>Q (i !=0)
 | .bytes b=>b.length≤1099511627776∧Q ((b.length:Int) !=0)
 | .li l=>l.length≤1000000∧Q (decide (0<l.length))
 | .obj i=>(match C[i]? with|some (.dict l)=>AD (decide ((l.map (·.1)).Nodup)&&(K.lookup sysModules).isSome) (l.length≤1000000∧Q (!l.isEmpty))|_=>False)
 |_=>False
abbrev XQ:=String→List AB→Prop
abbrev AG:=Nat→List V→List (Str×V)→List AB→VQ→XQ→Prop
abbrev AW:=AU→List AB→VQ→Prop
structure A5 where
 next:AU→List AB→Prop
 ret:V→List AB→Prop
 brk:AU→List AB→Prop:=fun _ _=>False
 cont:AU→List AB→Prop:=fun _ _=>False
 exc:String→AU→List AB→Prop:=fun _ _ _=>False
abbrev AV:=AU→List AB→A5→Prop
structure EC where
 sc:Scope
 K:Frag
 dm:Nat→Nat→Nat:=fun _ _=>0
 X:XQ:=fun _ _=>False
 fn:AG:=fun _ _ _ _ _ _=>False
 cp:Scope→Expr→AW:=fun _ _ _ _ _=>False
 lp:Scope→Stmt→AV:=fun _ _ _ _ _=>False
 lpT:Scope→Stmt→AV:=fun _ _ _ _ _=>False
 hd:Bool:=false
 tr:Bool:=false
 top:Bool:=false
noncomputable def EC.sX(Γ:EC)(X:XQ):EC:={Γ with X:=X}
noncomputable def EC.sS(Γ:EC)(sc:Scope):EC:={Γ with sc:=sc}
noncomputable def EC.sT(Γ:EC):EC:={Γ with tr:=true,lp:=Γ.lpT}
noncomputable def EC.sH(Γ:EC):EC:={Γ with hd:=true,tr:=true,lp:=fun _ _ _ _ _=>False,lpT:=fun _ _ _ _ _=>False}
noncomputable def A5.sN(Q:A5)(K:AU→List AB→Prop):A5:={Q with next:=K}
noncomputable def A5.sE(Q:A5)(K:String→AU→List AB→Prop):A5:={Q with exc:=K}
noncomputable def A5.sL(Q:A5)(K:AU→List AB→Prop):A5:={Q with next:=K,cont:=K,brk:=Q.next}
noncomputable def BP(x:Str):Bool:= !(x==("__debug__":Str))
theorem BP.ok{x:Str}(h:BP x=true):(x==("__debug__":Str))=false:=by
 unfold BP at h;simpa using h
noncomputable def Az(e:Expr):Bool:= !(e.ctorIdx==22)
noncomputable def Ae(m:AU)(x:Str)(v:V):AU:=match m with
 |[]=>[(x,v)]
 |(y,u)::r=>if y=x then(x,v)::r else(y,u)::Ae r x v
theorem En(m:AU)(x:Str)(v:V)(y:Str):AP (Ae m x v) y=if y=x then some v else AP m y:=by
 induction m with
 |nil=>
  unfold Ae AP AP
  by_cases h:x=y
  ·simp[h]
  ·rw[if_neg h,if_neg (Ne.symm h)]
 |cons p m ih=>
  obtain⟨z,u⟩:=p
  unfold Ae
  by_cases h:z=x
  ·rw[if_pos h]
   show(if x=y then some v else AP m y)=_
   by_cases q:x=y
   ·simp[q]
   ·rw[if_neg q,if_neg (Ne.symm q)]
    show _=(if z=y then some u else AP m y)
    rw[if_neg (by rw[h];exact q)]
  ·rw[if_neg h]
   show(if z=y then some u else AP (Ae m x v) y)=_
   rw[ih]
   by_cases q:z=y
   ·have:y≠x:=by rw[←q];exact h
    rw[if_pos q,if_neg this]
    show _=(if z=y then some u else AP m y)
    rw[if_pos q]
   ·rw[if_neg q]
    by_cases r:y=x
    ·rw[if_pos r,if_pos r]
    ·rw[if_neg r,if_neg r]
     show _=(if z=y then some u else AP m y)
     rw[if_neg q]
noncomputable def FE:V→Bool
 | .blt n=>(withoutEnding? n "#data").isNone
 |_=>true
def E0(K:Frag)(c:Nat)(at_:AU)(x:Str)(Q:V→Prop):Prop:=match AP at_ x,findIn K (.ref c) x with
 |some u,some attr=>AD (noGet K attr&&FE u) (Q u)
 |none,some (some a)=>AD ((specialIn K a "__get__"==some none)&&(handedIn a&& !copiedNames.contains x)) (AF (JA a) Q)
 |_,_=>False
def Dr(K:Frag)(fn:AG)(X:XQ)(i c:Nat)(x:Str)(C:List AB)(Q:VQ):Prop:=match findIn K (.ref c) x with
 |some (some (.ref p))=>AD (plainGet K c x&&(hasDictIn K c&&((specialIn K (.ref p) "__get__"==some (some (.builtin "property.__get__")))&&(takesIn K (.ref p)==some true)))) (match recIn K p "property" with
  |some (.ref f::_)=>fn f [.obj i] [] C (fun v C=>AD (FE v) (Q v C)) X
  |_=>False)
 |_=>False
noncomputable def Ie(K:Frag)(c:Nat)(x:Str):Bool:=match findIn K (.ref c) x with
 |some (some (.ref p))=>specialIn K (.ref p) "__get__"==some (some (.builtin "property.__get__"))
 |_=>false
def CY(K:Frag)(v:V)(x:Str)(C:List AB)(Q:V→Prop):Prop:=match v with
 | .obj i=>(match C[i]? with
  |some (.inst c at_)=>(match x==("__class__":Str) with
   |true=>AD (Gj K c) (Q (.glob c))
   |false=>AD (plainGet K c x&&hasDictIn K c) (E0 K c at_ x Q))
  |_=>False)
 | .ti _=>AD (x==("__class__":Str)) (Q (.typ "tuple"))
 | .tup _=>AD (x==("__class__":Str)) (Q (.typ "tuple"))
 | .glob c=>(match typeIn K (.ref c) with
  |some mc=>AD (readsIn K c mc) (match findCls K (.ref c) mc x with
   |some (.val a)=>AD (handedIn a) (AF (JA a) Q)
   |_=>False)
  |_=>False)
 |_=>False
def Fo(K:Frag)(v:V)(x:Str)(u:V)(C:List AB)(Q:List AB→Prop):Prop:=match v with
 | .obj i=>(match C[i]? with
  |some (.inst c at_)=>AD ((findIn K (.ref c) "__setattr__"==some (some (.builtin "object.__setattr__")))&&(plainOver K c&&((takerIn K c x==some none)&&(hasDictIn K c&&decide (at_.length≤900))))) (Q (C.set i (.inst c (Ae at_ x u))))
  |_=>False)
 |_=>False
inductive MV where
 |val (f:V) (first:List V)
 |bm (f:Nat) (self:V)
 |fb
noncomputable def Em(K:Frag):V→Bool
 | .glob a=>keepIn K (.ref a)
 | .typ _=>true
 | .blt _=>true
 |_=>false
def Ds(K:Frag)(ov:V)(x:Str)(C:List AB)(k:MV→Prop):Prop:=match ov with
 | .obj i=>(match C[i]? with
  |some (.inst c at_)=>(match findIn K (.ref c) x,AP at_ x with
   |some (some (.ref f)),none=>AD (plainGet K c x&&isFn K (.ref f)) (k (.val (.glob f) [.obj i]))
   |_,_=>False)
  |some (.list _)=>AD (x==("append":Str)) (k (.val (.blt "list.append") [.obj i]))
  |_=>False)
 | .glob c=>(match typeIn K (.ref c) with
  |some mc=>AD (readsIn K c mc&&(specialIn K (.ref c) "__getattribute__"==some (some (.builtin "type.__getattribute__")))) (match findCls K (.ref c) mc x with
   |some (.val a)=>AD (handedIn a) (AF (JA a) fun f=>k (.val f []))
   |some (.get (.builtin g) (.ref p) .none (.ref c'))=>AD (g=="classmethod.__get__"&&c'==c) (match recIn K p "classmethod" with
    |some (.ref f::_)=>AD (fnIn K f) (k (.bm f (.glob c)))
    |_=>False)
   |_=>False)
  |_=>False)
 | .bytes b=>AD (x==("join":Str)) (k (.val (.blt "bytes.join") [.bytes b]))
 | .int i=>(match x==("bit_length":Str) with
  |true=>k (.val (.blt "int.bit_length") [.int i])
  |false=>AD (x==("to_bytes":Str)) (k (.val (.blt "int.to_bytes") [.int i])))
 | .str s=>AD (x==("join":Str)) (k (.val (.blt "str.join") [.str s]))
 | .typ n=>AD (n=="int"&&x==("from_bytes":Str)) (match findCls K (.type "int") (.type "type") (Str.ofString "from_bytes") with
  |some (.get (.builtin g) (.builtin f) .none (.type t))=>AD (g=="classmethod_descriptor.__get__"&&(f=="int.from_bytes"&&t=="int")) (k .fb)
  |_=>False)
 |_=>False
def WP(n:String)(a:V)(C:List AB)(Q:VQ):Prop:=
 Ad (n=="len") (AF (OR C a) fun k=>k≤1000000∧Q (.int k) C)<|
 Ad (n=="sum") (AF (asLi a) fun l=>l.length≤1000∧Q (.int l.sum) C)<|
 Ad (n=="int.bit_length") (AF (AX a) fun i=>Q (.int (Builtin.Int.intBits i)) C) False
def WO(K:Frag)(n:String)(a b:V)(C:List AB)(Q:VQ):Prop:=
 Ad (n=="list.append") (AF (Cs a) fun i=>(match C[i]? with|some (.list l)=>l.length≤1000000∧Q .none (C.set i (.list (l++[b])))|_=>False))<|
 Ad (n=="isinstance") (AF (R9 K C a) fun t=>AF (RL b) fun c=>AF (kitOne K t c) fun r=>Q (.bool r) C)<|
 Ad (n=="bytes.join") (AF (BF a) fun a=>AD a.isEmpty (AF (Fz C b) fun l=>AF (CJ l) fun bs=>bs.flatten.length≤16777216∧Q (.bytes bs.flatten) C))<|
 Ad (n=="str.join") (v2 Bl Cs a b fun x i=>(match C[i]? with|some (.map l)=>x.length≤64∧(∀n∈l,0≤n∧n<10)∧l.length≤100000∧Q (.str (Txt.join x (l.map Et))) (C.set i .dead)|_=>False)) False
def WN(n:String)(a b:V)(k1:Str)(c:V)(k2:Str)(d:V)(C:List AB)(Q:VQ):Prop:=
 AD (n=="int.to_bytes"&&(k1==("byteorder":Str)&&k2==("signed":Str))) (v2 AX AX a b fun x k=>v2 Bl Fn c d fun o sg=>
  AD (o==("big":Str)&& !sg) (0≤k∧k≤1000∧0≤x∧x<256^k.toNat∧Q (.bytes (BN k.toNat x)) C))
def TB(n:String)(a:V)(C:List AB)(Q:VQ):Prop:=
 Ad (n=="bytes") (AF (asLi a) fun l=>(∀n∈l,0≤n∧n<256)∧l.length≤1000000∧Q (.bytes (l.map fun n=>n.toNat.toUInt8)) C)<|
 Ad (n=="tuple") (AF (asLi a) fun l=>l.length≤1000000∧Q (.ti l) C)<|
 Ad (n=="range") (AF (AX a) fun k=>Q (.rng 0 k 1) C) False
def TA(n:String)(a b:V)(C:List AB)(Q:VQ):Prop:=
 Ad (n=="map") (v2 asTyp asTi a b fun m l=>AD (m=="str") (l.length≤100000∧Q (.obj C.length) (C++[.map l])))<|
 Ad (n=="int") (v2 Bl AX a b fun x k=>AD (k==2) (∃ns:List Nat,x=BE ns∧ns≠[]∧(∀n∈ns,n<2)∧ns.length≤640∧Q (.int (Dg ns)) C)) False
def I9(K:Frag)(f:V)(vs:List V)(kvs:List (Str×V))(C:List AB)(Q:VQ):Prop:=match f with
 | .blt n=>(match vs with
  |[]=>False
  |a::vs=>(match vs with
   |[]=>(match kvs with|[]=>WP n a C Q|_::_=>False)
   |b::vs=>(match vs with
    |[]=>(match kvs with
     |[]=>WO K n a b C Q
     |(k1,c)::kvs=>(match kvs with
      |[]=>False
      |(k2,d)::kvs=>(match kvs with|[]=>WN n a b k1 c k2 d C Q|_::_=>False)))
    |_::_=>False)))
 | .typ n=>(match kvs with
  |[]=>(match vs with
   |[]=>False
   |a::vs=>(match vs with
    |[]=>TB n a C Q
    |b::vs=>(match vs with|[]=>TA n a b C Q|_::_=>False)))
  |_::_=>False)
 |_=>False
def FU(K:Frag)(fn:AG)(X:XQ)(a:Nat)(vs:List V)(kvs:List (Str×V))(C:List AB)(Q:VQ):Prop:=
 AD (makesIn K a) (match findIn K (.ref a) "__init__" with
  |some (some (.ref fi))=>AD (isFn K (.ref fi)) (fn fi (.obj C.length::vs) kvs (C++[.inst a []]) (fun v C'=>match v with| .none=>Q (.obj C.length) C'|_=>False) X)
  |_=>False)
def DS(K:Frag)(fn:AG)(X:XQ)(f:V)(vs:List V)(kvs:List (Str×V))(C:List AB)(Q:VQ):Prop:=
 Au (Io f) (fun a=>(match(clsIn K a).isSome with
  |true=>FU K fn X a vs kvs C Q
  |false=>AD (fnIn K a) (fn a vs kvs C Q X))) (I9 K f vs kvs C Q)
def GT(K:Frag)(fn:AG)(X:XQ)(f:MV)(vs:List V)(kvs:List (Str×V))(C:List AB)(Q:VQ):Prop:=match f with
 | .val f first=>DS K fn X f (first++vs) kvs C Q
 | .bm f self=>fn f (self::vs) kvs C Q X
 | .fb=>(match vs with
  |[a,b]=>(match kvs with
   |[(k,c)]=>v2 BF Bl a b fun b o=>AF (Fn c) fun sg=>AD (o==("big":Str)&&(k==("signed":Str)&& !sg)) (b.length≤1000∧Q (.int (At b)) C)
   |_=>False)
  |_=>False)
noncomputable def Qi(K:Frag):MV→Bool
 | .val f _=>Em K f
 | .bm _ _=>true
 | .fb=>true
def NT(K:Frag)(C:List AB)(o i:V)(Q:V→Prop):Prop:=AF (AX i) fun k=>(match o with
 | .bytes b=>b.length≤1099511627776∧0≤k∧k<b.length∧Q (.int (b.getD k.toNat 0).toNat)
 | .li l=>0≤k∧k<l.length∧l.length≤1000000∧Q (.int (l.getD k.toNat 0))
 | .tup l=>AD (decide (0≤k)) (AF l[k.toNat]? fun v=>l.length≤1000000∧Q v)
 | .lst l=>AD (decide (0≤k)) (AF l[k.toNat]? fun v=>l.length≤1000000∧Q v)
 | .glob a=>AF (Es K a) fun es=>AF (Kc es k) fun v=>AF (JA v) Q
 | .obj j=>(match C[j]? with
  |some (.list l)=>AD (decide (0≤k)) (AF l[k.toNat]? fun v=>l.length≤1000000∧Q v)
  |_=>False)
 |_=>False)
def NU(o:V)(lo hi:Option Int)(Q:V→Prop):Prop:=match o with
 | .bytes b=>b.length≤16777216∧Q (.bytes (BW b lo hi))
 | .li l=>l.length≤1000000∧Q (.li (BW l lo hi))
 | .lst l=>l.length≤1000000∧Q (.lst (BW l lo hi))
 |_=>False
noncomputable def CR(sc:Scope)(m:AU):AU:=m.filter fun p=>sc.names.lookup p.1==some NameKind.free
def FD(v:V)(C₀ C:List AB):Prop:=match v with
 | .obj i=>C[i]? =C₀[i]?
 |_=>True
def Ms:V→Prop
 | .rng a b c=>Builtin.Range.small a b c=true
 |_=>True
noncomputable def Gp(e:Expr):Bool:= !(e.ctorIdx==7)
def C8(keep:List AB→Prop)(elt:V→List V→List AB→(List V→List AB→Prop)→Prop):List V→List V→List AB→(List V→List AB→Prop)→Prop
 |[],acc,C,Q=>Q acc C
 |x::r,acc,C,Q=>elt x acc C fun acc C=>keep C∧C8 keep elt r acc C Q
noncomputable def Cb(e:Expr):Option (Str×Pos):=@Expr.casesOn (fun _=>Option (Str×Pos)) e (fun _ _ _=>none) (fun _ _ _=>none) (fun _ _ _ _=>none) (fun _ _ _=>none) (fun _ _ _ _=>none) (fun _ _ _ _=>none) (fun _ _ _=>none) (fun _ _ _=>none) (fun _ _ _ _=>none) (fun _ _ _ _=>none) (fun _ _ _ _ _=>none) (fun _ _ _ _=>none) (fun _ _=>none) (fun _ _=>none) (fun _ _=>none) (fun _ _ _ _=>none) (fun _ _ _ _=>none) (fun _ _ _ _=>none) (fun _ _=>none) (fun _ _ _=>none) (fun _ _ _=>none) (fun _ _ _=>none) (fun _ _=>none) (fun a b=>some (a,b)) (fun _ _=>none) (fun _ _ _=>none) (fun _ _ _ _=>none)
theorem Cb.ok{e:Expr}{x:Str×Pos}:(h:Cb e=some x)→e= .Name x.1 x.2:=by
 cases e<;>first|exact AM|exact fun h=>oJ h▸rfl
noncomputable def H2(e:Expr):Option (Expr×List Expr×List Keyword×Pos):=@Expr.casesOn (fun _=>Option (Expr×List Expr×List Keyword×Pos)) e (fun _ _ _=>none) (fun _ _ _=>none) (fun _ _ _ _=>none) (fun _ _ _=>none) (fun _ _ _ _=>none) (fun _ _ _ _=>none) (fun _ _ _=>none) (fun _ _ _=>none) (fun _ _ _ _=>none) (fun _ _ _ _=>none) (fun _ _ _ _ _=>none) (fun _ _ _ _=>none) (fun _ _=>none) (fun _ _=>none) (fun _ _=>none) (fun _ _ _ _=>none) (fun a b c d=>some (a,b,c,d)) (fun _ _ _ _=>none) (fun _ _=>none) (fun _ _ _=>none) (fun _ _ _=>none) (fun _ _ _=>none) (fun _ _=>none) (fun _ _=>none) (fun _ _=>none) (fun _ _ _=>none) (fun _ _ _ _=>none)
theorem H2.ok{e:Expr}{x:Expr×List Expr×List Keyword×Pos}:(h:H2 e=some x)→e= .Call x.1 x.2.1 x.2.2.1 x.2.2.2:=by
 cases e<;>first|exact AM|exact fun h=>oJ h▸rfl
noncomputable def B6(o:Expr):Bool:=match H2 o with
 |none=>true
 |some c=> !(c.2.1.isEmpty&&(c.2.2.1.isEmpty&&(Cb c.1).isSome))
noncomputable def V9(e:Expr):Option (Option Expr×Option Expr×Option Expr×Pos):=@Expr.casesOn (fun _=>Option (Option Expr×Option Expr×Option Expr×Pos)) e (fun _ _ _=>none) (fun _ _ _=>none) (fun _ _ _ _=>none) (fun _ _ _=>none) (fun _ _ _ _=>none) (fun _ _ _ _=>none) (fun _ _ _=>none) (fun _ _ _=>none) (fun _ _ _ _=>none) (fun _ _ _ _=>none) (fun _ _ _ _ _=>none) (fun _ _ _ _=>none) (fun _ _=>none) (fun _ _=>none) (fun _ _=>none) (fun _ _ _ _=>none) (fun _ _ _ _=>none) (fun _ _ _ _=>none) (fun _ _=>none) (fun _ _ _=>none) (fun _ _ _=>none) (fun _ _ _=>none) (fun _ _=>none) (fun _ _=>none) (fun _ _=>none) (fun _ _ _=>none) (fun a b c d=>some (a,b,c,d))
theorem V9.ok{e:Expr}{x:Option Expr×Option Expr×Option Expr×Pos}:(h:V9 e=some x)→e= .Slice x.1 x.2.1 x.2.2.1 x.2.2.2:=by
 cases e<;>first|exact AM|exact fun h=>oJ h▸rfl
noncomputable def Mt(e:Expr):Bool:=@Expr.casesOn (fun _=>Bool) e (fun _ _ _=>false) (fun _ _ _=>false) (fun _ _ _ _=>false) (fun _ _ _=>false) (fun _ _ _ _=>false) (fun _ _ _ _=>false) (fun _ _ _=>false) (fun _ _ _=>false) (fun a b c d=>true) (fun _ _ _ _=>false) (fun _ _ _ _ _=>false) (fun _ _ _ _=>false) (fun _ _=>false) (fun _ _=>false) (fun _ _=>false) (fun _ _ _ _=>false) (fun _ _ _ _=>false) (fun _ _ _ _=>false) (fun _ _=>false) (fun _ _ _=>false) (fun _ _ _=>false) (fun _ _ _=>false) (fun _ _=>false) (fun _ _=>false) (fun _ _=>false) (fun _ _ _=>false) (fun _ _ _ _=>false)
theorem Mt.ok{e:Expr}:(h:Mt e=true)→∃el gs sc p,e= .ListComp el gs sc p:=by
 cases e<;>first|exact BQ|exact fun _=>⟨_,_,_,_,rfl⟩
noncomputable def P9(e:Expr):Option Expr:=(V9 e).bind (·.1)
noncomputable def QA(e:Expr):Option Expr:=(V9 e).bind (·.2.1)
noncomputable def Kb(e:Expr):Bool:=match V9 e with
 |some x=>x.2.2.1.isNone
 |none=>false
theorem Kb.ok{e:Expr}(h:Kb e=true):∃q,e= .Slice (P9 e) (QA e) none q:=by
 unfold Kb at h
 unfold P9 QA
 cases he:V9 e with
 |none=>rw[he] at h;exact BQ h
 |some x=>
  rw[he] at h
  exact⟨x.2.2.2,(V9.ok he).trans (by rw[Option.isNone_iff_eq_none.mp h];rfl)⟩
noncomputable def Ic(k:Keyword):Option Str:=match k.arg with
 |none=>(Cb k.value).map (·.1)
 |some _=>none
theorem Ic.ok{k:Keyword}{x:Str}(h:Ic k=some x):∃p q,k=⟨none,.Name x p,q⟩:=by
 obtain⟨a,v,q⟩:=k
 cases a with
 |some _=>exact AM h
 |none=>
  have h:(Cb v).map (·.1)=some x:=h
  cases he:Cb v with
  |none=>rw[he] at h;exact AM h
  |some y=>
   rw[he] at h
   exact⟨y.2,q,by rw[Cb.ok he,←oJ h]⟩
noncomputable def Ei(ks:List Keyword):Option Str:=match ks with
 |[]=>none
 |k::r=>(match r with
  |[]=>Ic k
  |_::_=>none)
theorem Ei.ok{ks:List Keyword}{kx:Str}(h:Ei ks=some kx):∃kxp kp,ks=[⟨none,.Name kx kxp,kp⟩]:=by
 cases ks with
 |nil=>exact AM h
 |cons k r=>
  cases r with
  |nil=>obtain⟨p,q,rfl⟩:=Ic.ok h;exact⟨p,q,rfl⟩
  |cons _ _=>exact AM h
noncomputable def X2(a:Option Expr):Option (Expr×List Expr×List Keyword×Pos):=a.bind H2
noncomputable def KM(a:Option Expr):Str:=match(X2 a).bind fun c=>Cb c.1 with
 |some x=>x.1
 |none=>default
noncomputable def SK(a:Option Expr):List Expr:=match X2 a with
 |some c=>c.2.1
 |none=>[]
noncomputable def Og(a b:Option Expr):Bool:=match X2 a with
 |some c=>(Cb c.1).isSome&&(!c.2.1.isEmpty&&(c.2.2.1.isEmpty&&b.isNone))
 |none=>false
theorem Og.ok{a b:Option Expr}(h:Og a b=true):∃np p e r,a=some (.Call (.Name (KM a) np) (e::r) [] p)∧SK a=e::r∧b=none:=by
 cases a with
 |none=>exact BQ h
 |some a=>
  unfold Og X2 at h
  unfold KM SK X2
  rw[Option.bind_some] at*
  cases hc:H2 a with
  |none=>rw[hc] at h;exact BQ h
  |some c=>
   rw[hc] at h
   obtain⟨f,as,ks,p⟩:=c
   cases hf:Cb f with
   |none=>dsimp only at h;rw[hf] at h;exact BQ h
   |some y=>
    dsimp only at h
    rw[hf] at h
    cases as with
    |nil=>exact BQ h
    |cons e r=>
     cases ks with
     |cons _ _=>exact BQ h
     |nil=>
      cases b with
      |some _=>exact BQ h
      |none=>
       refine⟨y.2,p,e,r,?_,rfl,rfl⟩
       rw[Option.bind_some,hf,H2.ok hc,Cb.ok hf]
noncomputable def zf:List ExceptHandler→List Stmt
 | .ExceptHandler _ _ b _::_=>b
 |_=>[]
mutual
def BV(Γ:EC):Nat→Expr→AU→List AB→VQ→Prop
 |0,_,_,_,_=>False
 |n+1,e,m,C,Q=>match e with
  | .Constant c _ _=>(match c with
   | .none=>Q .none C
   | .bool b=>Q (.bool b) C
   | .int i=>Q (.int i) C
   | .str s=>Q (.str s) C
   | .bytes b=>Q (.bytes b) C
   |_=>False)
  | .Name x _=>AD (BP x) (match Γ.sc.names.lookup x with
   |some .globalImplicit=>(match nsIn Γ.K mainGlobals x with
    |some (some v)=>AF (JA v) fun V=>Q V C
    |some none=>AD (!(x==("__name__":Str))) (AF ((bootBuiltins x).bind JA) fun V=>Q V C)
    |_=>False)
   |some .local=>AF (AP m x) fun v=>Q v C
   |some .cell=>AF (AP m x) fun v=>Q v C
   |some .free=>AD (!(x==("__classdict__":Str))) (AF (AP m x) fun v=>Q v C)
   |_=>False)
  | .BinOp l op r _=>BV Γ n l m C fun a C=>BV Γ n r m C fun b C=>NR op a b fun v=>Q v C
  | .Compare l ops rs _=>(match ops with
   |[]=>False
   |op::ops=>(match ops with
    |_::_=>False
    |[]=>(match rs with
     |[]=>False
     |r::rs=>(match rs with
      |_::_=>False
      |[]=>AD (!behindInMarks op r)<|BV Γ n l m C fun a C=>BV Γ n r m C fun b C=>Hl Γ.K C op a b fun v=>Q v C))))
  | .BoolOp op vs p=>(match vs with
   |[]=>False
   |x::r=>(match r with
    |[]=>BV Γ n x m C Q
    |_::_=>BV Γ n x m C fun v C=>Bb Γ.K C v fun c=>(match op with
     | .And=>Ad c (BV Γ n (.BoolOp op r p) m C Q) (Q v C)
     | .Or=>Ad c (Q v C) (BV Γ n (.BoolOp op r p) m C Q))))
  | .Tuple es _ _=>Dn Γ n es m C fun vs C=>vs.length≤1000∧Q (Qk vs) C
  | .List es p=>Dn Γ n es m C fun vs C=>vs.length≤1000∧(match Γ.dm p.line p.col with
   |0=>Q (Ld vs) C
   |1=>Q (.obj C.length) (C++[.list vs])
   |_=>Q (.lst vs) C)
  | .IfExp t b o _=>I4 Γ n t m C fun c C=>Ad c (BV Γ n b m C Q) (BV Γ n o m C Q)
  | .UnaryOp op x _=>(match op with
   | .Not=>BV Γ n x m C fun v C=>Bb Γ.K C v fun c=>Q (.bool (!c)) C
   | .USub=>BV Γ n x m C fun v C=>AF (AX v) fun i=>Q (.int (-i)) C
   | .Invert| .UAdd=>False)
  | .Call f as ks p=>(match f with
   | .Attribute o x ap=>(match(Ei ks).isSome with
    |true=>AF (Ei ks) fun kx=>AD (!Γ.hd&&(B6 o&&(as.all Az&&(BP kx&&Γ.sc.names.lookup kx==some .local))))<|BV Γ n o m C fun ov C=>CY Γ.K ov x C fun f=>AD (Em Γ.K f)<|Dn Γ n as m C fun vs C=>AF (AP m kx) fun kv=>AF (Cs kv) fun i=>(match C[i]? with
     |some (.dict l)=>AD (decide ((l.map (·.1)).Nodup)&&((Γ.K.lookup sysModules).isSome&&decide (l.length≤900))) (DS Γ.K Γ.fn Γ.X f vs l C Q)
     |_=>False)
    |false=>AD (!Γ.hd&&B6 o&&(as.all Az&&(ks.all (·.arg.isSome)&&(ap.endLine==p.line&&as.length+ks.length<20))))<|BV Γ n o m C fun ov C=>Ds Γ.K ov x C fun f=>AD (Qi Γ.K f)<|
     Dn Γ n as m C fun vs C=>GS Γ n ks m C fun kvs C=>GT Γ.K Γ.fn Γ.X f vs kvs C Q)
   | .Name x xp=>BV Γ n (.Name x xp) m C fun f C=>AD (!Γ.hd&&Em Γ.K f&&(as.all Az&&ks.all (·.arg.isSome)))<|Dn Γ n as m C fun vs C=>GS Γ n ks m C fun kvs C=>DS Γ.K Γ.fn Γ.X f vs kvs C Q
   |_=>False)
  | .Attribute o x _=>AD (!Γ.hd&&B6 o)<|BV Γ n o m C fun v C=>Au (Cs v) (fun i=>(match C[i]? with
    |some (.inst c _)=>(match Ie Γ.K c x with
     |true=>Dr Γ.K Γ.fn Γ.X i c x C Q
     |false=>CY Γ.K v x C fun u=>Q u C)
    |_=>False)) (CY Γ.K v x C fun u=>Q u C)
  | .Subscript o i _=>BV Γ n o m C fun ov C=>(match Kb i with
   |true=>XF Γ n (P9 i) m C fun l C=>XF Γ n (QA i) m C fun h C=>AF (Ft l) fun l=>AF (Ft h) fun h=>NU ov l h fun v=>Q v C
   |false=>AD (!(i.ctorIdx==26))<|BV Γ n i m C fun iv C=>NT Γ.K C ov iv fun v=>Q v C)
  | .ListComp el gs sc p=>AD (!Γ.hd) (Γ.cp Γ.sc (.ListComp el gs sc p) m C Q)
  |_=>False
def XF(Γ:EC):Nat→Option Expr→AU→List AB→VQ→Prop
 |0,_,_,_,_=>False
 |n+1,e,m,C,Q=>match e with
  |some e=>BV Γ n e m C Q
  |none=>Q .none C
def Dn(Γ:EC):Nat→List Expr→AU→List AB→(List V→List AB→Prop)→Prop
 |0,_,_,_,_=>False
 |n+1,es,m,C,Q=>match es with
  |[]=>Q [] C
  |e::r=>AD (Az e)<|BV Γ n e m C fun v C=>Dn Γ n r m C fun vs C=>Q (v::vs) C
def GS(Γ:EC):Nat→List Keyword→AU→List AB→(List (Str×V)→List AB→Prop)→Prop
 |0,_,_,_,_=>False
 |n+1,ks,m,C,Q=>match ks with
  |[]=>Q [] C
  |⟨some x,e,_⟩::r=>BV Γ n e m C fun v C=>GS Γ n r m C fun vs C=>Q ((x,v)::vs) C
  |_=>False
def I4(Γ:EC):Nat→Expr→AU→List AB→(Bool→List AB→Prop)→Prop
 |0,_,_,_,_=>False
 |n+1,e,m,C,Q=>match e with
  | .Compare l ops rs _=>(match ops with
   |[]=>False
   |op::ops=>(match ops with
    |_::_=>False
    |[]=>(match rs with
     |[]=>False
     |r::rs=>(match rs with
      |_::_=>False
      |[]=>AD (!behindInMarks op r)<|BV Γ n l m C fun a C=>BV Γ n r m C fun b C=>Hl Γ.K C op a b fun v=>Bb Γ.K C v fun c=>Q c C))))
  | .UnaryOp op x _=>(match op with
   | .Not=>I4 Γ n x m C fun c C=>Q (!c) C
   | .USub| .Invert| .UAdd=>False)
  | .BoolOp op vs p=>(match op with
   | .And=>(match vs with
    |[]=>Q true C
    |x::r=>I4 Γ n x m C fun c C=>Ad c (I4 Γ n (.BoolOp .And r p) m C Q) (Q false C))
   | .Or=>(match vs with
    |[]=>Q false C
    |x::r=>I4 Γ n x m C fun c C=>Ad c (Q true C) (I4 Γ n (.BoolOp .Or r p) m C Q)))
  | .Name x p=>BV Γ n (.Name x p) m C fun v C=>Bb Γ.K C v fun c=>Q c C
  | .Constant x k p=>BV Γ n (.Constant x k p) m C fun v C=>Bb Γ.K C v fun c=>Q c C
  | .BinOp l o r p=>BV Γ n (.BinOp l o r p) m C fun v C=>Bb Γ.K C v fun c=>Q c C
  | .Call f as ks p=>BV Γ n (.Call f as ks p) m C fun v C=>Bb Γ.K C v fun c=>Q c C
  | .Attribute x y p=>BV Γ n (.Attribute x y p) m C fun v C=>Bb Γ.K C v fun c=>Q c C
  | .Subscript x y p=>BV Γ n (.Subscript x y p) m C fun v C=>Bb Γ.K C v fun c=>Q c C
  |_=>False
end
def R7(Γ:EC)(csc:Scope)(n:Nat)(el:Expr):List Comprehension→AU→List V→List AB→(List V→List AB→Prop)→Prop
 |[],m,acc,C,Q=>acc.length≤100000∧BV Γ n el m C fun v C=>Q (acc++[v]) C
 |⟨.Name x _,it,ifs,a⟩::gs,m,acc,C,Q=>AD (a==0&&(ifs.isEmpty&&(Gp it&&((AP m x).isNone&&(csc.names.lookup x==some NameKind.local||csc.names.lookup x==some NameKind.cell)))))<|BV Γ n it m C fun v C=>Ms v∧AF (G2 C v) fun items=>C8 (FD v C) (fun i acc C Q=>R7 Γ csc n el gs (Ae m x i) acc C Q) items acc C Q
 |_,_,_,_,_=>False
noncomputable def Oo(sc csc:Scope):Bool:=csc.names.all fun p=> !(p.2==NameKind.free)||sc.names.lookup p.1==some NameKind.cell
noncomputable def Bx(sc csc:Scope):Scope:={csc with names:=csc.names.map fun(n,k)=>if(k== .free&&sc.kind== .function&&sc.names.lookup n==some .cell) then(n,.cell) else(n,k)}
noncomputable def Lo(g:Comprehension):Bool:=(Cb g.target).isSome&&(g.ifs.isEmpty&&g.is_async==0)
def XG(Γ:EC)(n:Nat)(el:Expr)(gs:List Comprehension)(csc:Scope)(m:AU)(C:List AB)(Q:VQ):Prop:=match gs with
 |⟨.Name x _,it,ifs,a⟩::gs=>AD (a==0&&(ifs.isEmpty&&(Gp it&&((csc.names.lookup x==some NameKind.local||csc.names.lookup x==some NameKind.cell)&&(Oo Γ.sc csc&&(csc.kind== .function&&(gs.all Lo&&decide ((csc.names.map (·.1)).Nodup))))))))<|BV (Γ.sX fun _ _=>False) n it m C fun v C=>Ms v∧AF (G2 C v) fun items=>
   C8 (FD v C) (fun i acc C Q=>R7 ((Γ.sS (Bx Γ.sc csc)).sX fun _ _=>False) csc n el gs (Ae (CR csc m) x i) acc C Q) items [] C fun out C=>Q (Ld out) C
 |_=>False
noncomputable def Cz(Γ:EC)(x:Str):Bool:=Γ.sc.names.lookup x==some NameKind.local||Γ.sc.names.lookup x==some NameKind.cell
noncomputable def Fc(e:Expr):Bool:= !(e.ctorIdx==8||(e.ctorIdx==9||e.ctorIdx==10))
noncomputable def za(e:Expr):Bool:= !(e.ctorIdx==25)
noncomputable def IH:V→Option (List V)
 | .tup l=>some l
 | .ti l=>some (l.map .int)
 |_=>none
noncomputable def Cf(sc:Scope)(ts:List Expr)(e:Expr):Option (Option (List Str)):=match e with
 | .Tuple vs _ _=>
  if !(ts.length==2||ts.length==3)||vs.length !=ts.length||sc.kind != .function then some none
  else if vs.any fun| .Starred .. =>true|_=>false then some none
  else
   let line:=(ts.head?.map (·.pos.line)).getD 0
   let names:=ts.filterMap fun
    | .Name id pos=>if sc.names.lookup id==some .local&&pos.line==line then some id else none
    |_=>none
   if names.length !=ts.length||names.eraseDups.length !=names.length then some none
   else if vs.all (foldedForSure 8) then some none
   else if vs.all (constantsAlone 8) then none
   else some (some names)
 |_=>some none
noncomputable def EE(m:AU):List Str→List V→AU
 |x::xs,v::vs=>EE (Ae m x v) xs vs
 |_,_=>m
def Jp(keep:List AB→Prop)(step:V→AU→List AB→(AU→List AB→Prop)→Prop):List V→AU→List AB→(AU→List AB→Prop)→Prop
 |[],m,C,Q=>Q m C
 |x::r,m,C,Q=>step x m C fun m C=>keep C∧Jp keep step r m C Q
def z9(test:AU→List AB→(Bool→List AB→Prop)→Prop)(body:AU→List AB→(AU→List AB→Prop)→Prop)(m:AU)(C:List AB)(Q:AU→List AB→Prop):Prop:=
 ∃(I:Nat→AU→List AB→Prop) (k:Nat),I k m C∧∀k m C,I k m C→test m C fun c C=>Ad c (body m C fun m C=>∃j,j<k∧I j m C) (Q m C)
noncomputable def r4(sc:Scope)(K:Frag)(cls:String)(x:Str):Bool:=sc.names.lookup x==some NameKind.globalImplicit&&(BP x&&(!(x==("__name__":Str))&&(nsIn K mainGlobals x==some none&&(bootBuiltins x==some (.type "ValueError")&&cls=="ValueError"))))
def MI(sc:Scope)(K:Frag)(cls:String)(hs:List ExceptHandler):Option (List Stmt):=match hs with
 |[]=>none
 | .ExceptHandler t nm bs _::_=>(match t.bind Cb with
  |none=>none
  |some x=>(match nm.isNone&&(!bs.isEmpty&&r4 sc K cls x.1) with
   |true=>some bs
   |false=>none))
mutual
def KB(Γ:EC):Nat→Stmt→AU→List AB→A5→Prop
 |0,_,_,_,_=>False
 |n+1,st,m,C,Q=>let Γe:EC:=Γ.sX fun c C=>Q.exc c m C;match st with
  | .Pass _=>Q.next m C
  | .Return v _=>(match v with
   |some e=>BV Γe n e m C Q.ret
   |none=>Q.ret .none C)
  | .Assign tg e _=>(match tg with
   |[]=>False
   |t::tg=>(match tg with
    |_::_=>False
    |[]=>(match t with
     | .Name x _=>(match Mt e with
      |true=>AD (!Γ.hd&&Cz Γ x) (Γ.cp Γ.sc e m C fun v C=>Q.next (Ae m x v) C)
      |false=>AD (Fc e)<|AD (Cz Γ x)<|BV Γe n e m C fun v C=>Q.next (Ae m x v) C)
     | .Attribute o x _=>BV Γe n e m C fun u C=>BV Γe n o m C fun v C=>Fo Γ.K v x u C fun C=>Q.next m C
     | .Tuple ts _ _=>AD (!Γ.hd&&(ts.all Az&&(Cf Γ.sc ts e).isSome))<|BV Γe n e m C fun v C=>AF (IH v) fun l=>AD (l.length==ts.length) (match Cf Γ.sc ts e with
      |some r=>(match r with
       |none=>FT Γ n ts l m C Q
       |some names=>AD (names.length==ts.length&&names.all (Cz Γ))<|Q.next (EE m names.reverse l.reverse) C)
      |none=>False)
     |_=>False)))
  | .AugAssign t op e _=>(match t with
   | .Name x _=>AD (Cz Γ x)<|AF (AP m x) fun u=>BV Γe n e m C fun v C=>Au (Cs u) (fun i=>(match op with
     | .Add=>(match C[i]? with
      |some (.list l)=>AF (Fz C v) fun l'=>l.length+l'.length≤1000000∧Q.next (Ae m x (.obj i)) (C.set i (.list (l++l')))
      |_=>False)
     |_=>False)) (R6 op u v fun r=>Q.next (Ae m x r) C)
   |_=>False)
  | .Expr e _=>AD (Fc e)<|BV Γe n e m C fun _ C=>Q.next m C
  | .Raise ea ca _=>AD (Og ea ca)<|AD (BP (KM ea)&&(!Γ.hd&& !Γ.tr&&(Γ.sc.names.lookup (KM ea)==some NameKind.globalImplicit))) (match nsIn Γ.K mainGlobals (KM ea),bootBuiltins (KM ea) with
   |some none,some (.type c)=>AD (!(KM ea==("__name__":Str))&&((c=="ValueError"||c=="TypeError")&&(SK ea).all Az))<|Dn Γe n (SK ea) m C fun vs C=>vs.length≤1000∧Q.exc c m C
   |_,_=>False)
  | .If t b o _=>I4 Γe n t m C fun c C=>Ad c (Av Γ n b m C Q) (Av Γ n o m C Q)
  | .Break _=>Q.brk m C
  | .Continue _=>Q.cont m C
  | .For t it b o p=>AD (!Γ.hd) (Γ.lp Γ.sc (.For t it b o p) m C Q)
  | .While t b o p=>AD (!Γ.hd) (Γ.lp Γ.sc (.While t b o p) m C Q)
  | .Try b hs oe fb _=>(match oe with
   |_::_=>False
   |[]=>(match fb with
    |_::_=>False
    |[]=>AD (!Γ.hd&& !hs.isEmpty)<|Av Γ.sT n b m C (Q.sE fun c m C=>AD (Γ.top&&(MI Γ.sc Γ.K c hs).isSome) (Av Γ.sH n (zf hs) m C (Q.sE fun _ _ _=>False)))))
  |_=>False
def FT(Γ:EC):Nat→List Expr→List V→AU→List AB→A5→Prop
 |0,_,_,_,_,_=>False
 |n+1,ts,l,m,C,Q=>match ts,l with
  |[],[]=>Q.next m C
  | .Name x _::ts,v::l=>AD (Cz Γ x)<|FT Γ n ts l (Ae m x v) C Q
  | .Attribute o x _::ts,v::l=>BV (Γ.sX fun c C=>Q.exc c m C) n o m C fun ov C=>Fo Γ.K ov x v C fun C=>FT Γ n ts l m C Q
  |_,_=>False
def Av(Γ:EC):Nat→List Stmt→AU→List AB→A5→Prop
 |0,_,_,_,_=>False
 |n+1,sts,m,C,Q=>match sts with
  |[]=>Q.next m C
  |s::r=>KB Γ n s m C (Q.sN fun m C=>Av Γ n r m C Q)
end
def Dd(Γ:EC)(n:Nat)(t:Expr)(b:List Stmt)(Q:A5)(x:V)(m:AU)(C:List AB)(K:AU→List AB→Prop):Prop:=match t with
 | .Name y _=>AD (Cz Γ y)<|Av Γ n b (Ae m y x) C (Q.sL K)
 | .Tuple ts _ _=>AD (ts.all Az)<|AF (IH x) fun l=>AD (l.length==ts.length)<|FT Γ n ts l m C (Q.sN fun m C=>Av Γ n b m C (Q.sL K))
 |_=>False
def R8(Γ:EC)(n:Nat)(t it:Expr)(b:List Stmt)(m:AU)(C:List AB)(Q:A5):Prop:=
 AD (Gp it&& !Γ.hd)<|BV (Γ.sX fun c C=>Q.exc c m C) n it m C fun v C=>Ms v∧AF (G2 C v) fun items=>Jp (FD v C) (Dd Γ n t b Q) items m C Q.next
def LG(Γ:EC)(n:Nat)(t:Expr)(b:List Stmt)(m:AU)(C:List AB)(Q:A5):Prop:=
 z9 (fun m C K=>I4 (Γ.sX fun c C=>Q.exc c m C) n t m C K) (fun m C K=>Av Γ n b m C (Q.sL K)) m C Q.next
end
section
section
variable{g:Gx}{σ:Lg}
theorem Jm{x y:Str}{t:Nat}(h:y=x):(Value.str y t).isStr x=true:=by subst h;exact beq_self_eq_true y
theorem Jl{x y:Str}{t:Nat}(h:¬y=x):(Value.str y t).isStr x=false:=beq_false_of_ne h
theorem Dk.norefs{at_:AU}{es:List DictEntry}(r:Dk g σ at_ es):es.any (·.refKey)=false:=by
 induction r with
 |nil=>rfl
 |cons _ _ ih=>exact ih
theorem Om{x z:Str}{t:Nat}{k:Int}{y:Value}{es:List DictEntry}(h:z=x):getL x (⟨k,.str z t,y⟩::es)=some (some y):=by
 unfold getL
 rw[List.find?_cons_of_pos (p:=fun e:DictEntry=>e.key.isStr x) (Jm h)]
theorem Hw{x z:Str}{t:Nat}{k:Int}{y:Value}{es:List DictEntry}(h:¬z=x):getL x (⟨k,.str z t,y⟩::es)=getL x es:=by
 unfold getL
 rw[List.find?_cons_of_neg (p:=fun e:DictEntry=>e.key.isStr x) (by rw[show(Value.str z t).isStr x=false from Jl h];exact Bool.false_ne_true)]
 rfl
theorem Dk.get{at_:AU}{es:List DictEntry}{x:Str}{v:V}(r:Dk g σ at_ es):AP at_ x=some v→∃y,getL x es=some (some y)∧VR σ v y:=by
 induction r with
 |nil=>exact AM
 |cons r b ih=>
  intro h
  rename_i z v0 l t y es
  change(if z=x then some v0 else AP l x)=some v at h
  by_cases q:z=x
  ·rw[if_pos q] at h;cases h
   exact⟨y,Om q,r⟩
  ·rw[if_neg q] at h
   rw[Hw q]
   exact ih h
theorem Dk.get_none{at_:AU}{es:List DictEntry}{x:Str}(r:Dk g σ at_ es):AP at_ x=none→getL x es=some none:=by
 induction r with
 |nil=>exact fun _=>rfl
 |cons r b ih=>
  intro h
  rename_i z v0 l t y es
  change(if z=x then some v0 else AP l x)=none at h
  by_cases q:z=x
  ·rw[if_pos q] at h;cases h
  ·rw[if_neg q] at h
   rw[Hw q]
   exact ih h
theorem Dk.put{x:Str}{v:V}{y:Value}{t:Nat}(rv:VR σ v y){at_:AU}{es:List DictEntry}(r:Dk g σ at_ es):Dk g σ (Ae at_ x v) (putL x (PyData.keyHash g.w.params x) (.str x t) y es):=by
 induction r with
 |nil=>exact .cons rv .nil
 |cons r b ih=>
  rename_i z v0 l t' y0 es
  show Dk g σ (if z=x then(x,v)::l else(z,v0)::Ae l x v) (if(Value.str z t').isStr x=true then _ else _)
  by_cases q:z=x
  ·rw[if_pos q,if_pos (Jm q)]
   subst q
   exact .cons rv b
  ·rw[if_neg q,if_neg (by rw[Jl q];exact Bool.false_ne_true)]
   exact .cons r ih
theorem Dk.len{at_:AU}{es:List DictEntry}(r:Dk g σ at_ es):es.length=at_.length:=by
 induction r with
 |nil=>rfl
 |cons _ _ ih=>exact congrArg (·+1) ih
inductive Sm(g:Gx)(σ:Lg)(C:List AB)(as:I7)(os:BK)(i:Nat)(c:AB):Prop
 |mk:∀p pre o post,as[i]? =some p→BZ g σ c p o→os=pre++(o++post)→(∀c' o',BZ g σ c' p o'→Ah g σ (C.set i c') as (pre++(o'++post)))→Sm g σ C as os i c
theorem Ah.pick{C:List AB}{as:I7}{os:BK}{i:Nat}{c:AB}(r:Ah g σ C as os):C[i]? =some c→Sm g σ C as os i c:=by
 induction r generalizing i with
 |nil=>exact AM
 |cons r b ih=>
  rename_i c0 p o C as os
  intro h
  cases i with
  |zero=>cases h;exact⟨p,[],o,os,rfl,r,rfl,fun c' o' r'=>show Ah g σ (c'::C) (p::as) (o'++os) from .cons r' b⟩
  |succ i=>
   obtain⟨q,pre,o2,post,h1,h2,h3,h4⟩:=ih h
   exact⟨q,o++pre,o2,post,h1,h2,by rw[h3,List.append_assoc],fun c' o' r'=>by rw[List.append_assoc];exact Ah.cons r (h4 c' o' r')⟩
theorem Ny{l:AU}{es:List DictEntry}(r:Dk g σ l es):∃kvs:List (Str×Value),kvs.map (·.1)=l.map (·.1)∧Pairs (strKind g.prog g.w) es kvs:=by
 induction r with
 |nil=>exact⟨[],rfl,.nil⟩
 |cons r b ih=>
  rename_i x v l t y es
  obtain⟨kvs,h1,h2⟩:=ih
  exact⟨(x,y)::kvs,congrArg (List.cons x) h1,.cons (strKind_is g.prog g.w x _) rfl h2⟩
theorem Lj{l:AU}{es:List DictEntry}(r:Dk g σ l es):∀e∈es,∃k,(strKind g.prog g.w).is k e.key=true∧e.hash=(strKind g.prog g.w).hash k:=by
 induction r with
 |nil=>exact fun _ h=>nomatch h
 |cons r b ih=>
  rename_i x v l t y es
  intro e h
  rcases List.mem_cons.mp h with q|q
  ·subst q;exact⟨x,strKind_is g.prog g.w x _,rfl⟩
  ·exact ih e q
theorem Dk.dOf{h:Heap}{a:Addr}{l:AU}{es:List DictEntry}{n:Nat}(r:Dk g σ l es)(nd:(l.map (·.1)).Nodup)(ho:h.get? a=some (dictOf es n)):∃kvs:List (Str×Value),kvs.length=l.length∧h.DictOf (strKind g.prog g.w) a kvs:=by
 obtain⟨kvs,h1,h2⟩:=Ny r
 exact⟨kvs,by have:=congrArg List.length h1;rw[List.length_map,List.length_map] at this;exact this,_,es.toArray,n,ho,⟨rfl,rfl,rfl⟩,rfl,fun e he=>Lj r e (List.mem_toArray.mp he),h2,by rw[h1];exact nd⟩
theorem Q3{x:Str}{l:AU}{es:List DictEntry}(r:Dk g σ l es):((es.find? fun e=>(strKind g.prog g.w).is x e.key).map (·.val)).isSome=(AP l x).isSome:=by
 induction r with
 |nil=>rfl
 |cons r b ih=>
  rename_i z v l t y es
  show _=(if z=x then some v else AP l x).isSome
  by_cases q:z=x
  ·rw[if_pos q,List.find?_cons_of_pos (by subst q;exact strKind_is g.prog g.w z t)];rfl
  ·rw[if_neg q,List.find?_cons_of_neg (by show¬(z==x)=true;exact fun h=>q (bE h))]
   exact ih
theorem Dk.mOf{h:Heap}{a:Addr}{l:AU}{es:List DictEntry}{n:Nat}(r:Dk g σ l es)(ho:h.get? a=some (dictOf es n)):∃f:Str→Option Value,h.MapOf (strKind g.prog g.w) a f∧∀x,(f x).isSome=(AP l x).isSome:=
 ⟨fun x=>findBy (strKind g.prog g.w).is es.toArray x,⟨_,es.toArray,n,ho,⟨rfl,rfl,rfl⟩,rfl,fun e he=>Lj r e (List.mem_toArray.mp he),fun _=>rfl⟩,fun x=>by have:=Q3 (x:=x) r;show(Option.map (·.val) (Array.find? (fun e=>(strKind g.prog g.w).is x e.key) es.toArray)).isSome=_;rw[List.find?_toArray];exact this⟩
end
end
section
inductive z5(f:Fx):Prop
 |mk:∀A₀ env outer,f.fs=env::outer→env.frame=some f.L→env.scope.kind= .function→Below A₀ f.base outer f.h₀→z5 f
structure Fm(g:Gx)(K:Frag)(hd:Bool)(d:Nat)(f:Fx)(A:Around):Prop where
 fr:z5 f
 hA:A.frames=some f.fs
 X:K.In f.h₀
 T:TopRead g.p g.loose g.mg g.mb f.h₀
 room:A.depth+4*d≤900
 units:A.units+16*d≤9000
 hh:hd=false→A.handled=none
def D7(cls:String):Prop:=isSubtype (.type cls) (.type "AttributeError")=pure false
inductive AN(g:Gx)(f:Fx)(Q:VQ)(σ:Lg)(v:Value)(s':Shared):Prop where
 |mk:∀σ' V C',Am σ σ'→St g f C' σ' s'→VR σ' V v→Q V C'→AN g f Q σ v s'
inductive Di(g:Gx)(f:Fx)(Q:List V→List AB→Prop)(σ:Lg)(v:List Value)(s':Shared):Prop where
 |mk:∀σ' V C',Am σ σ'→St g f C' σ' s'→BU σ' V v→Q V C'→Di g f Q σ v s'
inductive DB(g:Gx)(f:Fx)(Q:Bool→List AB→Prop)(σ:Lg)(c:Bool)(s':Shared):Prop where
 |mk:∀σ' C',Am σ σ'→St g f C' σ' s'→Q c C'→DB g f Q σ c s'
inductive Ab(g:Gx)(f:Fx)(X:XQ)(σ:Lg)(ev:Value)(s':Shared):Prop where
 |mk:∀e t cls vs σ' C' os h,ev= .ref e→RaisedK f.base f.fs e (.type cls) t vs (os++(f.b.z++σ'.W)) s'.heap→Fr f.h₀ f.L h f.μ→h.UpToSlots s'.heap→Am σ σ'→Ey g f.b C' σ' os s'→D7 cls→X cls C'→Ab g f X σ ev s'
structure Sx where
 A:Around
 base:Heap
 outer:List Env
 h₀:Heap
 L:Addr
 b:Bs
 cn:Str
 a:Addr
 ccd:Value
 cl:List (Str×Addr)
structure Tx where
 zc:BK
 μ:Str→Option Value
 σ:Lg
noncomputable def Sx.env(x:Sx)(sc:Scope):Env:=envX x.cn sc x.L x.a x.ccd x.cl
noncomputable def Sx.f(x:Sx)(sc:Scope)(τ:Tx):Fx:=⟨x.base,x.env sc::x.outer,x.h₀,x.L,⟨x.b.g,x.b.d,x.b.o,τ.zc++x.b.z⟩,τ.μ⟩
noncomputable def Sx.n(x:Sx)(sc:Scope)(τ:Tx):Nm:=⟨sc,x.cl,τ.zc,τ.μ⟩
noncomputable def Sx.wz(x:Sx)(z:BK):Sx:=⟨x.A,x.base,x.outer,x.h₀,x.L,⟨x.b.g,x.b.d,x.b.o,z⟩,x.cn,x.a,x.ccd,x.cl⟩
noncomputable def Sx.wA(x:Sx)(A:Around):Sx:=⟨A,x.base,x.outer,x.h₀,x.L,x.b,x.cn,x.a,x.ccd,x.cl⟩
noncomputable def Tx.wσ(τ:Tx)(σ:Lg):Tx:=⟨τ.zc,τ.μ,σ⟩
def SS(g:Gx)(x:Sx)(sc:Scope)(C:List AB)(τ:Tx)(s:Shared):Prop:=St g (x.f sc τ) C τ.σ s
def SL(x:Sx)(sc:Scope)(τ:Tx)(m:AU):Prop:=A2 (x.n sc τ) τ.σ m
inductive HU(g:Gx)(x:Sx)(X:String→AU→List AB→Prop)(σ:Lg)(ev:Value)(s':Shared):Prop where
 |mk:∀e t cls vs σ' C' os m,ev= .ref e→RaisedK x.base x.outer e (.type cls) t vs (os++(x.b.z++σ'.W)) s'.heap→x.h₀.UpToSlots s'.heap→Am σ σ'→Ey g x.b C' σ' os s'→D7 cls→X cls m C'→HU g x X σ ev s'
inductive W2(x:Sx)(sc:Scope)(tr:Bool)(e:Addr)(cls:String)(os:BK)(τ:Tx)(h:Heap)(s':Shared):Prop
 |call:∀t vs,RaisedK x.base (x.env sc::x.outer) e (.type cls) t vs (os++(τ.zc++x.b.z++τ.σ.W)) s'.heap→h.UpToSlots s'.heap→W2 x sc tr e cls os τ h s'
 |made:∀vs,tr=false→Heap.MadeExcOf h s'.heap e (.type cls) vs→News x.h₀ x.L h (os++(τ.zc++x.b.z++τ.σ.W))→W2 x sc tr e cls os τ h s'
inductive Aq(g:Gx)(x:Sx)(sc:Scope)(tr:Bool)(X:String→AU→List AB→Prop)(σ:Lg)(ev:Value)(s':Shared):Prop where
 |mk:∀e cls τ C' os h m,ev= .ref e→W2 x sc tr e cls os τ h s'→Fr x.h₀ x.L h τ.μ→Am σ τ.σ→Ey g (x.f sc τ).b C' τ.σ os s'→SL x sc τ m→D7 cls→X cls m C'→Aq g x sc tr X σ ev s'
 |out:tr=false→wpAny g.M x.A («leaving» (x.env sc) ev) (fun _ s''=>HU g x X σ ev s'') (fun _ _=>False) s'→Aq g x sc tr X σ ev s'
section
variable{g:Gx}{f:Fx}{K:Frag}{hd:Bool}{d:Nat}{σ σ':Lg}{s s':Shared}{C:List AB}
theorem Fm.turn{A A':Around}(M:Fm g K hd (d+1) f A)(h1:A'.frames=A.frames)(h2:A'.depth≤A.depth+4)(h3:A'.units≤A.units+16)(h4:A'.handled=A.handled):Fm g K hd d f A':=
 ⟨M.fr,h1.trans M.hA,M.X,M.T,AK [_,_,_] [] [.nl AA (.a v1 k4),.nl (.a v1 (.m 4 (.a AT AO))) (.k 900)] (.nl (.a AA (.m 4 AT)) (.k 900)) [1,1,1] rfl h2 M.room,
  AK [_,_,_] [] [.nl AA (.a v1 (.k 16)),.nl (.a v1 (.m 16 (.a AT AO))) (.k 9000)] (.nl (.a AA (.m 16 AT)) (.k 9000)) [1,1,1] rfl h3 M.units,fun e=>h4.trans (M.hh e)⟩
section
variable{A:Around}
theorem Fm.down(M:Fm g K hd (d+1) f A):Fm g K hd d f A:=M.turn rfl (Nat.le_add_right _ _) (Nat.le_add_right _ _) rfl
theorem Fm.in1(M:Fm g K hd (d+1) f A):Fm g K hd d f A.in1:=M.turn rfl (Nat.le_add_right _ _) (Nat.add_le_add_left (by decide) _) rfl
theorem Fm.making{C:Addr}{r:List Value}{k:List (Str×Value)}(M:Fm g K hd (d+1) f A):Fm g K hd d f (A.under (.builtin "type.__call__" ⟨.ref C::r,k⟩)):=
 M.turn (by unfold Around.under;dsimp only;rw[show(Code.builtin "type.__call__" ⟨.ref C::r,k⟩).envs=[] from by kernel_rfl];rfl) (by unfold Around.under;dsimp only;rw[show(Code.builtin "type.__call__" ⟨.ref C::r,k⟩).weight=1 from by kernel_rfl];exact Nat.add_le_add_left (by decide) _)
  (by unfold Around.under;dsimp only;rw[show(Code.builtin "type.__call__" ⟨.ref C::r,k⟩).cUnits=1 from by kernel_rfl];exact Nat.add_le_add_left (by decide) _) rfl
end
def IF(σ:Lg)(l:List (Str×V))(kws:List (Str×Value)):Prop:=l.map (·.1)=kws.map (·.1)∧BU σ (l.map (·.2)) (kws.map (·.2))
theorem AN.here{Q:VQ}{V:V}{v:Value}(S:St g f C σ s)(r:VR σ V v)(q:Q V C):AN g f Q σ v s:=⟨σ,V,C,Am.refl,S,r,q⟩
theorem AN.ext{Q:VQ}{v:Value}(e:Am σ σ')(h:AN g f Q σ' v s'):AN g f Q σ v s':=by
 cases h with|mk σ2 V C e2 S r q=>exact⟨σ2,V,C,e.trans e2,S,r,q⟩
theorem Ab.ext{X:XQ}{ev:Value}(x:Am σ σ')(h:Ab g f X σ' ev s'):Ab g f X σ ev s':=by
 cases h with|mk e t cls vs σ2 C' os h a b c d r k n q=>exact⟨e,t,cls,vs,σ2,C',os,h,a,b,c,d,x.trans r,k,n,q⟩
theorem HU.ext{x:Sx}{X:String→AU→List AB→Prop}{ev:Value}(e0:Am σ σ')(h:HU g x X σ' ev s'):HU g x X σ ev s':=by
 cases h with|mk e t cls vs σ2 C' os m a b c r k n q=>exact⟨e,t,cls,vs,σ2,C',os,m,a,b,c,e0.trans r,k,n,q⟩
theorem Aq.ext{x:Sx}{sc:Scope}{tr:Bool}{X:String→AU→List AB→Prop}{ev:Value}(e:Am σ σ')(h:Aq g x sc tr X σ' ev s'):Aq g x sc tr X σ ev s':=by
 cases h with
 |mk e' cls τ C' os h m a b c r k l n q=>exact .mk e' cls τ C' os h m a b c (e.trans r) k l n q
 |out t h=>exact .out t (wpAny_mono h (fun _ _ q=>q.ext e) fun _ _ f=>f)
theorem Ab.up{x:Sx}{sc:Scope}{tr:Bool}{X:String→AU→List AB→Prop}{ev:Value}{τ:Tx}{m:AU}{σ0:Lg}(e0:Am σ0 σ)(h:Ab g (x.f sc τ) (fun c C=>X c m C) σ ev s')(hl:A2 (x.n sc τ) σ m):Aq g x sc tr X σ0 ev s':=by
 cases h with|mk e t cls vs σ' C' os h a b c d r k n q=>exact .mk e cls (τ.wσ σ') C' os h m a (.call t vs b d) c (e0.trans r) k (hl.ext r) n q
def ut(x:Sx)(sc:Scope)(Q:A5)(τ:Tx)(C:List AB):Flow→Prop
 | .next=>∃m,SL x sc τ m∧Q.next m C
 | .ret v=>∃V,VR τ.σ V v∧Q.ret V C
 | .brk=>∃m,SL x sc τ m∧Q.brk m C
 | .cont=>∃m,SL x sc τ m∧Q.cont m C
inductive As(g:Gx)(x:Sx)(sc:Scope)(Q:A5)(σ:Lg)(fl:Flow)(s':Shared):Prop where
 |mk:∀τ' C',Am σ τ'.σ→SS g x sc C' τ' s'→ut x sc Q τ' C' fl→As g x sc Q σ fl s'
theorem As.ext{x:Sx}{sc:Scope}{Q:A5}{v:Flow}(e:Am σ σ')(h:As g x sc Q σ' v s'):As g x sc Q σ v s':=by
 cases h with|mk τ C e2 S q=>exact⟨τ,C,e.trans e2,S,q⟩
theorem Di.ext{Q:List V→List AB→Prop}{v:List Value}(e:Am σ σ')(h:Di g f Q σ' v s'):Di g f Q σ v s':=by
 cases h with|mk σ2 V C e2 S r q=>exact⟨σ2,V,C,e.trans e2,S,r,q⟩
theorem DB.ext{Q:Bool→List AB→Prop}{v:Bool}(e:Am σ σ')(h:DB g f Q σ' v s'):DB g f Q σ v s':=by
 cases h with|mk σ2 C e2 S q=>exact⟨σ2,C,e.trans e2,S,q⟩
theorem HY{t:Sem Value}{A:Around}{Q:VQ}{X:XQ}{σ0:Lg}{G:Value→Shared→Prop}(e0:Am σ0 σ)(h:wpAny g.M A t (AN g f Q σ) (Ab g f X σ) s)
  (k:∀σ1 V C v s1,Am σ0 σ1→Am σ σ1→St g f C σ1 s1→VR σ1 V v→Q V C→G v s1):wpAny g.M A t G (Ab g f X σ0) s:=
 wpAny_mono h (fun v s1 q=>by cases q with|mk σ1 V C e1 S r q=>exact k σ1 V C v s1 (e0.trans e1) e1 S r q) fun _ _ e=>e.ext e0
end
end
section
theorem BL{α:Type}{M:Model}{A:Around}{t:Sem α}{Q:α→Shared→Prop}{E:Value→Shared→Prop}{s:Shared}(h:∀R:α→Shared→Prop,(∀v s,Q v s→R v s)→wpAny M A t R E s):wpAny M A t Q E s:=h Q fun _ _ q=>q
section
variable{g:Gx}{f:Fx}{K:Frag}{σ σ0:Lg}{s:Shared}{C:List AB}{M:Model}{A:Around}{E:Value→Shared→Prop}
theorem BU.append{l l':List V}{vs vs':List Value}(h:BU σ l vs)(h':BU σ l' vs'):BU σ (l++l') (vs++vs'):=by
 induction l generalizing vs with
 |nil=>cases h;exact h'
 |cons v l ih=>cases h with|cons a b=>exact .cons a (ih b)
theorem BU.len{l:List V}{vs:List Value}(h:BU σ l vs):vs.length=l.length:=by
 induction l generalizing vs with
 |nil=>cases h;rfl
 |cons v l ih=>cases h with|cons a b=>exact congrArg (·+1) (ih b)
theorem BU.alen{l:List V}{vs:List Value}(h:BU σ l vs):vs.toArray.size=l.length:=h.len
theorem BU.ofInts{vs:List Value}{l:List Int}(h:IntsAre vs l):BU σ (l.map .int) vs:=by
 induction h with
 |nil=>exact .nil
 |cons n t _ ih=>exact .cons (.int n t) ih
theorem VR.asLi{x:V}{u:Value}{l:List Int}(r:VR σ x u)(h:asLi x=some l):DJ σ "list" l u:=(asLi.ok h▸r:VR σ (.li l) u).liI
theorem VR.asTi{x:V}{u:Value}{l:List Int}(r:VR σ x u)(h:asTi x=some l):DJ σ "tuple" l u:=(asTi.ok h▸r:VR σ (.ti l) u).tiI
theorem VR.asLst{x:V}{u:Value}{l:List V}(r:VR σ x u)(h:asLst x=some l):F5 σ "list" l u:=(asLst.ok h▸r:VR σ (.lst l) u).lstI
theorem VR.asTyp{x:V}{u:Value}{n:String}(r:VR σ x u)(h:asTyp x=some n):Lx n u:=(asTyp.ok h▸r:VR σ (.typ n) u).typI
theorem St.isList{a:Addr}{vs:List Value}{n:Nat}(S:St g f C σ s)(h:(a,Ag "list" vs n)∈σ.W):s.heap.IsList a vs.toArray:=⟨_,(S.wmem h).1,rfl,_,rfl⟩
theorem St.isTup{a:Addr}{vs:List Value}{n:Nat}(S:St g f C σ s)(h:(a,Ag "tuple" vs n)∈σ.W):IsTup s.heap a vs.toArray:=⟨_,(S.wmem h).1,rfl,_,rfl⟩
inductive L9(K:Frag)(a:Nat)(es:List DictEntry):Prop
 |mk:∀o n,K.lookup a=some o→o.cls= .type "dict"→o.data= .dict es.toArray n→(∀(i:Nat) (e:DictEntry),es.toArray[i]? =some e→Ca e=true)→(a==sysModules)=false→L9 K a es
theorem St.new{Q:VQ}{h':Heap}{D:Addr}{ob:Obj}{x:V}{os:BK}(c:Ey g f.b C σ os s)(hn:News f.h₀ f.L s.heap (os++(f.b.z++σ.W)))(e:Am σ0 σ)(F':Fr f.h₀ f.L h' f.μ)(hN:News f.h₀ f.L h' ((D,ob)::(os++(f.b.z++σ.W))))(hD:s.heap.objs.size≤D)(r:VR ⟨(D,ob)::σ.W,σ.ρ⟩ x (.ref D))(q:Q x C):
  AN g f Q σ0 (.ref D) {s with heap:=h'}:=
 ⟨_,x,C,e.trans Am.push,St.push c F' hN fun p hp=>Nat.ne_of_lt (Nat.lt_of_lt_of_le (Heap.lt_size (hn p hp).1) hD),r,q⟩
theorem Vw{vs ws:List Value}{ns ms:List Int}(h:IntsAre vs ns)(h':IntsAre ws ms):IntsAre (vs++ws) (ns++ms):=by
 induction h with
 |nil=>exact h'
 |cons n t _ ih=>exact .cons n t ih
theorem Oj{vs:List Value}{ns:List Int}(h:IntsAre vs ns)(k:Nat):IntsAre (List.replicate k vs).flatten (List.replicate k ns).flatten:=by
 induction k with
 |zero=>exact .nil
 |succ k ih=>exact Vw h ih
theorem Hy(xs:List Value)(k:Nat):∀acc:List Value,List.foldl (fun x1 x2=>x1++x2) acc.toArray (List.replicate k xs.toArray)=(acc++(List.replicate k xs).flatten).toArray:=by
 induction k with
 |zero=>exact fun acc=>congrArg List.toArray (List.append_nil acc).symm
 |succ k ih=>exact fun acc=>(congrArg (fun z=>List.foldl (fun x1 x2=>x1++x2) z (List.replicate k xs.toArray)) (List.append_toArray acc xs)).trans ((ih (acc++xs)).trans (congrArg List.toArray (List.append_assoc ..)))
theorem QG(k:Nat):(List.replicate k ([]:List Value)).flatten=[]:=by
 induction k with
 |zero=>rfl
 |succ k ih=>exact ih
theorem r6(vs:List Value)(k:Nat):List.foldl (fun x1 x2=>x1++x2) (#[]:Array Value) (List.replicate (if vs.toArray.isEmpty=true then 0 else k) vs.toArray)=((List.replicate k vs).flatten).toArray:=by
 cases vs with
 |nil=>exact(congrArg List.toArray (QG k)).symm
 |cons x r=>exact Hy (x::r) k []
section
variable{x y:V}{u v:Value}{G:Value→Value→Prop}
theorem Kg{a b:Int}(rx:VR σ x u)(ry:VR σ y v)(ha:AX x=some a)(hb:AX y=some b)(k:∀t t',G (.int a t) (.int b t')):G u v:=rx.gI (G:=fun u=>G u v) ha fun t=>ry.gI hb (k t)
theorem DT{H:Int→Int→Prop}(rx:VR σ x u)(ry:VR σ y v)(h:v2 AX AX x y H)(k:∀a b t t',H a b→G (.int a t) (.int b t')):G u v:=by
 obtain⟨a,b,ha,hb,h⟩:=v2.ok h;exact Kg rx ry ha hb fun t t'=>k a b t t' h
theorem Q0{a b:List UInt8}(rx:VR σ x u)(ry:VR σ y v)(ha:BF x=some a)(hb:BF y=some b)(k:∀t t',G (.bytes a.toArray t) (.bytes b.toArray t')):G u v:=rx.gB (G:=fun u=>G u v) ha fun t=>ry.gB hb (k t)
theorem V0{a b:Str}(rx:VR σ x u)(ry:VR σ y v)(ha:Bl x=some a)(hb:Bl y=some b)(k:∀t t',G (.str a t) (.str b t')):G u v:=rx.gS (G:=fun u=>G u v) ha fun t=>ry.gS hb (k t)
theorem XO{H:Str→Str→Prop}(rx:VR σ x u)(ry:VR σ y v)(h:v2 Bl Bl x y H)(k:∀a b t t',H a b→G (.str a t) (.str b t')):G u v:=by
 obtain⟨a,b,ha,hb,h⟩:=v2.ok h;exact V0 rx ry ha hb fun t t'=>k a b t t' h
theorem V4{a:Str}{b:Int}(rx:VR σ x u)(ry:VR σ y v)(ha:Bl x=some a)(hb:AX y=some b)(k:∀t t',G (.str a t) (.int b t')):G u v:=rx.gS (G:=fun u=>G u v) ha fun t=>ry.gI hb (k t)
theorem uw{H:List UInt8→Int→Prop}(rx:VR σ x u)(ry:VR σ y v)(h:v2 BF AX x y H)(k:∀a b t t',H a b→G (.bytes a.toArray t) (.int b t')):G u v:=by
 obtain⟨a,b,ha,hb,h⟩:=v2.ok h;exact rx.gB (G:=fun u=>G u v) ha fun t=>ry.gI hb fun t'=>k a b t t' h
end
theorem pI{Q:VQ}(S:St g f C σ s)(e:Am σ0 σ){i:Int}(q:Q (.int i) C){t n:Nat}:AN g f Q σ0 (.int i t) {s with toks:=n}:=⟨σ,.int i,C,e,S.toks n,.int i t,q⟩
theorem pS{Q:VQ}(S:St g f C σ s)(e:Am σ0 σ){i:Str}(q:Q (.str i) C){t n:Nat}:AN g f Q σ0 (.str i t) {s with toks:=n}:=⟨σ,.str i,C,e,S.toks n,.str i t,q⟩
theorem pB{Q:VQ}(S:St g f C σ s)(e:Am σ0 σ){i:List UInt8}(q:Q (.bytes i) C){t n:Nat}:AN g f Q σ0 (.bytes i.toArray t) {s with toks:=n}:=⟨σ,.bytes i,C,e,S.toks n,.bytes i t,q⟩
theorem pT{Q:VQ}(S:St g f C σ s)(e:Am σ0 σ){b:Bool}(q:Q (.bool b) C):AN g f Q σ0 (.bool b) s:=⟨σ,.bool b,C,e,S,.bool b,q⟩
theorem u8{x y:V}{Q:VQ}{u v:Value}(e:Am σ0 σ)(S:St g f C σ s)(rx:VR σ x u)(ry:VR σ y v)(h:NR .Add x y fun z=>Q z C):
  wpAny g.M A (binaryOp .Add u v) (AN g f Q σ0) E s:=by
 refine BL fun R hR=> ?_
 rcases Au.ok h with⟨a,ha,h⟩|h
 ·obtain⟨b,hb,h⟩:=AF.ok h;exact Kg (G:=fun u v=>wpAny g.M A (binaryOp .Add u v) R E s) rx ry ha hb fun _ _=>add_int (hR _ _ (pI S e h))
 rcases Au.ok h with⟨a,ha,h⟩|h
 ·obtain⟨b,hb,h⟩:=AF.ok h;exact Q0 (G:=fun u v=>wpAny g.M A (binaryOp .Add u v) R E s) rx ry ha hb fun _ _=>bytes_add_K h.1 rfl fun t' k=>hR _ _ (pB S e h.2)
 rcases Au.ok h with⟨l,ha,h⟩|h
 ·obtain⟨b,hb,h⟩:=AF.ok h
  obtain⟨h1,i1⟩:=rx.asLi ha
  obtain⟨h2,i2⟩:=ry.asLi hb
  have il:=S.isList h1
  have jl:=S.isList h2
  cases S with|mk os F N c=>
  exact add_arrays_ints F N il jl i1 i2 (fun h' F' N' I=>hR _ _ (St.new c N e F' N' (Nat.le_refl _) (.li (.head _) I) h.2)) (Nat.le_trans h.1 (by decide))
 rcases Au.ok h with⟨l,ha,h⟩|h
 ·obtain⟨b,hb,h⟩:=AF.ok h
  obtain⟨h1,i1⟩:=rx.asLst ha
  obtain⟨h2,i2⟩:=ry.asLst hb
  have il:=S.isList h1
  have jl:=S.isList h2
  cases S with|mk os F N c=>
  exact add_arrays F N il jl (fun h' F' N'=>hR _ _ (St.new (x:= .lst _) c N e F' N' (Nat.le_refl _) (.lst (.head _) (BU.ext Am.push (i1.append i2))) h.2)) (Nat.le_trans (by rw[i1.alen,i2.alen];exact h.1) (by decide:1000000≤sizeLine))
 exact XO (G:=fun u v=>wpAny g.M A (binaryOp .Add u v) R E s) rx ry h fun a b _ _ h=>PyProof.Rows.add_str (fun t' k=>hR _ _ (pS S e h.2)) (Nat.le_trans h.1 (by decide:1000000≤sizeLine))
theorem u1{x y:V}{Q:VQ}{u v:Value}(e:Am σ0 σ)(S:St g f C σ s)(rx:VR σ x u)(ry:VR σ y v)(h:NR .Mult x y fun z=>Q z C):
  wpAny g.M A (binaryOp .Mult u v) (AN g f Q σ0) E s:=by
 refine BL fun R hR=> ?_
 rcases Au.ok h with⟨a,ha,h⟩|h
 ·obtain⟨b,hb,h⟩:=AF.ok h;exact Kg (G:=fun u v=>wpAny g.M A (binaryOp .Mult u v) R E s) rx ry ha hb fun _ _=>PyProof.Rows.mul_int (hR _ _ (pI S e h.2)) h.1
 rcases Au.ok h with⟨l,ha,h⟩|h
 ·obtain⟨n,hb,h⟩:=AF.ok h
  refine ry.gI (G:=fun v=>wpAny g.M A (binaryOp .Mult u v) R E s) hb fun _=> ?_
  obtain⟨hm,I⟩:=rx.asLi ha
  have hm:=(S.wmem hm).1
  cases S with|mk os F N c=>
  refine mul_list F N hm (Int.le_trans (by decide) h.1) (Int.lt_of_le_of_lt h.2.2.1 (by decide)) (by rw[List.size_toArray,I.length];exact Nat.le_trans h.2.1 (by decide)) (fun h' F' N'=> ?_)
  rw[r6] at N'
  exact hR _ _ (St.new (x:= .li _) c N e F' N' (Nat.le_refl _) (.li (.head _) (Oj I _)) h.2.2.2)
 rcases Au.ok h with⟨l,ha,h⟩|h
 ·obtain⟨n,hb,h⟩:=AF.ok h;exact V4 (G:=fun u v=>wpAny g.M A (binaryOp .Mult u v) R E s) rx ry ha hb fun _ _=>SB.mul (mulOk_of 16 1000 h.1 h.2.2.1 (Int.le_trans (by decide) h.2.1) (by decide) (by decide)) fun t' k=>hR _ _ (pS S e h.2.2.2)
 rcases Au.ok h with⟨l,ha,h⟩|h
 ·obtain⟨n,hb,h⟩:=AF.ok h
  refine ry.gI (G:=fun v=>wpAny g.M A (binaryOp .Mult u v) R E s) hb fun _=> ?_
  obtain⟨hm,I⟩:=rx.asTi ha
  rename_i a vs nn
  refine Qj (S.wmem hm).1 h.2.2.1 h.2.2.2.1 (Bool.eq_false_iff.mpr fun q=>h.1 ?_) (by rw[List.size_toArray,I.length];exact h.2.1) ?_
  ·cases vs with
   |nil=>cases I;rfl
   |cons _ _=>exact BQ q
  by_cases hx:n=1
  ·rw[if_pos hx,if_pos hx]
   refine hR _ _ ⟨σ,_,C,e,S.toks _,.ti hm I,?_⟩
   have h5:=h.2.2.2.2
   subst hx
   rw[show(List.replicate (1:Int).toNat l).flatten=l from List.append_nil l] at h5
   exact h5
  ·rw[if_neg hx,if_neg hx]
   cases S with|mk os F N c=>
   rw[show List.foldl (fun x1 x2=>x1++x2) (#[]:Array Value) (List.replicate n.toNat vs.toArray)=((List.replicate n.toNat vs).flatten).toArray from Hy vs _ []]
   exact hR _ _ (St.new (x:= .ti _) c N e (F.push _) (N.push F _) (Nat.le_refl _) (.ti (.head _) (Oj I _)) h.2.2.2.2)
 exact uw (G:=fun u v=>wpAny g.M A (binaryOp .Mult u v) R E s) rx ry h fun _ _ _ _ h=>PySem.W.bytes_mul_any h.1 h.2.1 h.2.2.1 h.2.2.2.1 fun t' k=>hR _ _ (pB S e h.2.2.2.2)
theorem sOp{op:Operator}{x y:V}{Q:VQ}{u v:Value}(e:Am σ0 σ)(S:St g f C σ s)(rx:VR σ x u)(ry:VR σ y v)(h:NR op x y fun z=>Q z C):
  wpAny g.M A (binaryOp op u v) (AN g f Q σ0) E s:=by
 cases op with
 |Add=>exact u8 e S rx ry h
 |Mult=>exact u1 e S rx ry h
 |Sub=>exact DT (G:=fun u v=>wpAny g.M A (binaryOp .Sub u v) (AN g f Q σ0) E s) rx ry h fun _ _ _ _ h=>sub_int (pI S e h)
 |BitAnd=>exact DT (G:=fun u v=>wpAny g.M A (binaryOp .BitAnd u v) (AN g f Q σ0) E s) rx ry h fun _ _ _ _ h=>and_int (pI S e h)
 |BitOr=>exact DT (G:=fun u v=>wpAny g.M A (binaryOp .BitOr u v) (AN g f Q σ0) E s) rx ry h fun _ _ _ _ h=>or_int (pI S e h)
 |Mod=>
  rcases Au.ok h with⟨a,ha,h⟩|h
  ·obtain⟨b,hb,h⟩:=AF.ok h;obtain⟨T,hf,hq⟩:=h;exact V4 (G:=fun u v=>wpAny g.M A (binaryOp .Mod u v) (AN g f Q σ0) E s) rx ry ha hb fun _ _=>KPc.mod_lit rfl hf.1 (fun _ _=>hf.2 _ _) fun t' k=>pS S e hq
  exact DT (G:=fun u v=>wpAny g.M A (binaryOp .Mod u v) (AN g f Q σ0) E s) rx ry h fun _ _ _ _ h=>mod_int' h.1 (pI S e h.2)
 |FloorDiv=>exact DT (G:=fun u v=>wpAny g.M A (binaryOp .FloorDiv u v) (AN g f Q σ0) E s) rx ry h fun _ _ _ _ h=>floordiv_int h.1 (pI S e h.2.2) (.inl (PyProof.noPylong_small h.2.1))
 |RShift=>exact DT (G:=fun u v=>wpAny g.M A (binaryOp .RShift u v) (AN g f Q σ0) E s) rx ry h fun _ _ _ _ h=>rshift_int h.1 (pI S e h.2)
 |LShift=>exact DT (G:=fun u v=>wpAny g.M A (binaryOp .LShift u v) (AN g f Q σ0) E s) rx ry h fun _ _ _ _ h=>lshift_int h.1 h.2.1 (pI S e h.2.2)
 |_=>exact fE h
theorem Kd{b c:Array UInt8}{t u:Nat}{Q:Value→Shared→Prop}(hsz:b.size+c.size≤16777216)(h:∀t' k,Q (.bytes (b++c) t') {s with toks:=k}):wpAny g.M A (inplaceOp .Add (.bytes b t) (.bytes c u)) Q E s:=by
 refine inplaceOp_concat (typeIs_bytes s b t) (typeIs_bytes s c u) (by rw[typeLookup_type,builtinLookup_eq_fast];kernel_rfl) KBy.noFill_bytes_add KBy.seq_bytes_add (call_gives FB.slot_bytes_add (typeIs_bytes s b t) FB.entry_bytes_add (FB.args_bytes_add_2 _ _) (KBy.gives_bytes_add (KBy.tooLong_not hsz)) ?_)
 by_cases hb:b.isEmpty=true
 ·rw[if_pos hb]
  have h':=h u s.toks
  rw[Array.isEmpty_iff.1 hb,Array.empty_append] at h'
  exact h'
 ·rw[if_neg hb]
  by_cases hc:c.isEmpty=true
  ·rw[if_pos hc]
   have h':=h t s.toks
   rw[Array.isEmpty_iff.1 hc,Array.append_empty] at h'
   exact h'
  ·rw[if_neg hc]
   exact⟨by rw[Array.size_append,sizeLine_eq];exact hsz,h s.toks (s.toks+1)⟩
theorem u5{op:Operator}{x y:V}{Q:VQ}{u v:Value}(e:Am σ0 σ)(S:St g f C σ s)(rx:VR σ x u)(ry:VR σ y v)(h:R6 op x y fun z=>Q z C):
  wpAny g.M A (inplaceOp op u v) (AN g f Q σ0) E s:=by
 cases op with
 |Add=>
  rcases Au.ok h with⟨a,ha,h⟩|h
  ·obtain⟨b,hb,h⟩:=AF.ok h;exact Kg (G:=fun u v=>wpAny g.M A (inplaceOp .Add u v) (AN g f Q σ0) E s) rx ry ha hb fun _ _=>iadd_int (pI S e h)
  rcases Au.ok h with⟨a,ha,h⟩|h
  ·obtain⟨b,hb,h⟩:=AF.ok h;exact Q0 (G:=fun u v=>wpAny g.M A (inplaceOp .Add u v) (AN g f Q σ0) E s) rx ry ha hb fun _ _=>Kd h.1 fun t' k=>by rw[List.append_toArray];exact pB S e h.2
  exact XO (G:=fun u v=>wpAny g.M A (inplaceOp .Add u v) (AN g f Q σ0) E s) rx ry h fun a b _ _ h=>PyProof.Rows.iadd_str (fun t' k=>pS S e h.2) (Nat.le_trans h.1 (by decide:1000000≤sizeLine))
 |Sub=>exact DT (G:=fun u v=>wpAny g.M A (inplaceOp .Sub u v) (AN g f Q σ0) E s) rx ry h fun _ _ _ _ h=>isub_int (pI S e h)
 |BitAnd=>exact DT (G:=fun u v=>wpAny g.M A (inplaceOp .BitAnd u v) (AN g f Q σ0) E s) rx ry h fun _ _ _ _ h=>iand_int (pI S e h)
 |BitOr=>exact DT (G:=fun u v=>wpAny g.M A (inplaceOp .BitOr u v) (AN g f Q σ0) E s) rx ry h fun _ _ _ _ h=>ior_int (pI S e h)
 |RShift=>exact DT (G:=fun u v=>wpAny g.M A (inplaceOp .RShift u v) (AN g f Q σ0) E s) rx ry h fun _ _ _ _ h=>irshift_int h.1 (pI S e h.2)
 |LShift=>exact DT (G:=fun u v=>wpAny g.M A (inplaceOp .LShift u v) (AN g f Q σ0) E s) rx ry h fun _ _ _ _ h=>ilshift_int h.1 h.2.1 (pI S e h.2.2)
 |FloorDiv=>exact DT (G:=fun u v=>wpAny g.M A (inplaceOp .FloorDiv u v) (AN g f Q σ0) E s) rx ry h fun _ _ _ _ h=>PyProof.Rows.ifloordiv_int h.1 (pI S e h.2.2) (.inl (PyProof.noPylong_small h.2.1))
 |Mod=>exact DT (G:=fun u v=>wpAny g.M A (inplaceOp .Mod u v) (AN g f Q σ0) E s) rx ry h fun _ _ _ _ h=>PyProof.Rows.imod_int h.1 (pI S e h.2)
 |Mult=>exact DT (G:=fun u v=>wpAny g.M A (inplaceOp .Mult u v) (AN g f Q σ0) E s) rx ry h fun _ _ _ _ h=>PyProof.Rows.imul_int (pI S e h.2) h.1
 |_=>exact fE h
end
end
section
section
variable{g:Gx}{f:Fx}{K:Frag}{σ σ0:Lg}{s:Shared}{C:List AB}{M:Model}{A:Around}{E:Value→Shared→Prop}
theorem VR.noneV{x:V}{u:Value}(r:VR σ x u):(u==Value.none)=CQ x:=
 @VR.casesOn σ (fun x u _=>(u==Value.none)=CQ x) x u r rfl (fun _=>rfl) (fun _ _=>rfl) (fun _ _=>rfl) (fun _ _=>rfl) (fun _=>rfl) (fun _=>rfl) (fun _=>rfl) (fun _ _=>rfl) (fun _ _=>rfl) (fun _=>rfl) (fun _=>rfl) (fun _ _=>rfl) (fun _ _=>rfl)
inductive F6(g:Gx)(f:Fx)(C:List AB)(σ:Lg)(s:Shared)(i:Nat)(c:AB)(p:Addr×Addr):Prop
 |mk:∀pre o post,BZ g σ c p o→Fr f.h₀ f.L s.heap f.μ→News f.h₀ f.L s.heap ((pre++(o++post))++(f.b.z++σ.W))→Ey g f.b C σ (pre++(o++post)) s→
  (∀c' o',BZ g σ c' p o'→Ah g σ (C.set i c') σ.ρ (pre++(o'++post)))→F6 g f C σ s i c p
theorem St.cell{i:Nat}{c:AB}{p:Addr×Addr}(S:St g f C σ s)(r:σ.ρ[i]? =some p)(hC:C[i]? =some c):F6 g f C σ s i c p:=by
 cases S with|mk os F N k=>
 obtain⟨p',pre,o,post,h1,h2,h3,h4⟩:=k.c.pick hC
 cases(r.symm.trans h1)
 subst h3
 exact⟨pre,o,post,h2,F,N,k,h4⟩
theorem F6.news{i:Nat}{c:AB}{p:Addr×Addr}{pre o post:BK}(N:News f.h₀ f.L s.heap ((pre++(o++post))++(f.b.z++σ.W))){q:Addr×Obj}(h:q∈o):s.heap.get? q.1=some q.2∧q.1≠f.L∧f.h₀.get? q.1=none:=
 N q (List.mem_append_left _ (List.mem_append_right _ (List.mem_append_left _ h)))
inductive Po(g:Gx)(f:Fx)(σ:Lg)(s:Shared)(l:AU)(v:Value):Prop
 |mk:∀a es n,v= .ref a→s.heap.get? a=some (dictOf es n)→Dk g σ l es→f.h₀.get? a=none→Po g f σ s l v
theorem BZ.dictI{l:AU}{p:Addr×Addr}{o:BK}(r:BZ g σ (.dict l) p o):∃es n,o=[(p.1,dictOf es n)]∧Dk g σ l es:=by cases r with|dict rs=>exact⟨_,_,rfl,rs⟩
theorem St.dictC{i:Nat}{l:AU}{v:Value}(S:St g f C σ s)(r:VR σ (.obj i) v)(hC:C[i]? =some (.dict l)):Po g f σ s l v:=by
 obtain⟨hi⟩:=r.objI
 obtain⟨pre,o,post,h2,F,N,k,h4⟩:=S.cell hi hC
 obtain⟨es,n,rfl,rs⟩:=h2.dictI
 have:=F6.news (i:=i) (c:= .dict l) (p:=(0,0)) N (.head _)
 exact⟨_,es,n,rfl,this.1,rs,this.2.2⟩
theorem Go{a:Addr}(X:K.In f.h₀)(hm:(K.lookup sysModules).isSome=true)(hn:f.h₀.get? a=none):(a==sysModules)=false:=by
 obtain⟨o,ho⟩:=Option.isSome_iff_exists.mp hm
 have:=X _ _ ho
 exact beq_false_of_ne fun e=>AM (hn.symm.trans (e▸this))
theorem CO(ns:List Int):SeqAt.shaped (.tuple (ns.map PyData.int))=true:=by
 have h1:=PyProof.Rows.depthAll_ints ns
 have h2:PyData.depth (.tuple (ns.map PyData.int))≤64:=by simp only[PyData.depth];omega
 show(PyData.canLay0 (.tuple (ns.map PyData.int))&&decide (PyData.depth (.tuple (ns.map PyData.int))≤64))=true
 rw[Bool.and_eq_true]
 exact⟨by simp only[PyData.canLay0];exact canLayAll0_ints ns,decide_eq_true h2⟩
theorem Lv(a b:List Int):decide (a=b)=(a==b):=by
 by_cases e:a=b
 ·subst e;rw[decide_eq_true rfl,beq_self_eq_true]
 ·rw[decide_eq_false e,beq_false_of_ne e]
theorem LS{a:Addr}{vs:List Value}{ns:List Int}{n:Nat}(ha:s.heap.get? a=some (Ag "tuple" vs n))(hi:IntsAre vs ns):Reads s.heap (.ref a) (.tuple (ns.map PyData.int)) []:=Reads.tuple ha rfl rfl (readsAll_of_ints hi)
theorem r8{a b:Addr}{ns ms:List Int}{Q:Value→Shared→Prop}(ha:Reads s.heap (.ref a) (.tuple (ns.map PyData.int)) [])(hb:Reads s.heap (.ref b) (.tuple (ms.map PyData.int)) [])(hu:A.units+64<cLine)
  (h:Q (.bool (decide (ns=ms))) s):wpAny g.M A (compareOp .Eq (.ref a) (.ref b)) Q E s:=
 eq_dataH_same ha hb (CO ns) (CO ms) hu (by simp only[SeqAt.noMix];exact noMix_ints ns ms) (by simp only[PySem.Spec.same];rw[same_ints];exact h)
theorem rE{a b:Addr}{ns ms:List Int}{Q:Value→Shared→Prop}(ha:Reads s.heap (.ref a) (.tuple (ns.map PyData.int)) [])(hb:Reads s.heap (.ref b) (.tuple (ms.map PyData.int)) [])(hu:A.units+64<cLine)
  (h:Q (.bool (!decide (ns=ms))) s):wpAny g.M A (compareOp .NotEq (.ref a) (.ref b)) Q E s:=
 ne_dataH_same ha hb (CO ns) (CO ms) hu (by simp only[SeqAt.noMix];exact noMix_ints ns ms) (by simp only[PySem.Spec.same];rw[same_ints];exact h)
theorem Es.ok{a:Nat}{es:List DictEntry}(h:Es K a=some es):L9 K a es:=by
 unfold Es at h
 split at h
 ·rename_i t d es' n sl ho
  split at h
  ·rename_i hc
   cases h
   have hc:=AZ hc
   have h2:=AZ hc.2
   obtain rfl:=bE hc.1
   exact⟨_,n,ho,rfl,rfl,fun i e he=>List.all_eq_true.mp h2.1 e (List.mem_of_getElem? ((List.getElem?_toArray ..).symm.trans he)),Bn h2.2⟩
  ·exact AM h
 ·exact AM h
theorem CQ.ok{x:V}:(h:CQ x=true)→x= .none:=by cases x<;>first|exact fun _=>rfl|exact BQ
inductive uX(o:Option AB)(Q:AU→Prop):Prop
 |mk:∀l,o=some (.dict l)→Q l→uX o Q
theorem HI{o:Option AB}{Q:AU→Prop}:(h:match o with|some (.dict l)=>Q l|_=>False)→uX o Q:=by
 cases o with
 |none=>exact fE
 |some c=>cases c<;>first|exact fun h=>⟨_,rfl,h⟩|exact fE
theorem Xp{x y:V}{q:Bool→Prop}{u v:Value}{G:Value→Value→Prop}(X:K.In f.h₀)(S:St g f C σ s)(rx:VR σ x u)(ry:VR σ y v)(h:NS K C x y q)
  (k1:∀es k a t (o:Obj) n,s.heap.get? a=some o→o.cls= .type "dict"→o.data= .dict es.toArray n→(∀(i:Nat) (e:DictEntry),es.toArray[i]? =some e→Ca e=true)→(a==sysModules)=false→q (Kc es k).isSome→G (.int k t) (.ref a))
  (k2:∀z t a f r,(a==sysModules)=false→s.heap.MapOf (strKind g.prog g.w) a f→(f z).isSome=r→q r→G (.str z t) (.ref a)):G u v:=by
 cases y with
 |glob a=>
  obtain⟨k,hk,h⟩:=AF.ok h
  obtain⟨es,he,h⟩:=AF.ok h
  obtain⟨o,n,ho,h1,h2,h3,h4⟩:=Es.ok he
  obtain⟨⟩:=ry.globI
  exact rx.gI (G:=fun u=>G u (.ref a)) hk fun t=>k1 es k a t o n (S.F.keep _ _ (X _ _ ho)) h1 h2 h3 h4 h
 |obj i=>
  obtain⟨z,hz,h⟩:=AF.ok h
  obtain⟨l,hC,h⟩:=HI h
  obtain⟨hk,h⟩:=AD.ok h
  obtain⟨a,es,n,e,ho,r,hn⟩:=S.dictC ry hC
  obtain⟨f',hm,hf⟩:=Dk.mOf r ho
  rw[e]
  exact rx.gS (G:=fun u=>G u (.ref a)) hz fun t=>k2 z t a f' _ (Go X (AZ hk).2 hn) hm (hf z) h
 |_=>exact fE h
theorem sEq{x y:V}{Q:VQ}{u v:Value}(e:Am σ0 σ)(hu:A.units+64<cLine)(S:St g f C σ s)(rx:VR σ x u)(ry:VR σ y v)(h:Hl K C .Eq x y fun z=>Q z C):
  wpAny g.M A (compareOp .Eq u v) (AN g f Q σ0) E s:=by
 refine BL fun R hR=> ?_
 rcases Au.ok h with⟨a,ha,h⟩|h
 ·obtain⟨b,hb,h⟩:=AF.ok h
  exact Kg (G:=fun u v=>wpAny g.M A (compareOp .Eq u v) R E s) rx ry ha hb fun _ _=>eq_int (hR _ _ (pT S e h))
 rcases Au.ok h with⟨a,ha,h⟩|h
 ·obtain⟨b,hb,h⟩:=AF.ok h
  exact Q0 (G:=fun u v=>wpAny g.M A (compareOp .Eq u v) R E s) rx ry ha hb fun _ _=>eq_bytes (hR _ _ (pT S e h))
 rcases Au.ok h with⟨a,ha,h⟩|h
 ·obtain⟨b,hb,h⟩:=AF.ok h
  exact V0 (G:=fun u v=>wpAny g.M A (compareOp .Eq u v) R E s) rx ry ha hb fun _ _=>PyProof.Rows.eq_str (hR _ _ (pT S e h))
 rcases Au.ok h with⟨a,ha,h⟩|h
 ·obtain⟨b,hb,h⟩:=AF.ok h
  obtain⟨hm1,i1⟩:=rx.asTi ha
  obtain⟨hm2,i2⟩:=ry.asTi hb
  exact r8 (LS (S.wmem hm1).1 i1) (LS (S.wmem hm2).1 i2) hu (hR _ _ (pT S e (by rw[Lv];exact h.2.2)))
 obtain⟨a,b,ha,hb,h⟩:=v2.ok h
 obtain⟨⟩:=rx.asTyp ha
 obtain⟨⟩:=ry.asTyp hb
 obtain⟨hk,h⟩:=AD.ok h
 have hk:=AZ hk
 by_cases e0:a=b
 ·subst e0
  exact PySem.TypeEq.eq_type_same (fun s'=>kitMeta_of hk.1) (hR _ _ (pT S e (by rw[beq_self_eq_true] at h;exact h)))
 ·rw[beq_false_of_ne e0] at h
  exact PySem.TypeEq.eq_type_other (fun s'=>kitMeta_of hk.1) (fun s'=>kitMeta_of hk.2) (beq_false_of_ne fun q=>e0 (Value.type.inj q)) (hR _ _ (pT S e h))
theorem sNe{x y:V}{Q:VQ}{u v:Value}(e:Am σ0 σ)(hu:A.units+64<cLine)(S:St g f C σ s)(rx:VR σ x u)(ry:VR σ y v)(h:Hl K C .NotEq x y fun z=>Q z C):
  wpAny g.M A (compareOp .NotEq u v) (AN g f Q σ0) E s:=by
 refine BL fun R hR=> ?_
 rcases Au.ok h with⟨a,ha,h⟩|h
 ·obtain⟨b,hb,h⟩:=AF.ok h
  exact Kg (G:=fun u v=>wpAny g.M A (compareOp .NotEq u v) R E s) rx ry ha hb fun _ _=>ne_int (hR _ _ (pT S e h))
 rcases Au.ok h with⟨a,ha,h⟩|h
 ·obtain⟨b,hb,h⟩:=AF.ok h
  exact Q0 (G:=fun u v=>wpAny g.M A (compareOp .NotEq u v) R E s) rx ry ha hb fun _ _=>ne_bytes (hR _ _ (pT S e h))
 rcases Au.ok h with⟨a,ha,h⟩|h
 ·obtain⟨b,hb,h⟩:=AF.ok h
  exact V0 (G:=fun u v=>wpAny g.M A (compareOp .NotEq u v) R E s) rx ry ha hb fun _ _=>PyProof.Rows.ne_str (hR _ _ (pT S e h))
 obtain⟨a,b,ha,hb,h⟩:=v2.ok h
 obtain⟨hm1,i1⟩:=rx.asTi ha
 obtain⟨hm2,i2⟩:=ry.asTi hb
 exact rE (LS (S.wmem hm1).1 i1) (LS (S.wmem hm2).1 i2) hu (hR _ _ (pT S e (by rw[Lv];exact h.2.2)))
theorem Xr{op:CmpOp}{x y:V}{Q:VQ}{u v:Value}(e:Am σ0 σ)(X:K.In f.h₀)(hu:A.units+64<cLine)(S:St g f C σ s)(rx:VR σ x u)(ry:VR σ y v)(h:Hl K C op x y fun z=>Q z C):
  wpAny g.M A (compareOp op u v) (AN g f Q σ0) E s:=by
 cases op with
 |Eq=>exact sEq e hu S rx ry h
 |NotEq=>exact sNe e hu S rx ry h
 |Lt=>exact DT (G:=fun u v=>wpAny g.M A (compareOp .Lt u v) (AN g f Q σ0) E s) rx ry h fun _ _ _ _ h=>lt_int (pT S e h)
 |LtE=>exact DT (G:=fun u v=>wpAny g.M A (compareOp .LtE u v) (AN g f Q σ0) E s) rx ry h fun _ _ _ _ h=>le_int (pT S e h)
 |Gt=>exact DT (G:=fun u v=>wpAny g.M A (compareOp .Gt u v) (AN g f Q σ0) E s) rx ry h fun _ _ _ _ h=>gt_int (pT S e h)
 |GtE=>exact DT (G:=fun u v=>wpAny g.M A (compareOp .GtE u v) (AN g f Q σ0) E s) rx ry h fun _ _ _ _ h=>ge_int (pT S e h)
 |In=>
  exact Xp (q:=fun r=>Q (.bool r) C) (G:=fun u v=>wpAny g.M A (compareOp .In u v) (AN g f Q σ0) E s) X S rx ry h (fun es k a t o n ho h1 h2 h3 h4 h=>Oi ho h1 h2 h3 h4 (pT (S.toks _) e h))
   fun z t a f r hm hf e' h=>wpAny_in_of (strKind_is g.prog g.w _ _) hm hf (pT (S.toks _) e (by rw[e'];exact h))
 |NotIn=>
  exact Xp (q:=fun r=>Q (.bool (!r)) C) (G:=fun u v=>wpAny g.M A (compareOp .NotIn u v) (AN g f Q σ0) E s) X S rx ry h (fun es k a t o n ho h1 h2 h3 h4 h=>JT ho h1 h2 h3 h4 (pT (S.toks _) e h))
   fun z t a f r hm hf e' h=>wpAny_notIn_of (strKind_is g.prog g.w _ _) hm hf (pT (S.toks _) e (by rw[e'];exact h))
 |Is=>
  obtain⟨hb,h⟩:=AD.ok h
  obtain⟨⟩:=(CQ.ok hb▸ry:VR σ .none v).noneI
  exact PyProof.Rows.is_none_gen (pT S e (by rw[rx.noneV];exact h))
 |IsNot=>
  obtain⟨hb,h⟩:=AD.ok h
  obtain⟨⟩:=(CQ.ok hb▸ry:VR σ .none v).noneI
  exact PyProof.Rows.isnot_none_gen (pT S e (by rw[rx.noneV];exact h))
theorem u0{l:List V}{vs:List Value}{Q:VQ}(S:St g f C σ s)(r:BU σ l vs)(hz:l.length≤1000)(e:Am σ0 σ)(q:Q (.tup l) C):wpAny g.M A (newTuple vs) (AN g f Q σ0) E s:=by
 cases S with|mk os F N c=>
 exact newTuple_N F N (fun h' F' N'=>St.new (x:= .tup l) c N e F' N' (Nat.le_refl _) (.tup (.head _) (r.ext Am.push)) q) (by rw[r.len];exact Nat.le_trans hz (by decide))
theorem Xn{l:List V}{vs:List Value}{Q:VQ}(S:St g f C σ s)(r:BU σ l vs)(hz:l.length≤1000)(e:Am σ0 σ)(q:Q (.lst l) C):wpAny g.M A (newList vs) (AN g f Q σ0) E s:=by
 cases S with|mk os F N c=>
 exact newList_N F N (fun h' F' N'=>St.new (x:= .lst l) c N e F' N' (Nat.le_refl _) (.lst (.head _) (r.ext Am.push)) q) (by rw[r.len];exact Nat.le_trans hz (by decide))
theorem BH.ok{l:List V}:∀{vs:List Value} {is:List Int},BU σ l vs→BH l=some is→IntsAre vs is:=by
 induction l with
 |nil=>intro vs is r h;cases r;cases h;exact .nil
 |cons v l ih=>
  intro vs is r h
  obtain⟨i,l',rfl,q,rfl⟩:=BH.cons h
  cases r with|cons a b=>
  obtain⟨t⟩:=a.intI
  exact .cons _ _ (ih b q)
theorem Qk.ok{l:List V}{G:V→Prop}(q:G (Qk l)):(∃is,BH l=some is∧G (.ti is))∨G (.tup l):=by
 unfold Qk at q
 cases h:BH l with
 |none=>rw[h] at q;exact .inr q
 |some is=>rw[h] at q;exact .inl ⟨is,rfl,q⟩
theorem Ld.ok{l:List V}{G:V→Prop}(q:G (Ld l)):(∃is,BH l=some is∧G (.li is))∨G (.lst l):=by
 unfold Ld at q
 cases h:BH l with
 |none=>rw[h] at q;exact .inr q
 |some is=>rw[h] at q;exact .inl ⟨is,rfl,q⟩
theorem Xh{l:List V}{vs:List Value}{Q:VQ}(S:St g f C σ s)(r:BU σ l vs)(hz:l.length≤1000)(e:Am σ0 σ)(q:Q (Qk l) C):wpAny g.M A (newTuple vs) (AN g f Q σ0) E s:=by
 rcases Qk.ok (G:=fun v=>Q v C) q with⟨is,hi,q⟩|q
 ·cases S with|mk os F N c=>
  exact newTuple_N F N (fun h' F' N'=>St.new (x:= .ti is) c N e F' N' (Nat.le_refl _) (.ti (.head _) (BH.ok r hi)) q) (by rw[r.len];exact Nat.le_trans hz (by decide))
 ·exact u0 S r hz e q
theorem Xl{l:List V}{vs:List Value}{Q:VQ}(S:St g f C σ s)(r:BU σ l vs)(hz:l.length≤1000)(e:Am σ0 σ)(q:Q (Ld l) C):wpAny g.M A (newList vs) (AN g f Q σ0) E s:=by
 rcases Ld.ok (G:=fun v=>Q v C) q with⟨is,hi,q⟩|q
 ·cases S with|mk os F N c=>
  exact newList_N F N (fun h' F' N'=>St.new (x:= .li is) c N e F' N' (Nat.le_refl _) (.li (.head _) (BH.ok r hi)) q) (by rw[r.len];exact Nat.le_trans hz (by decide))
 ·exact Xn S r hz e q
theorem VR.last{c:AB}{p:Addr×Addr}{os:BK}(k:Ey g f.b C σ os s):VR ⟨σ.W,σ.ρ++[p]⟩ (.obj C.length) (.ref p.1):= .obj (p:=p) (by rw[←k.c.len];exact List.getElem?_concat_length)
theorem Xm{l:List V}{vs:List Value}{Q:VQ}(S:St g f C σ s)(r:BU σ l vs)(hz:l.length≤1000)(e:Am σ0 σ)(q:Q (.obj C.length) (C++[.list l])):wpAny g.M A (newList vs) (AN g f Q σ0) E s:=by
 cases S with|mk os F N c=>
 refine newList_N F N (fun h' F' N'=> ?_) (by rw[r.len];exact Nat.le_trans hz (by decide))
 exact⟨_,_,_,e.trans Am.snoc,St.grow (p:=(s.heap.objs.size,s.heap.objs.size)) (.list (r.ext Am.snoc)) c F' N' (nodup_cons c.nd fun p hp=>Nat.ne_of_lt (Heap.lt_size (N p hp).1)),VR.last (c:= .dead) (p:=(s.heap.objs.size,s.heap.objs.size)) c,q⟩
theorem Ga{x:V}{Q:Bool→List AB→Prop}{u:Value}(e:Am σ0 σ)(X:K.In f.h₀)(S:St g f C σ s)(rx:VR σ x u)(h:Bb K C x fun z=>Q z C):
  wpAny g.M A (truthy u) (DB g f Q σ0) E s:=by
 cases x with
 |none=>obtain⟨⟩:=rx.noneI;exact fun _ _ _=>⟨σ,C,e,S,h⟩
 |bool _=>obtain⟨⟩:=rx.boolI;exact wpAny_truthy_bool ⟨σ,C,e,S,h⟩
 |int _=>obtain⟨t⟩:=rx.intI;exact truthy_int ⟨σ,C,e,S,h⟩
 |bytes _=>obtain⟨t⟩:=rx.bytesI;exact truthy_bytes h.1 ⟨σ,C,e,S.toks _,h.2⟩
 |li _=>
  obtain⟨hm,I⟩:=rx.liI
  exact truthy_ints_fit (S.isList hm) I (Nat.lt_of_le_of_lt h.1 (by decide:1000000<2^62)) ⟨σ,C,e,S.toks _,h.2⟩
 |obj i=>
  obtain⟨l,hC,h⟩:=HI h
  obtain⟨hk,h⟩:=AD.ok h
  have hk:=AZ hk
  obtain⟨a,es,n,rfl,ho,r,hn⟩:=S.dictC rx hC
  obtain⟨kvs,hl,hd⟩:=Dk.dOf r (of_decide_eq_true hk.1) ho
  exact wpAny_truthy_dict (Go X hk.2 hn) hd (by rw[hl];exact Int.lt_of_le_of_lt (Int.ofNat_le.mpr h.1:(l.length:Int)≤(1000000:Nat)) (by decide)) ⟨σ,C,e,S.toks _,by rw[show kvs.isEmpty=l.isEmpty from by cases kvs<;>cases l<;>first|rfl|cases hl];exact h.2⟩
 |_=>exact fE h
def CX(g:Gx)(f:Fx)(Q:VQ)(X:XQ)(σ:Lg):Result→Shared→Prop
 | .ok (.ret v),s=>AN g f Q σ v s
 | .ok _,_=>False
 | .error e,s=>Ab g f X σ e s
def BI(g:Gx)(K:Frag)(d:Nat)(fn:AG):Prop:=
 ∀(f:Fx) (A:Around),Fm g K false d f A→∀(C:List AB) (σ:Lg) (s:Shared),St g f C σ s→
   ∀(a:Nat) (Vs:List V) (vs:List Value) (Kw:List (Str×V)) (kws:List (Str×Value)),BU σ Vs vs→IF σ Kw kws→∀(Q:VQ) (X:XQ),fn a Vs Kw C Q X→
    codeAny g.M A (.call (.ref a) ⟨vs,kws⟩) (CX g f Q X σ) s
theorem BI.up{d:Nat}{fn:AG}(h:BI g K d fn):BI g K (d+1) fn:=fun f A M=>h f A M.down
inductive Ix(g:Gx)(f:Fx)(Q:List (Str×V)→List AB→Prop)(names:List Str)(σ:Lg)(v:List Value)(s':Shared):Prop where
 |mk:∀σ' V C',Am σ σ'→St g f C' σ' s'→IF σ' V (names.zip v)→v.length=names.length→Q V C'→Ix g f Q names σ v s'
def Sq(M:Model)(h:Heap)(f:Value):Prop:=∃k,(k=Keeper.frame∨k=Keeper.machine∨k=Keeper.boundFrame)∧Looks M h (keeperOf f) k
theorem Lk{F:V}{v:Value}(r:VR σ F v)(M:Model)(h:Heap)(X:K.In h):(hk:Em K F=true)→Sq M h v:=by
 cases F with
 |glob a=>obtain⟨⟩:=r.globI;exact fun hk=>keeps_K (f:= .ref _) hk h X
 |typ n=>obtain⟨⟩:=r.typI;exact fun _=>⟨.machine,.inr (.inl rfl),Looks.of_pure rfl⟩
 |blt n=>obtain⟨⟩:=r.bltI;exact fun _=>⟨.machine,.inr (.inl rfl),Looks.of_pure rfl⟩
 |_=>exact BQ
theorem DK{env:Env}{e:Expr}{r:List Expr}:(h:Az e=true)→starEach (e::r) env=(false,eval e env)::starEach r env:=by
 cases e<;>first|exact fun _=>rfl|exact BQ
theorem Ch{env:Env}{pos:Pos}{as:List Expr}(h:as.all Az=true):(backTo pos (starEach as env)).any (·.1)=false∧(backTo pos (starEach as env)).all (!·.1)=true:=by
 induction as with
 |nil=>exact⟨rfl,rfl⟩
 |cons e r ih=>
  have h:=AZ h
  rw[DK h.1]
  exact ih h.2
theorem GI{env:Env}{pos:Pos}{ks:List Keyword}(h:ks.all (·.arg.isSome)=true):(backToKw pos (keywordEach ks env)).all (·.1.isSome)=true∧(backToKw pos (keywordEach ks env)).any (·.1.isNone)=false:=by
 induction ks with
 |nil=>exact⟨rfl,rfl⟩
 |cons k r ih=>
  obtain⟨a,e,q⟩:=k
  cases a with
  |none=>exact BQ h
  |some x=>exact ih h
end
end
section
theorem FE.ok{σ:Lg}{v:V}{y:Value}(r:VR σ v y):(h:FE v=true)→handedIn y=true:=
 @VR.casesOn σ (fun v y _=>FE v=true→handedIn y=true) v y r (fun _=>rfl) (fun _ _=>rfl) (fun _ _ _=>rfl) (fun _ _ _=>rfl) (fun _ _ _=>rfl) (fun _ _=>rfl) (fun _ h=>h) (fun _ _=>rfl) (fun _ _ _=>rfl) (fun _ _ _=>rfl) (fun _ _=>rfl) (fun _ _=>rfl) (fun _ _ _=>rfl) (fun _ _ _=>rfl)
theorem Fl{value:Expr}{attr:Str}{env:Env}:(h:B6 value=true)→attributeBase value attr env (eval value env)=eval value env:=by
 cases value with
 |Call f as ks p=>
  cases f with
  |Name id ip=>cases as with
   |cons _ _=>exact fun _=>rfl
   |nil=>cases ks with
    |cons _ _=>exact fun _=>rfl
    |nil=>exact BQ
  |_=>exact fun _=>rfl
 |_=>exact fun _=>rfl
theorem Rg{value:Expr}{attr:Str}{pos:Pos}{env:Env}(h:B6 value=true):eval (.Attribute value attr pos) env=(do
   let o←eval value env
   standAt pos.atName
   let r←holding [o] (getAttr o attr true)
   letTemporaryGo value o r
   pure r):=
 (arm_eval_Attribute ..).trans (congrArg (fun t=>t>>=fun o=>standAt pos.atName>>=fun _=>holding [o] (getAttr o attr true)>>=fun r=>letTemporaryGo value o r>>=fun _=>pure r) (Fl h))
section
variable{g:Gx}{f:Fx}{K:Frag}{σ σ0:Lg}{s:Shared}{C:List AB}{A:Around}{E:Value→Shared→Prop}
theorem Gj.ok{c:Nat}(h:Gj K c=true):plainGet K c "__class__"=true∧hasDictIn K c=true∧findIn K (.ref c) "__class__"=some (some (.builtin "object.__class__"))∧specialIn K (.builtin "object.__class__") "__get__"=some (some (.builtin "getset_descriptor.__get__"))∧takesIn K (.builtin "object.__class__")=some true∧mroIn K c (.type "object")=some true:=
 have h:=AZ h
 have h2:=AZ h.2
 have h3:=AZ h2.2
 have h4:=AZ h3.2
 have h5:=AZ h4.2
 ⟨h.1,h2.1,bE h3.1,bE h4.1,bE h5.1,bE h5.2⟩
inductive Sr(g:Gx)(f:Fx)(σ:Lg)(s:Shared)(c:Nat)(at_:AU)(v:Value):Prop
 |mk:∀xx d es n,v= .ref xx→PySem.W.InstAt s.heap xx (instObj c d) c (some (dictOf es n))→Dk g σ at_ es→Sr g f σ s c at_ v
theorem BZ.instI{c:Nat}{l:AU}{p:Addr×Addr}{o:BK}(r:BZ g σ (.inst c l) p o):∃es n,o=[(p.1,instObj c p.2),(p.2,dictOf es n)]∧Dk g σ l es:=by cases r with|inst rs=>exact⟨_,_,rfl,rs⟩
theorem St.instC{i c:Nat}{at_:AU}{v:Value}(S:St g f C σ s)(r:VR σ (.obj i) v)(hC:C[i]? =some (.inst c at_)):Sr g f σ s c at_ v:=by
 obtain⟨hi⟩:=r.objI
 obtain⟨pre,o,post,h2,F,N,k,h4⟩:=S.cell hi hC
 obtain⟨es,n,rfl,rs⟩:=h2.instI
 exact⟨_,_,es,n,rfl,PySem.W.InstAt.of_news N (List.mem_append_left _ (List.mem_append_right _ (.head _))) (List.mem_append_left _ (List.mem_append_right _ (.tail _ (.head _)))),rs⟩
inductive td(o:Option AB)(Q:Nat→AU→Prop):Prop
 |mk:∀c l,o=some (.inst c l)→Q c l→td o Q
theorem G4{o:Option AB}{Q:Nat→AU→Prop}:(h:match o with|some (.inst c l)=>Q c l|_=>False)→td o Q:=by
 cases o with
 |none=>exact fE
 |some c=>cases c<;>first|exact fun h=>⟨_,_,rfl,h⟩|exact fE
inductive XD(K:Frag)(c:Nat)(at_:AU)(x:Str)(Q:V→Prop):Prop
 |own:∀u attr,AP at_ x=some u→findIn K (.ref c) x=some attr→noGet K attr=true→FE u=true→Q u→XD K c at_ x Q
 |cls:∀a u,AP at_ x=none→findIn K (.ref c) x=some (some a)→specialIn K a "__get__"=some none→handedIn a=true→copiedNames.contains x=false→JA a=some u→Q u→XD K c at_ x Q
theorem E0.ok{c:Nat}{at_:AU}{x:Str}{Q:V→Prop}(h:E0 K c at_ x Q):XD K c at_ x Q:=by
 unfold E0 at h
 cases hu:AP at_ x with
 |some u=>
  cases hf:findIn K (.ref c) x with
  |none=>rw[hu,hf] at h;exact h.elim
  |some attr=>
   rw[hu,hf] at h
   obtain⟨h5,h⟩:=AD.ok h
   have h5:=AZ h5
   exact .own u attr hu hf h5.1 h5.2 h
 |none=>
  cases hf:findIn K (.ref c) x with
  |none=>rw[hu,hf] at h;exact h.elim
  |some a=>
   cases a with
   |none=>rw[hu,hf] at h;exact h.elim
   |some a=>
    rw[hu,hf] at h
    obtain⟨h5,h⟩:=AD.ok h
    have h5:=AZ h5
    have h6:=AZ h5.2
    obtain⟨u,hu',h⟩:=AF.ok h
    exact .cls a u hu hf (bE h5.1) h6.1 (Bn h6.2) hu' h
inductive uZ(K:Frag)(c:Nat)(x:Str)(Q:V→Prop):Prop
 |mk:∀mc a u,typeIn K (.ref c)=some mc→readsIn K c mc=true→findCls K (.ref c) mc x=some (.val a)→handedIn a=true→JA a=some u→Q u→uZ K c x Q
theorem CY.cls{c:Nat}{x:Str}{Q:V→Prop}(h:CY K (.glob c) x C Q):uZ K c x Q:=by
 unfold CY at h
 dsimp only at h
 split at h
 ·rename_i mc hm
  obtain⟨h5,h⟩:=AD.ok h
  split at h
  ·rename_i a hf
   obtain⟨h6,h⟩:=AD.ok h
   obtain⟨u,hu',h⟩:=AF.ok h
   exact⟨mc,a,u,hm,h5,hf,h6,hu',h⟩
  ·exact h.elim
 ·exact h.elim
theorem Nh{v:V}{y:Value}{x:Str}{Q:VQ}{b:Bool}(e:Am σ0 σ)(X:K.In f.h₀)(S:St g f C σ s)(r:VR σ v y)(h:CY K v x C fun u=>Q u C):
  wpAny g.M A (getAttr y x b) (AN g f Q σ0) E s:=by
 refine BL fun R hR=> ?_
 cases v with
 |obj i=>
  obtain⟨c,at_,hC,h⟩:=G4 h
  obtain⟨xx,d,es,n,rfl,I,hat⟩:=S.instC r hC
  cases hx:x==("__class__":Str) with
  |true=>
   rw[hx] at h
   obtain⟨hg,h⟩:=AD.ok h
   obtain⟨g1,g2,g3,g4,g5,g6⟩:=Gj.ok hg
   rw[bE hx]
   exact get_class S.F X I g1 g2 g3 g4 g5 g6 (hR _ _ ⟨σ,_,C,e,S.toks _,.glob _,h⟩)
  |false=>
   rw[hx] at h
   obtain⟨hg,h⟩:=AD.ok h
   have hg:=AZ hg
   rcases E0.ok h with⟨u,attr,hu,hf,h5,h6,h⟩|⟨a,u,hu,hf,h5,h6,h7,h8,h⟩
   ·obtain⟨z,hz,rz⟩:=hat.get hu
    exact get_own S.F X I hg.1 hg.2 hf h5 hz (FE.ok rz h6) (hR _ _ ⟨σ,_,C,e,S.toks _,rz,h⟩)
   ·exact get_cls S.F X I hg.1 hg.2 hf h5 h6 h7 (hat.get_none hu) (hR _ _ ⟨σ,_,C,e,S.toks _,GU h8,h⟩)
 |ti _=>
  obtain⟨hx,h⟩:=AD.ok h
  obtain⟨hm,hi⟩:=r.tiI
  rw[bE hx]
  exact Dm (S.wmem hm).1 rfl (hR _ _ ⟨σ,_,C,e,S.toks _,.typ _,h⟩)
 |tup _=>
  obtain⟨hx,h⟩:=AD.ok h
  obtain⟨hm,hi⟩:=r.tupI
  rw[bE hx]
  exact Dm (S.wmem hm).1 rfl (hR _ _ ⟨σ,_,C,e,S.toks _,.typ _,h⟩)
 |glob c=>
  obtain⟨⟩:=r.globI
  obtain⟨mc,a,u,hm,h5,hf,h6,hu',h⟩:=CY.cls h
  exact cls_val S.F X hm h5 hf h6 (hR _ _ ⟨σ,_,C,e,S.toks _,GU hu',h⟩)
 |_=>exact fE h
theorem Upd.mk{d:Addr}{o o':Obj}{post:BK}{pre:BK}(h:((pre++(d,o)::post).map (·.1)).Nodup):Upd d o o' (pre++(d,o)::post) (pre++(d,o')::post):=by
 induction pre with
 |nil=>exact .head fun p hp e=>(List.nodup_cons.mp h).1 (mM ⟨p,hp,e⟩)
 |cons q pre ih=>
  have h:=List.nodup_cons.mp h
  exact .tail (fun e=>h.1 (mM ⟨(d,o),List.mem_append_right _ (.head _),e.symm⟩)) (ih h.2)
theorem KW(m:AU)(x:Str)(v:V):(Ae m x v).length≤m.length+1:=by
 induction m with
 |nil=>exact Nat.le_refl _
 |cons p m ih=>
  show(if p.1=x then(x,v)::m else p::Ae m x v).length≤_
  by_cases q:p.1=x
  ·rw[if_pos q];exact Nat.le_succ _
  ·rw[if_neg q];exact Nat.succ_le_succ ih
theorem Ji{l r z:BK}{o o':BK}(e:o.map (·.1)=o'.map (·.1))(nd:(((l++(o++r))++z).map (·.1)).Nodup):(((l++(o'++r))++z).map (·.1)).Nodup:=by
 rw[List.map_append,List.map_append,List.map_append,e] at nd
 rw[List.map_append,List.map_append,List.map_append]
 exact nd
inductive tG(K:Frag)(i:Nat)(x:Str)(u:V)(C:List AB)(Q:List AB→Prop):Prop
 |mk:∀c at_,C[i]? =some (.inst c at_)→findIn K (.ref c) "__setattr__"=some (some (.builtin "object.__setattr__"))→plainOver K c=true→takerIn K c x=some none→hasDictIn K c=true→at_.length≤900→Q (C.set i (.inst c (Ae at_ x u)))→tG K i x u C Q
theorem Fo.ok{v u:V}{x:Str}{Q:List AB→Prop}:(h:Fo K v x u C Q)→∃i,v= .obj i∧tG K i x u C Q:=by
 cases v with
 |obj i=>
  intro h
  obtain⟨c,at_,hC,h⟩:=G4 h
  obtain⟨h1,h⟩:=AD.ok h
  have h1:=AZ h1
  have h2:=AZ h1.2
  have h3:=AZ h2.2
  have h4:=AZ h3.2
  exact⟨i,rfl,c,at_,hC,bE h1.1,h2.1,bE h3.1,h4.1,of_decide_eq_true h4.2,h⟩
 |_=>exact fE
theorem Xi{v u:V}{y z:Value}{x:Str}{Q:List AB→Prop}(X:K.In f.h₀)(S:St g f C σ s)(r:VR σ v y)(ru:VR σ u z)(h:Fo K v x u C Q):
  wpAny g.M A (setAttr y x z) (fun _ s'=>∃C',St g f C' σ s'∧Q C') E s:=by
 obtain⟨i,rfl,c,at_,hC,g1,g2,g3,g4,g5,h⟩:=Fo.ok h
 obtain⟨hi⟩:=r.objI
 obtain⟨pre,o,post,h2,F,N,k,h4⟩:=S.cell hi hC
 obtain⟨es,n,rfl,hat⟩:=h2.instI
 rename_i p
 have I:PySem.W.InstAt s.heap p.1 (instObj c p.2) c (some (dictOf es n)):=PySem.W.InstAt.of_news N (List.mem_append_left _ (List.mem_append_right _ (.head _))) (List.mem_append_left _ (List.mem_append_right _ (.tail _ (.head _))))
 have e1:∀o':Obj,(pre++([(p.1,instObj c p.2),(p.2,o')]++post))++(f.b.z++σ.W)=(pre++[(p.1,instObj c p.2)])++(p.2,o')::(post++(f.b.z++σ.W)):=fun o'=>by
  rw[List.append_assoc,List.append_assoc,List.append_assoc];rfl
 have U:Upd p.2 (dictOf es n) (dictOf (putL x (PyData.keyHash g.w.params x) (.str x (s.toks+1)) z es) (putN x es n)) _ _:=Upd.mk (by have:=k.nd;rw[e1] at this;exact this)
 rw[←e1,←e1] at U
 have gl:(getL x es).isSome=true:=by
  cases q:AP at_ x with
  |none=>rw[hat.get_none q];rfl
  |some u=>obtain⟨y,hy,_⟩:=hat.get q;rw[hy];rfl
 have hat':=hat.put (x:=x) (t:=s.toks+1) ru
 refine set_dict F X N I rfl g1 g2 g3 g4 gl rfl U ?_ fun h' F' N'=> ?_
 ·rw[hat'.len]
  exact Nat.le_trans (KW _ _ _) (Nat.succ_le_succ (Nat.le_trans g5 (by decide)))
 ·exact⟨_,⟨_,F',N',h4 _ _ (.inst hat'),Ji (o:=[(p.1,instObj c p.2),(p.2,dictOf es n)]) rfl k.nd,k.g,k.d,k.o⟩,h⟩
theorem OD{e:Addr}{cls:String}{ob:Obj}{o name:Value}{M:Model}{Q:Unit→Shared→Prop}(he:s.heap.get? e=some ob)(hc:ob.cls= .type cls)(hs:D7 cls)(h:Q () s):wpAny M A (noteIf true o name (.ref e)) Q E s:=by
 show wpAny M A (noteAttr (.ref e) o name) Q E s
 unfold noteAttr
 refine wpAny_bind ?_
 unfold lacksNameAndObj
 refine wpAny_bind (wpAny_isInstance (T:=cls) (b:=false) ⟨ob,he,hc⟩ hs ?_)
 exact wpAny_pure (wpAny_pure h)
inductive Sl(K:Frag)(c:Nat)(x:Str)(Q:Nat→Prop):Prop
 |mk:∀pa fa rest,findIn K (.ref c) x=some (some (.ref pa))→plainGet K c x=true→hasDictIn K c=true→specialIn K (.ref pa) "__get__"=some (some (.builtin "property.__get__"))→takesIn K (.ref pa)=some true→recIn K pa "property"=some (.ref fa::rest)→Q fa→Sl K c x Q
theorem Dr.ok{fn:AG}{X:XQ}{i c:Nat}{x:Str}{Q:VQ}(h:Dr K fn X i c x C Q):Sl K c x fun fa=>fn fa [.obj i] [] C (fun v C=>AD (FE v) (Q v C)) X:=by
 unfold Dr at h
 split at h
 ·rename_i pa hf
  obtain⟨h1,h⟩:=AD.ok h
  have h1:=AZ h1
  have h2:=AZ h1.2
  have h3:=AZ h2.2
  split at h
  ·rename_i fa rest hr
   exact⟨pa,fa,rest,hf,h1.1,h2.1,bE h3.1,bE h3.2,hr,h⟩
  ·exact h.elim
 ·exact h.elim
theorem Xj{d:Nat}{fn:AG}{X:XQ}{i c:Nat}{y:Value}{x:Str}{Q:VQ}{at_:AU}{bb:Bool}(e:Am σ0 σ)
  (Mf:Fm g K false (d+1) f A) (HF:BI g K d fn) (S:St g f C σ s) (r:VR σ (.obj i) y) (hC:C[i]? =some (.inst c at_)) (h:Dr K fn X i c x C Q):
  wpAny g.M A (getAttr y x bb) (AN g f Q σ0) (Ab g f X σ0) s:=by
 obtain⟨pa,fa,rest,hf,g1,g2,g3,g4,hr,h⟩:=Dr.ok h
 obtain⟨xx,dd,es,n,rfl,I,hat⟩:=S.instC r hC
 refine get_prop S.F Mf.X I g1 g2 hf g3 g4 hr ?_
 refine codeAny_mono (HF _ _ Mf.in1 _ _ _ (S.toks _) _ _ _ _ _ (.cons r .nil) ⟨rfl,.nil⟩ _ _ h) fun r s' q=> ?_
 cases r with
 |ok fl=>
  cases fl with
  |ret v=>
   obtain⟨σ1,V1,C1,e1,S1,r1,h1⟩:=(show AN g f _ σ v s' from q)
   obtain⟨hv,h1⟩:=AD.ok h1
   show wpAny _ _ (handedOut v) _ _ _
   rw[handedOut_of (FE.ok r1 hv)]
   exact wpAny_pure ⟨σ1,V1,C1,e.trans e1,S1,r1,h1⟩
  |_=>exact fE q
 |error ev=>
  have q:Ab g f X σ ev s':=q
  have q':=q.ext e
  obtain⟨ex,t,cls,vs,σ',C',os',h',rfl,R,F₂,U,x1,k,na,q⟩:=q
  obtain⟨⟨B,hB,hl,hfl,hnew⟩,htup⟩:=R
  obtain⟨ob,ho,hoc⟩:=hfl.there
  exact OD ho hoc na q'
end
end
section
theorem Ad.el{b:Bool}{p q G:Prop}(h:Ad b p q)(k1:b=true→p→G)(k2:q→G):G:=by
 cases b
 ·exact k2 h
 ·exact k1 rfl h
theorem Ad.nm{n m:String}{p q:Prop}{G:String→Prop}(h:Ad (n==m) p q)(k1:p→G m)(k2:q→G n):G n:=
 Ad.el h (fun e h=>bE e▸k1 h) k2
section
variable{g:Gx}{f:Fx}{K:Frag}{σ σ0:Lg}{s:Shared}{C:List AB}{A:Around}{E:Value→Shared→Prop}
inductive LC(σ:Lg)(s:Shared)(l:List V)(v:Value):Prop
 |mk:∀a vs n,v= .ref a→s.heap.get? a=some (Ag "list" vs n)→BU σ l vs→LC σ s l v
theorem BZ.listI{l:List V}{p:Addr×Addr}{o:BK}(r:BZ g σ (.list l) p o):∃a vs n,p=(a,a)∧o=[(a,Ag "list" vs n)]∧BU σ l vs:=by cases r with|list rs=>exact⟨_,_,_,rfl,rfl,rs⟩
theorem St.list{i:Nat}{l:List V}{v:Value}(S:St g f C σ s)(r:VR σ (.obj i) v)(hC:C[i]? =some (.list l)):LC σ s l v:=by
 obtain⟨hi⟩:=r.objI
 obtain⟨pre,o,post,h2,F,N,k,h4⟩:=S.cell hi hC
 obtain⟨a,vs,n,rfl,rfl,rs⟩:=h2.listI
 exact⟨_,vs,n,rfl,(F6.news (i:=i) (c:= .dead) (p:=(0,0)) N (.head _)).1,rs⟩
theorem Ge{l r z:BK}(p:Addr×Obj):((l++([p]++r))++z).Perm (p::((l++r)++z)):=by
 rw[List.append_assoc,List.append_assoc,List.append_assoc];exact List.perm_middle
theorem VR.addr{i:Nat}{a:Addr}(r:VR σ (.obj i) (.ref a)):∃p:Addr×Addr,σ.ρ[i]? =some p∧p.1=a:=by
 generalize e:Value.ref a=v at r
 obtain⟨hi⟩:=r.objI
 exact⟨_,hi,(Value.ref.inj e).symm⟩
theorem St.list_set{i:Nat}{l l':List V}{a:Addr}{vs':List Value}{n' k:Nat}{h':Heap}(S:St g f C σ s)(r:VR σ (.obj i) (.ref a))(hC:C[i]? =some (.list l))(hs:Heap.SameBut a s.heap h')(ho:h'.get? a=some (Ag "list" vs' n'))(rs:BU σ l' vs'):St g f (C.set i (.list l')) σ {s with heap:=h',toks:=k}:=by
 obtain⟨p,hi,hp⟩:=r.addr
 obtain⟨pre,o,post,h2,F,N,q,h4⟩:=S.cell hi hC
 obtain⟨a',vs,n,rfl,rfl,_⟩:=h2.listI
 obtain rfl:a'=a:=hp
 obtain⟨F',N'⟩:=JV F (BO N (Ge _)) (A0 q.nd (Ge _)) hs ho
 exact⟨_,F',BO N' (Ge _).symm,h4 _ _ (.list rs),Ji (o:=[(a',Ag "list" vs n)]) rfl q.nd,q.g,q.d,q.o⟩
theorem Fk(l:List UInt8):(KBw.bInts l.toArray).length=l.length:=by unfold KBw.bInts;rw[List.length_map]
inductive Wr(o:Option AB)(Q:List V→Prop):Prop
 |mk:∀l,o=some (.list l)→Q l→Wr o Q
theorem Gw{o:Option AB}{Q:List V→Prop}:(h:match o with|some (.list l)=>Q l|_=>False)→Wr o Q:=by
 cases o with
 |none=>exact fE
 |some c=>cases c<;>first|exact fun h=>⟨_,rfl,h⟩|exact fE
theorem Gy{α:Type}{o:Option AB}{Q:List V→α}{x:α}:(h:(match o with|some (.list l)=>some (Q l)|_=>none)=some x)→Wr o fun l=>Q l=x:=by
 cases o with
 |none=>exact AM
 |some c=>cases c<;>first|exact fun h=>⟨_,rfl,oJ h⟩|exact AM
theorem G9{k:Nat}(h:k≤1000000):(k:Int)<2^63:=Int.lt_of_le_of_lt (Int.ofNat_le.mpr h:(k:Int)≤(1000000:Nat)) (by decide)
inductive J7(C:List AB):V→Nat→Prop
 |bytes b:J7 C (.bytes b) b.length
 |str x:J7 C (.str x) x.length
 |li l:J7 C (.li l) l.length
 |lst l:J7 C (.lst l) l.length
 |tup l:J7 C (.tup l) l.length
 |ti l:J7 C (.ti l) l.length
 |obj i l:C[i]? =some (.list l)→J7 C (.obj i) l.length
theorem OR.ok{v:V}{k:Nat}:(h:OR C v=some k)→J7 C v k:=by
 cases v with
 |obj i=>exact fun h=>let⟨l,hC,e⟩:=Gy h;e▸.obj i l hC
 |_=>first|exact AM|exact fun h=>oJ h▸by constructor
theorem u3{v:V}{u:Value}{k:Nat}{Q:VQ}(e:Am σ0 σ)(S:St g f C σ s)(r:VR σ v u)(hk:OR C v=some k)(hz:k≤1000000)(q:Q (.int k) C):wpAny g.M A (call (.builtin "len") [u]) (AN g f Q σ0) E s:=by
 have D:=OR.ok hk
 clear hk
 refine BL fun R hR=> ?_
 have P:∀{t n},R (.int k t) {s with toks:=n}:=hR _ _ (pI S e q)
 clear hR q e
 induction D with
 |bytes b=>obtain⟨t⟩:=r.bytesI;exact KBw.len_K rfl (by rw[Fk];exact Nat.le_trans hz (by decide)) (by rw[Fk];exact P)
 |str x=>obtain⟨t⟩:=r.strI;exact PyProof.Rows.len_str (fun q=>Int.not_lt.mpr q (G9 hz)) P
 |tup l=>obtain⟨hm,rs⟩:=r.tupI;exact PyProof.Rows.len_tuple (S.isTup hm) (by rw[rs.alen];exact G9 hz) (by rw[rs.alen];exact P)
 |lst l=>obtain⟨hm,rs⟩:=r.lstI;exact PyProof.Rows.len_list (S.isList hm) (by rw[rs.alen];exact G9 hz) (by rw[rs.alen];exact P)
 |ti l=>obtain⟨hm,rs⟩:=r.tiI;exact PyProof.Rows.len_tuple (S.isTup hm) (by rw[List.size_toArray,rs.length];exact G9 hz) (by rw[List.size_toArray,rs.length];exact P)
 |li l=>obtain⟨hm,rs⟩:=r.liI;exact PyProof.Rows.len_list (S.isList hm) (by rw[List.size_toArray,rs.length];exact G9 hz) (by rw[List.size_toArray,rs.length];exact P)
 |obj i l hC=>
  obtain⟨a,vs,n,rfl,ho,rs⟩:=S.list r hC
  exact PyProof.Rows.len_list ⟨_,ho,rfl,_,rfl⟩ (by rw[rs.alen];exact G9 hz) (by rw[rs.alen];exact P)
inductive Rw(C:List AB)(l:List V):V→Prop
 |lst:Rw C l (.lst l)
 |li l0:l=l0.map .int→Rw C l (.li l0)
 |obj i:C[i]? =some (.list l)→Rw C l (.obj i)
theorem Fz.ok{v:V}{u:Value}{l:List V}(S:St g f C σ s)(r:VR σ v u)(h:Fz C v=some l):LC σ s l u:=by
 have D:Rw C l v:=by
  revert h
  clear r
  cases v with
  |lst l=>exact fun h=>oJ h▸.lst
  |li l=>exact fun h=> .li l (oJ h).symm
  |obj i=>exact fun h=>let⟨l,hC,e⟩:=Gy h;.obj i (e▸hC)
  |_=>exact AM
 clear h
 induction D with
 |lst=>obtain⟨hm,rs⟩:=r.lstI;exact⟨_,_,_,rfl,(S.wmem hm).1,rs⟩
 |li l0 e=>obtain⟨hm,rs⟩:=r.liI;exact⟨_,_,_,rfl,(S.wmem hm).1,e▸BU.ofInts rs⟩
 |obj i hC=>exact S.list r hC
theorem CJ.ok{l:List V}:∀{bs:List (List UInt8)} {vs:List Value},CJ l=some bs→BU σ l vs→DR vs bs:=by
 induction l with
 |nil=>intro bs vs h r;cases r;cases h;exact⟨rfl,fun i v h=>AM (List.getElem?_nil.symm.trans h)⟩
 |cons v l ih=>
  intro bs vs h r
  obtain⟨b,l',rfl,q,rfl⟩:=CJ.cons h
  cases r with|cons a rs=>
  obtain⟨t⟩:=a.bytesI
  obtain⟨h1,h2⟩:=ih q rs
  refine⟨congrArg (·+1) h1,fun i v hv=> ?_⟩
  cases i with
  |zero=>cases hv;exact⟨b,t,rfl,rfl⟩
  |succ i=>exact h2 i v hv
inductive WX(K:Frag)(s:Shared)(t u:Value):Prop
 |mk:∀H:Heap→Prop,KitX K u t H→H s.heap→u≠.builtin "__main__.__loader__#opaque"→WX K s t u
theorem R9.own{i:Nat}{u t:Value}(S:St g f C σ s)(r:VR σ (.obj i) u)(h:R9 K C (.obj i)=some t):WX K s t u:=by
 unfold R9 at h
 dsimp only at h
 cases hC:C[i]? with
 |none=>rw[hC] at h;exact AM h
 |some c=>
  rw[hC] at h
  cases c with
  |inst c at_=>
   dsimp only at h
   cases hk:Gj K c with
   |false=>rw[hk] at h;exact AM h
   |true=>
    rw[hk] at h
    obtain⟨g1,g2,g3,g4,g5,g6⟩:=Gj.ok hk
    obtain⟨xx,d,es,n,rfl,I,_⟩:=S.instC r hC
    obtain rfl:=oJ h
    exact⟨_,kitx_own g1 g2 g3 g4 g5 g6,I,(fun e=>nomatch e)⟩
  |list l=>
   obtain⟨a,vs,n,rfl,ho,_⟩:=S.list r hC
   obtain rfl:=oJ h
   exact⟨_,kitx_list,⟨_,ho,rfl⟩,(fun e=>nomatch e)⟩
  |dict l=>
   obtain⟨a,es,n,rfl,ho,_⟩:=S.dictC r hC
   obtain rfl:=oJ h
   exact⟨_,kitx_dict,⟨_,ho,rfl⟩,(fun e=>nomatch e)⟩
  |_=>exact AM h
theorem R9.ok{v:V}{u t:Value}(S:St g f C σ s)(r:VR σ v u):(h:R9 K C v=some t)→WX K s t u:=by
 cases v with
 |none=>obtain⟨⟩:=r.noneI;exact fun h=>oJ h▸⟨_,kitx_none,trivial,(fun e=>nomatch e)⟩
 |bool _=>obtain⟨⟩:=r.boolI;exact fun h=>oJ h▸⟨_,kitx_bool,trivial,(fun e=>nomatch e)⟩
 |int _=>obtain⟨⟩:=r.intI;exact fun h=>oJ h▸⟨_,kitx_int,trivial,(fun e=>nomatch e)⟩
 |str _=>obtain⟨⟩:=r.strI;exact fun h=>oJ h▸⟨_,kitx_str,trivial,(fun e=>nomatch e)⟩
 |bytes _=>obtain⟨⟩:=r.bytesI;exact fun h=>oJ h▸⟨_,kitx_bytes,trivial,(fun e=>nomatch e)⟩
 |tup _=>obtain⟨hm,_⟩:=r.tupI;exact fun h=>oJ h▸⟨_,kitx_tuple,⟨_,(S.wmem hm).1,rfl⟩,(fun e=>nomatch e)⟩
 |lst _=>obtain⟨hm,_⟩:=r.lstI;exact fun h=>oJ h▸⟨_,kitx_list,⟨_,(S.wmem hm).1,rfl⟩,(fun e=>nomatch e)⟩
 |ti _=>obtain⟨hm,_⟩:=r.tiI;exact fun h=>oJ h▸⟨_,kitx_tuple,⟨_,(S.wmem hm).1,rfl⟩,(fun e=>nomatch e)⟩
 |li _=>obtain⟨hm,_⟩:=r.liI;exact fun h=>oJ h▸⟨_,kitx_list,⟨_,(S.wmem hm).1,rfl⟩,(fun e=>nomatch e)⟩
 |obj i=>exact R9.own S r
 |_=>exact AM
theorem RL.ok{v:V}{u c:Value}(r:VR σ v u):(h:RL v=some c)→u=c:=by
 cases v with
 |typ n=>obtain⟨⟩:=r.typI;exact oJ
 |glob n=>obtain⟨⟩:=r.globI;exact oJ
 |_=>exact AM
theorem rD{h₀ h:Heap}{L:Addr}{μ:Str→Option Value}{l:BK}(F:Fr h₀ L h μ)(N:News h₀ L h l)(o1 o2 o3:Obj)(h1:o1.isFreed=false)(h2:o2.isFreed=false)(h3:o3.isFreed=false):
  Fr h₀ L (((h.push o1).push o2).push o3) μ∧News h₀ L (((h.push o1).push o2).push o3) ((h.objs.size+2,o3)::(h.objs.size+1,o2)::(h.objs.size,o1)::l):=by
 have z1:(h.push o1).objs.size=h.objs.size+1:=Heap.size_push ..
 have z2:((h.push o1).push o2).objs.size=h.objs.size+2:=(Heap.size_push ..).trans (congrArg (·+1) z1)
 have N3:=((N.push F o1 h1).push (F.push o1) o2 h2).push ((F.push o1).push o2) o3 h3
 rw[z2,z1] at N3
 exact⟨((F.push o1).push o2).push o3,N3⟩
theorem u2{l:List Int}{v:Value}{Q:VQ}(e:Am σ0 σ)(S:St g f C σ s)(r:DJ σ "tuple" l v)(q:Q (.obj C.length) (C++[.map l])):wpAny g.M A (call (.type "map") [.type "str",v]) (AN g f Q σ0) E s:=by
 cases r with|mk hm hi=>
 have it:=S.isTup hm
 cases S with|mk os F N c=>
 refine O5 it ?_
 rename_i a vs n
 obtain⟨F3,N3⟩:=rD F N {cls:= .type "tuple_iterator",data:= .fields #[.ref a,.int 0 0]} (Bq s.heap.objs.size) (B2 (s.heap.objs.size+1)) rfl rfl rfl
 have lt:∀(k:Nat),∀p∈os++(f.b.z++σ.W),p.1≠s.heap.objs.size+k:=fun k p hp=>Nat.ne_of_lt (Nat.lt_of_lt_of_le (Heap.lt_size (N p hp).1) (Nat.le_add_right _ _))
 refine⟨_,_,_,e.trans Am.snoc,St.grow (p:=(s.heap.objs.size+2,s.heap.objs.size+2)) (o:=[(s.heap.objs.size+2,B2 (s.heap.objs.size+1)),(s.heap.objs.size+1,Bq s.heap.objs.size),(s.heap.objs.size,E1 a 0)]) (.map hm hi) c F3 N3 ?_,VR.last (c:= .dead) (p:=(s.heap.objs.size+2,s.heap.objs.size+2)) c,q⟩
 refine nodup_cons (nodup_cons (nodup_cons c.nd (lt 0)) fun q hq=> ?_) fun q hq=> ?_
 ·rcases List.mem_cons.mp hq with rfl|hq
  ·exact Nat.ne_of_lt (Nat.lt_succ_self _)
  ·exact lt 1 q hq
 ·rcases List.mem_cons.mp hq with rfl|hq
  ·exact Nat.ne_of_lt (Nat.lt_succ_self _)
  ·rcases List.mem_cons.mp hq with rfl|hq
   ·exact Nat.ne_of_lt (Nat.lt_add_of_pos_right (by decide))
   ·exact lt 2 q hq
end
end
section
section
variable{g:Gx}{f:Fx}{K:Frag}{σ σ0:Lg}{s:Shared}{C:List AB}{A:Around}{E:Value→Shared→Prop}
inductive tV(g:Gx)(σ:Lg)(l:List Int)(p:Addr×Addr)(o:BK):Prop
 |mk:∀t vs n Mo TI it,(t,Ag "tuple" vs n)∈σ.W→IntsAre vs l→p=(Mo,Mo)→o=[(Mo,B2 TI),(TI,Bq it),(it,E1 t 0)]→tV g σ l p o
theorem BZ.mapI{l:List Int}{p:Addr×Addr}{o:BK}(r:BZ g σ (.map l) p o):tV g σ l p o:=by cases r with|map hm hi=>exact⟨_,_,_,_,_,_,hm,hi,rfl,rfl⟩
theorem Xo{x:Str}{t i:Nat}{l:List Int}{v:Value}{Q:VQ}(e:Am σ0 σ)(hh:A.handled=none)(S:St g f C σ s)(r:VR σ (.obj i) v)(hC:C[i]? =some (.map l))(h1:x.length≤64)(h2:∀n∈l,0≤n∧n<10)(h3:l.length≤100000)(q:Q (.str (Txt.join x (l.map Et))) (C.set i .dead)):
  wpAny g.M A (call (.builtin "str.join") [.str x t,v]) (AN g f Q σ0) E s:=by
 refine BL fun R hR=> ?_
 obtain⟨hi⟩:=r.objI
 obtain⟨pre,o,post,hm,F,N,k,h4⟩:=S.cell hi hC
 obtain⟨t0,vs,n,Mo,TI,it,hW,hI,rfl,rfl⟩:=hm.mapI
 have hM:=F6.news (i:=i) (c:= .dead) (p:=(0,0)) N (.head _)
 have hTI:=F6.news (i:=i) (c:= .dead) (p:=(0,0)) N (.tail _ (.head _))
 have hit:=F6.news (i:=i) (c:= .dead) (p:=(0,0)) N (.tail _ (.tail _ (.head _)))
 have pm:((pre++([(Mo,B2 TI),(TI,Bq it),(it,E1 t0 0)]++post))++(f.b.z++σ.W)).Perm ([(Mo,B2 TI),(TI,Bq it),(it,E1 t0 0)]++(pre++(post++(f.b.z++σ.W)))):=by
  rw[List.append_assoc,List.append_assoc];exact List.perm_append_comm_assoc ..
 have n1:=List.nodup_cons.mp (A0 k.nd pm)
 have n2:=List.nodup_cons.mp n1.2
 have n3:=List.nodup_cons.mp n2.2
 have out:∀q∈pre++(post++(f.b.z++σ.W)),q.1≠it:=fun q hq e=>n3.1 (mM ⟨q,hq,e⟩)
 refine Oe hh (items:=vs.toArray) (n0:=n) hI h2 (fun e=>n1.1 (mM ⟨(it,_),.tail _ (.head _),e.symm⟩)) (fun e=>n2.1 (mM ⟨_,.head _,e.symm⟩)) (out _ (List.mem_append_right _ (List.mem_append_right _ (List.mem_append_right _ hW)))) hM.1 hTI.1 ⟨_,hit.1,rfl,rfl⟩ (S.wmem hW).1 h3 h1 fun h' t' k' hk=> ?_
 refine hR _ _ ⟨σ,_,C.set i .dead,e,⟨_,⟨?_,fun bb ob e=>hk _ _ (fun e'=> ?_) (F.keep bb ob e),F.above⟩,fun z hz=> ?_,h4 .dead [] .dead,?_,k.g,k.d,k.o⟩,.str _ _,q⟩
 ·obtain⟨oo,es,ep,ho,rr⟩:=F.ns
  exact⟨oo,es,ep,hk _ _ (Ne.symm hit.2.1) ho,rr⟩
 ·exact AM (hit.2.2.symm.trans (e'▸e))
 ·have hz':z∈pre++(post++(f.b.z++σ.W)):=by rw[←List.append_assoc];exact hz
  have hz2:=N z (pm.mem_iff.mpr (List.mem_append_right _ hz'))
  exact⟨hk _ _ (out z hz') hz2.1,hz2.2⟩
 ·have n4:=n3.2
  rw[←List.append_assoc] at n4
  exact n4
@[elab_as_elim] theorem IF.g0{kws:List (Str×Value)}{G:List (Str×Value)→Prop}(rk:IF σ [] kws)(k:G []):G kws:=by rw[List.map_eq_nil_iff.mp rk.1.symm];exact k
@[elab_as_elim] theorem IF.g1{x:Str}{c:V}{r:List (Str×V)}{kws:List (Str×Value)}{G:List (Str×Value)→Prop}(rk:IF σ ((x,c)::r) kws)(k:∀u l,VR σ c u→IF σ r l→G ((x,u)::l)):G kws:=by
 obtain⟨h1,h2⟩:=rk
 cases kws with
 |nil=>exact nomatch h1
 |cons p l=>
  cases h2 with|cons r1 r2=>
  have h1:=List.cons.inj h1
  have:=k p.2 l r1 ⟨h1.2,r2⟩
  rw[show x=p.1 from h1.1] at this
  exact this
theorem Xv{n:String}{a:V}{u:Value}{Q:VQ}(e:Am σ0 σ)(hh:A.handled=none)(S:St g f C σ s)(ra:VR σ a u)(h:WP n a C Q):wpAny g.M A (call (.builtin n) [u]) (AN g f Q σ0) E s:=by
 refine Ad.nm (G:=fun n=>wpAny g.M A (call (.builtin n) [u]) (AN g f Q σ0) E s) h (fun h=> ?_) fun h=> ?_
 ·obtain⟨k,hk,h1,h2⟩:=AF.ok h
  exact u3 e S ra hk h1 h2
 refine Ad.nm (G:=fun n=>wpAny g.M A (call (.builtin n) [u]) (AN g f Q σ0) E s) h (fun h=> ?_) fun h=> ?_
 ·obtain⟨l,hl,h⟩:=AF.ok h
  obtain⟨hm,iv⟩:=ra.asLi hl
  have il:=S.isList hm
  cases S with|mk os F N c=>
  exact LSm.sum_ints F N hh il iv fun h' tk t' F' N'=>⟨σ,_,C,e,⟨os,F',N',c.c,c.nd,c.g,c.d,c.o⟩,.int _ _,h.2⟩
 refine Ad.nm (G:=fun n=>wpAny g.M A (call (.builtin n) [u]) (AN g f Q σ0) E s) h (fun h=> ?_) fE
 obtain⟨i,hi,h⟩:=AF.ok h
 exact ra.gI (G:=fun u=>wpAny g.M A (call (.builtin "int.bit_length") [u]) (AN g f Q σ0) E s) hi fun t=>call_gives F.slot_int_bit_length (typeIs_int s _ _) F.entry_int_bit_length (F.args_int_bit_length_1 _) (PySem.AutoIntG2.int_bit_length_int_0 _ _) (pI S e h)
inductive tU(o:Option AB)(Q:List Int→Prop):Prop
 |mk:∀l,o=some (.map l)→Q l→tU o Q
theorem OL{o:Option AB}{Q:List Int→Prop}:(h:match o with|some (.map l)=>Q l|_=>False)→tU o Q:=by
 cases o with
 |none=>exact fE
 |some c=>cases c<;>first|exact fun h=>⟨_,rfl,h⟩|exact fE
theorem Xu{n:String}{a c:V}{u v:Value}{Q:VQ}(e:Am σ0 σ)(X:K.In f.h₀)(hh:A.handled=none)(S:St g f C σ s)(ra:VR σ a u)(rb:VR σ c v)(h:WO K n a c C Q):wpAny g.M A (call (.builtin n) [u,v]) (AN g f Q σ0) E s:=by
 refine BL fun R hR=> ?_
 refine Ad.nm (G:=fun n=>wpAny g.M A (call (.builtin n) [u,v]) R E s) h (fun h=> ?_) fun h=> ?_
 ·obtain⟨i,hi,h⟩:=AF.ok h
  obtain⟨l,hC,h⟩:=Gw h
  have ra:=(Cs.ok hi▸ra:VR σ (.obj i) u)
  obtain⟨a,vs,n,rfl,ho,rs⟩:=S.list ra hC
  refine wpAny_list_append_plain (hsz:=by rw[rs.alen];exact Nat.le_trans h.1 (by decide)) ⟨n,ho⟩ fun h' hl hs=> ?_
  obtain⟨n',ho'⟩:=hl
  exact hR _ _ ⟨σ,.none,_,e,S.list_set (vs':=vs++[_]) (n':=n') ra hC hs (by rw[List.push_toArray] at ho';exact ho') (rs.append (.cons rb .nil)),.none,h.2⟩
 refine Ad.nm (G:=fun n=>wpAny g.M A (call (.builtin n) [u,v]) R E s) h (fun h=> ?_) fun h=> ?_
 ·obtain⟨t,ht,h1⟩:=AF.ok h
  obtain⟨cv,hcv,h2⟩:=AF.ok h1
  obtain⟨r,hr,h3⟩:=AF.ok h2
  obtain⟨H,Z,hH,hne⟩:=R9.ok S ra ht
  obtain rfl:=RL.ok rb hcv
  exact kia_one Z (X.keeps S.F.keep) hH hr hne fun tk=>hR _ _ (pT (S.toks _) e h3)
 refine Ad.nm (G:=fun n=>wpAny g.M A (call (.builtin n) [u,v]) R E s) h (fun h=> ?_) fun h=> ?_
 ·obtain⟨x,hx,h⟩:=AF.ok h
  obtain⟨he,h⟩:=AD.ok h
  obtain⟨l,hl,h⟩:=AF.ok h
  obtain⟨bs,hbs,h1,h2⟩:=AF.ok h
  obtain⟨a,vs,n,rfl,ho,rs⟩:=Fz.ok S rb hl
  rw[List.isEmpty_iff.mp he] at hx
  exact ra.gB (G:=fun u=>wpAny g.M A (call (.builtin "bytes.join") [u,.ref a]) R E s) hx fun t=>Ko ho rfl rfl (CJ.ok hbs rs) h1 fun t' k=>hR _ _ (pB S e h2)
 refine Ad.nm (G:=fun n=>wpAny g.M A (call (.builtin n) [u,v]) R E s) h (fun h=> ?_) fE
 obtain⟨x,i,hx,hi,h⟩:=v2.ok h
 obtain⟨l,hC,h1,h2,h3,h4⟩:=OL h
 exact ra.gS (G:=fun u=>wpAny g.M A (call (.builtin "str.join") [u,v]) R E s) hx fun t=>wpAny_mono (Xo e hh S (Cs.ok hi▸rb:VR σ (.obj i) v) hC h1 h2 h3 h4) hR fun _ _ e=>e
theorem Xs{n:String}{a c d b:V}{u v x y:Value}{k1 k2:Str}{Q:VQ}(e:Am σ0 σ)(S:St g f C σ s)(ra:VR σ a u)(rb:VR σ c v)(rc:VR σ d x)(rd:VR σ b y)(h:WN n a c k1 d k2 b C Q):wpAny g.M A (call (.builtin n) [u,v] [(k1,x),(k2,y)]) (AN g f Q σ0) E s:=by
 refine BL fun R hR=> ?_
 obtain⟨hk,h⟩:=AD.ok h
 have hk:=AZ hk
 have hk2:=AZ hk.2
 rw[bE hk.1,bE hk2.1,bE hk2.2]
 obtain⟨x1,k,hx,hk,h⟩:=v2.ok h
 obtain⟨o,sg,ho,hs,h⟩:=v2.ok h
 obtain⟨hc,h1,h2,h3,h4,h5⟩:=AD.ok h
 have hc:=AZ hc
 obtain⟨k',rfl⟩:=Int.eq_ofNat_of_zero_le h1
 obtain⟨⟩:=(Fn.ok hs▸rd:VR σ (.bool sg) y).boolI
 rw[Bn hc.2]
 refine rc.gS (G:=fun x=>wpAny g.M A (call (.builtin "int.to_bytes") [u,v] [("byteorder",x),("signed",.bool false)]) R E s) ho fun _=> ?_
 rw[bE hc.1]
 exact Kg (G:=fun u v=>wpAny g.M A (call (.builtin "int.to_bytes") [u,v] [("byteorder",.str "big" _),("signed",.bool false)]) R E s) ra rb hx hk fun _ _=>JB (Int.ofNat_le.mp h2) h3 h4 fun t' k''=>hR _ _ (pB S e h5)
theorem Xg{n:String}{a:V}{u:Value}{Q:VQ}(e:Am σ0 σ)(hh:A.handled=none)(S:St g f C σ s)(ra:VR σ a u)(h:TB n a C Q):wpAny g.M A (call (.type n) [u]) (AN g f Q σ0) E s:=by
 refine BL fun R hR=> ?_
 refine Ad.nm (G:=fun n=>wpAny g.M A (call (.type n) [u]) R E s) h (fun h=> ?_) fun h=> ?_
 ·obtain⟨l,hl,h⟩:=AF.ok h
  obtain⟨hm,iv⟩:=ra.asLi hl
  have il:=S.isList hm
  cases S with|mk os F N c=>
  exact bytes_K F N il iv h.1 (by rw[iv.length];exact Nat.le_trans h.2.1 (by decide)) hh fun h' t k F' N' _=>hR _ _ ⟨σ,_,C,e,⟨os,F',N',c.c,c.nd,c.g,c.d,c.o⟩,.bytes _ _,h.2.2⟩
 refine Ad.nm (G:=fun n=>wpAny g.M A (call (.type n) [u]) R E s) h (fun h=> ?_) fun h=> ?_
 ·obtain⟨l,hl,h⟩:=AF.ok h
  obtain⟨hm,iv⟩:=ra.asLi hl
  have il:=S.isList hm
  cases S with|mk os F N c=>
  refine call_tuple_list il (fun h' hk=> ?_) (by rw[List.size_toArray,iv.length];exact Nat.le_trans h.1 (by decide))
  have F':Fr f.h₀ f.L h' f.μ:=F.keeps hk
  have N':News f.h₀ f.L h' (os++(f.b.z++σ.W)):=fun p hp=>⟨hk _ _ (N p hp).1,(N p hp).2⟩
  exact hR _ _ (St.new (s:={s with heap:=h'}) (x:= .ti _) ⟨c.c,c.nd,c.g,c.d,c.o⟩ N' e (F'.push _) (N'.push F' _) (Nat.le_refl _) (.ti (.head _) iv) h.2)
 refine Ad.nm (G:=fun n=>wpAny g.M A (call (.type n) [u]) R E s) h (fun h=> ?_) fE
 obtain⟨i,hi,h⟩:=AF.ok h
 refine ra.gI (G:=fun u=>wpAny g.M A (call (.type "range") [u]) R E s) hi fun _=> ?_
 cases S with|mk os F N c=>
 exact call_range_1 (hR _ _ (St.new (s:={s with toks:=s.toks+1+1}) (x:= .rng 0 _ 1) ⟨c.c,c.nd,c.g,c.d,c.o⟩ N e (F.push _) (N.push F _) (Nat.le_refl _) (.rng (.head _)) h))
theorem Xf{n:String}{a c:V}{u v:Value}{Q:VQ}(e:Am σ0 σ)(S:St g f C σ s)(ra:VR σ a u)(rb:VR σ c v)(h:TA n a c C Q):wpAny g.M A (call (.type n) [u,v]) (AN g f Q σ0) E s:=by
 refine Ad.nm (G:=fun n=>wpAny g.M A (call (.type n) [u,v]) (AN g f Q σ0) E s) h (fun h=> ?_) fun h=> ?_
 ·obtain⟨m,l,hm,hl,h⟩:=v2.ok h
  obtain⟨hx,h⟩:=AD.ok h
  obtain⟨⟩:=ra.asTyp hm
  rw[bE hx]
  exact u2 e S (rb.asTi hl) h.2
 refine Ad.nm (G:=fun n=>wpAny g.M A (call (.type n) [u,v]) (AN g f Q σ0) E s) h (fun h=> ?_) fE
 obtain⟨x,k,hx,hk,h⟩:=v2.ok h
 obtain⟨h2,ns,rfl,h1,h2',h3,h4⟩:=AD.ok h
 rw[bE h2] at hk
 exact V4 (G:=fun u v=>wpAny g.M A (call (.type "int") [u,v]) (AN g f Q σ0) E s) ra rb hx hk fun _ _=>Oh h1 h2' h3 (pI S e h4)
inductive NK(K:Frag)(C:List AB)(Q:VQ):V→List V→List (Str×V)→Prop
 |b1 n a:WP n a C Q→NK K C Q (.blt n) [a] []
 |b2 n a b:WO K n a b C Q→NK K C Q (.blt n) [a,b] []
 |b4 n a b k1 c k2 d:WN n a b k1 c k2 d C Q→NK K C Q (.blt n) [a,b] [(k1,c),(k2,d)]
 |t1 n a:TB n a C Q→NK K C Q (.typ n) [a] []
 |t2 n a b:TA n a b C Q→NK K C Q (.typ n) [a,b] []
theorem I9.ok{F:V}{vs:List V}{kvs:List (Str×V)}{Q:VQ}:(h:I9 K F vs kvs C Q)→NK K C Q F vs kvs:=by
 cases F with
 |blt n=>
  cases vs with
  |nil=>exact fE
  |cons a vs=>cases vs with
   |nil=>cases kvs with
    |nil=>exact .b1 n a
    |cons _ _=>exact fE
   |cons b vs=>cases vs with
    |nil=>cases kvs with
     |nil=>exact .b2 n a b
     |cons p kvs=>cases kvs with
      |nil=>exact fE
      |cons q kvs=>cases kvs with
       |nil=>exact .b4 n a b p.1 p.2 q.1 q.2
       |cons _ _=>exact fE
    |cons _ _=>exact fE
 |typ n=>
  cases kvs with
  |nil=>
   cases vs with
   |nil=>exact fE
   |cons a vs=>cases vs with
    |nil=>exact .t1 n a
    |cons b vs=>cases vs with
     |nil=>exact .t2 n a b
     |cons _ _=>exact fE
  |cons _ _=>exact fE
 |_=>exact fE
theorem u7{F:V}{fv:Value}{vs:List V}{vals:List Value}{kvs:List (Str×V)}{kws:List (Str×Value)}{Q:VQ}(e:Am σ0 σ)(X:K.In f.h₀)(hh:A.handled=none)(S:St g f C σ s)(rf:VR σ F fv)(rvs:BU σ vs vals)(rk:IF σ kvs kws)(h:I9 K F vs kvs C Q):
  wpAny g.M A (call fv vals kws) (AN g f Q σ0) E s:=by
 have D:=I9.ok h
 clear h
 induction D with
 |b1 n a h=>exact rf.gBlt (rvs.g1 fun u vs ra r=>r.g0 (rk.g0 (Xv e hh S ra h)))
 |b2 n a b h=>exact rf.gBlt (rvs.g1 fun u vs ra r=>r.g1 fun v vs rb r=>r.g0 (rk.g0 (Xu e X hh S ra rb h)))
 |b4 n a b k1 c k2 d h=>exact rf.gBlt (rvs.g1 fun u vs ra r=>r.g1 fun v vs rb r=>r.g0 (rk.g1 fun x l rc r=>r.g1 fun y l rd r=>r.g0 (Xs e S ra rb rc rd h)))
 |t1 n a h=>exact rf.gTyp (rvs.g1 fun u vs ra r=>r.g0 (rk.g0 (Xg e hh S ra h)))
 |t2 n a b h=>exact rf.gTyp (rvs.g1 fun u vs ra r=>r.g1 fun v vs rb r=>r.g0 (rk.g0 (Xf e S ra rb h)))
end
end
section
section
variable{g:Gx}{f:Fx}{K:Frag}{σ σ0:Lg}{s:Shared}{C:List AB}{A:Around}{E:Value→Shared→Prop}
theorem GE{l:List V}:∀{vs:List Value} {k:Nat} {v:V},BU σ l vs→l[k]? =some v→∃x,vs[k]? =some x∧VR σ v x:=by
 induction l with
 |nil=>intro vs k v _ h;exact AM (List.getElem?_nil.symm.trans h)
 |cons v0 l ih=>
  intro vs k v r h
  cases k with
  |zero=>cases h;exact r.g1 fun x vs a b=>⟨x,rfl,a⟩
  |succ k=>exact r.g1 fun x vs a b=>ih (k:=k) b h
theorem su{α:Type}{l:List α}{k:Nat}{x:α}(h:l[k]? =some x):k<l.length:=(List.getElem?_eq_some_iff.mp h).1
theorem Kx{α:Type}{l:List α}{k:Int}{x:α}(h1:0≤k)(h:l[k.toNat]? =some x)(hz:l.length≤1000000):k<l.length∧k<2^63:=
 have h2:=(Int.toNat_lt h1).mp (su h)
 ⟨h2,Int.lt_trans h2 (G9 hz)⟩
theorem Im{value slice:Expr}{R:Value→Shared→Prop}{a:Addr}{k:Int}{t:Nat}{vs:List Value}{x:Value}(hs:∀{o i:Value},subscripted slice false o i=operate [o,i] (getItem o i))(il:s.heap.IsList a vs.toArray)(h1:0≤k)(hx:vs[k.toNat]? =some x)(hz:vs.length≤1000000)(h:R x s):
  wpAny g.M A (subscriptTail value slice (.ref a) (.int k t)) R E s:=
 tail_any il.typeIs slot_list_getitem.lookup (wpAny_getItem_list il h1 (Kx h1 hx hz).2 ((List.getElem?_toArray ..).trans hx) h) hs
theorem WT{value slice:Expr}{R:Value→Shared→Prop}{a:Addr}{k:Int}{t:Nat}{vs:List Value}{x:Value}(hs:∀{o i:Value},subscripted slice false o i=operate [o,i] (getItem o i))(il:IsTup s.heap a vs.toArray)(h1:0≤k)(hx:vs[k.toNat]? =some x)(hz:vs.length≤1000000)(h:R x s):
  wpAny g.M A (subscriptTail value slice (.ref a) (.int k t)) R E s:=
 tail_any il.typeIs slot_tuple_getitem.lookup (getItem_tuple il (Int.le_trans (by decide) h1) (Kx h1 hx hz).2 (seqIndex_of h1 (Kx h1 hx hz).1) ((List.getElem?_toArray ..).trans hx) h) hs
theorem u4{value slice:Expr}{o i:V}{ov iv:Value}{Q:VQ}(e:Am σ0 σ)(X:K.In f.h₀)(S:St g f C σ s)(ro:VR σ o ov)(ri:VR σ i iv)(hsl:slice.ctorIdx≠26)(h:NT K C o i fun v=>Q v C):
  wpAny g.M A (subscriptTail value slice ov iv) (AN g f Q σ0) E s:=by
 have hs:∀{o i:Value},subscripted slice false o i=operate [o,i] (getItem o i):=by
  intro o i
  clear h ro ri
  revert hsl
  cases slice<;>first|exact fun _=>rfl|exact fun h=>absurd rfl h
 clear hsl
 refine BL fun R hR=> ?_
 obtain⟨k,hk,h⟩:=AF.ok h
 refine ri.gI (G:=fun iv=>wpAny g.M A (subscriptTail value slice ov iv) R E s) hk fun _=> ?_
 clear ri hk
 cases o with
 |bytes bs=>
  obtain⟨h1,h2,h3,h4⟩:=h
  exact ro.gBytes fun t=>tail_any (typeIs_bytes s _ _) FB.slot_bytes_getitem.lookup (getItem_bytes h1 h2 h3 (hR _ _ (pI S e h4))) hs
 |li l=>
  obtain⟨h1,h2,h3,h4⟩:=h
  refine ro.liI.g fun a vs n hm I=> ?_
  obtain⟨t,hx⟩:=I.get k.toNat _ (ints_getD h1 h2)
  exact Im hs (S.isList hm) h1 hx (by rw[I.length];exact h3) (hR _ _ ⟨σ,_,C,e,S,.int _ _,h4⟩)
 |tup l=>
  obtain⟨h1,h⟩:=AD.ok h
  obtain⟨v,hv,h2,h3⟩:=AF.ok h
  refine ro.tupI.g fun a vs n hm rs=> ?_
  obtain⟨x,hx,rx⟩:=GE rs hv
  exact WT hs (S.isTup hm) (of_decide_eq_true h1) hx (by rw[rs.len];exact h2) (hR _ _ ⟨σ,_,C,e,S,rx,h3⟩)
 |lst l=>
  obtain⟨h1,h⟩:=AD.ok h
  obtain⟨v,hv,h2,h3⟩:=AF.ok h
  refine ro.lstI.g fun a vs n hm rs=> ?_
  obtain⟨x,hx,rx⟩:=GE rs hv
  exact Im hs (S.isList hm) (of_decide_eq_true h1) hx (by rw[rs.len];exact h2) (hR _ _ ⟨σ,_,C,e,S,rx,h3⟩)
 |glob a=>
  obtain⟨es,he,h⟩:=AF.ok h
  obtain⟨v,hv,h⟩:=AF.ok h
  obtain⟨u,hu,h⟩:=AF.ok h
  obtain⟨o,n,ho,h1,h2,h3,h4⟩:=Es.ok he
  have ho':=S.F.keep _ _ (X _ _ ho)
  exact ro.gGlob (tail_any (show s.TypeIs (.ref a) "dict" from⟨o,ho',h1⟩) slot_dict_getitem.lookup (Hd ho' h1 h2 h3 hv (hR _ _ ⟨σ,_,C,e,S.toks _,GU hu,h⟩)) hs)
 |obj j=>
  obtain⟨l,hC,h⟩:=Gw h
  obtain⟨h1,h⟩:=AD.ok h
  obtain⟨v,hv,h2,h3⟩:=AF.ok h
  obtain⟨a,vs,n,rfl,ho,rs⟩:=S.list ro hC
  obtain⟨x,hx,rx⟩:=GE rs hv
  exact Im hs ⟨_,ho,rfl,_,rfl⟩ (of_decide_eq_true h1) hx (by rw[rs.len];exact h2) (hR _ _ ⟨σ,_,C,e,S,rx,h3⟩)
 |_=>exact fE h
theorem Lm:typeLookup (.type "list") (dunderI "add")=pure (some (.builtin "list.__iadd__")):=by rw[typeLookup_type,builtinLookup_eq_fast];kernel_rfl
theorem Qx:fillsInplaceSlot (.type "list") "add" true=pure false:=by
 unfold fillsInplaceSlot
 show(typeLookup (.type "list") (dunderI "add")>>=fun fi=>pure (fi.isSome&& !isSeqSlot fi))=pure false
 rw[Lm];kernel_rfl
theorem Vu:seqSlot? (.type "list") (dunderI "add")=pure (some (.builtin "list.__iadd__")):=by
 unfold seqSlot?
 rw[Lm];kernel_rfl
theorem rP{n:Nat}(h:n≤1000000):decide (16777216<n)=false:=decide_eq_false (Nat.not_lt.mpr (Nat.le_trans h (by decide)))
theorem Mu{a c:Addr}{vs ws:List Value}{n k:Nat}{Q:Value→Shared→Prop}(ha:s.heap.get? a=some (Ag "list" vs n))(hc:s.heap.get? c=some (Ag "list" ws k))(hz:vs.length+ws.length≤1000000)
  (h:∀h' n',Heap.SameBut a s.heap h'→h'.get? a=some (Ag "list" (vs++ws) n')→Q (.ref a) {s with heap:=h'}):wpAny g.M A (inplaceOp .Add (.ref a) (.ref c)) Q E s:=by
 have ta:s.TypeIs (.ref a) "list":=⟨_,ha,rfl⟩
 have tc:s.TypeIs (.ref c) "list":=⟨_,hc,rfl⟩
 refine uf fun G hG=> ?_
 have h1:vs.length+ws.length≤16777216:=Nat.le_trans hz (by decide)
 obtain⟨n',e⟩:∃n',Obj.mapSeq (fun x=>x++ws.toArray) (Ag "list" vs n)=Ag "list" (vs++ws) n':=by
  unfold Ag
  rw[←List.append_toArray vs ws]
  exact⟨_,rfl⟩
 refine hG ?_
 unfold inplaceOp
 refine wpAny_holding (wpAny_bind (wpAny_typeOf ta (wpAny_bind (wpAny_of_eq Qx ?_))))
 refine CC (if_neg Bool.false_ne_true) (wpAny_bind (wpAny_binaryOp1_none (nm:="add") ta tc noFill_list_add (wpAny_bind (wpAny_of_eq Vu (wpAny_bind (wpAny_rule ?_))))))
 refine call_meets PySem.F.slot_list_iadd ta PySem.F.entry_list_iadd (PySem.F.args_list_iadd_2 _ _) (PySem.AutoSeq1.list___iadd___list_list_0 a vs.toArray n c ws.toArray k (by simp[Builtin.List.listTooLong,sizeLine_eq];intro _;exact h1) (by rw[sizeLine_eq];exact Nat.le_trans (Nat.le_add_right _ _) h1) (by rw[sizeLine_eq];exact Nat.le_trans h1 (by decide))) ⟨ha,hc,?_⟩
 exact h _ n' (Heap.SameBut.update ..) ((Heap.get?_update_self _ ha (by rw[e];rfl)).trans (congrArg some e))
theorem Ft.ok{v:V}{o:Option Int}{x:Value}(r:VR σ v x):(h:Ft v=some o)→IsPart x o:=by
 cases v with
 |none=>exact fun h=>oJ h▸r.gNone .none
 |int i=>exact fun h=>oJ h▸r.gInt fun t=> .int _ _
 |_=>exact AM
theorem Qy{vs:List Value}{ns:List Int}(h:IntsAre vs ns):∀k:Nat,IntsAre (vs.take k) (ns.take k):=by
 induction h with
 |nil=>intro k;cases k<;>exact .nil
 |cons n t _ ih=>intro k;cases k with
  |zero=>exact .nil
  |succ k=>exact .cons n t (ih k)
theorem Qz{vs:List Value}{ns:List Int}(h:IntsAre vs ns):∀k:Nat,IntsAre (vs.drop k) (ns.drop k):=by
 induction h with
 |nil=>intro k;cases k<;>exact .nil
 |cons n t h ih=>intro k;cases k with
  |zero=>exact .cons n t h
  |succ k=>exact ih k
theorem NQ{l:List V}:∀{vs:List Value} (h:BU σ l vs) (k:Nat),BU σ (l.take k) (vs.take k):=by
 induction l with
 |nil=>exact fun h k=>h.g0 (by cases k<;>exact .nil)
 |cons v l ih=>intro vs h k;cases k with
  |zero=>exact .nil
  |succ k=>exact h.g1 fun x vs a b=> .cons a (ih b k)
theorem I8{l:List V}:∀{vs:List Value} (h:BU σ l vs) (k:Nat),BU σ (l.drop k) (vs.drop k):=by
 induction l with
 |nil=>exact fun h k=>h.g0 (by cases k<;>exact .nil)
 |cons v l ih=>intro vs h k;cases k with
  |zero=>exact h
  |succ k=>exact h.g1 fun x vs a b=>ih b k
theorem M1{vs:List Value}(lo hi:Option Int):slicePick vs.toArray lo hi none=(BW vs lo hi).toArray:=by
 rw[slicePick_plain];unfold BW;simp
theorem sD{α β:Type}(f:α→β)(l:List α)(lo hi:Option Int):BW (l.map f) lo hi=(BW l lo hi).map f:=by
 unfold BW;rw[List.length_map,List.map_take,List.map_drop]
theorem Vv{vs:List Value}{ns:List Int}(h:IntsAre vs ns)(lo hi:Option Int):IntsAre (BW vs lo hi) (BW ns lo hi):=by
 unfold BW;rw[h.length];exact Qy (Qz h _) _
theorem Py{l:List V}{vs:List Value}(h:BU σ l vs)(lo hi:Option Int):BU σ (BW l lo hi) (BW vs lo hi):=by
 unfold BW;rw[h.len];exact NQ (I8 h _) _
noncomputable abbrev Cg(vl vu:Value):Obj:={cls:= .type "slice",data:= .fields #[vl,vu,.none]}
theorem Jv{value:Expr}{l u:Option Expr}{p:Pos}{a:Addr}{vs:List Value}{vl vu:Value}{lo hi:Option Int}{R:Value→Shared→Prop}(il:s.heap.IsList a vs.toArray)(pl:IsPart vl lo)(pu:IsPart vu hi)(hz:vs.length≤1000000)
  (h:R (.ref (s.heap.push (Cg vl vu)).objs.size) {s with heap:=(s.heap.push (Cg vl vu)).push (Ag "list" (BW vs lo hi) 0)}):
  wpAny g.M A (subscriptTail value (.Slice l u none p) (.ref a) (.ref s.heap.objs.size)) R E {s with heap:=s.heap.push (Cg vl vu)}:=by
 refine tail_any (Heap.IsList.typeIs (s:={s with heap:=s.heap.push (Cg vl vu)}) (il.push _)) list_getitem_lookup (wpAny_getItem_list_slice (il.push _) (Heap.IsSliceOf.new ..) pl pu .none (by simp) ?_ (by rw[sizeLine_eq];exact Nat.le_trans hz (by decide))) rfl
 rw[M1]
 exact h
theorem u6{value:Expr}{l u:Option Expr}{p:Pos}{o:V}{ov vl vu:Value}{lo hi:Option Int}{Q:VQ}(e:Am σ0 σ)(S:St g f C σ s)(ro:VR σ o ov)(pl:IsPart vl lo)(pu:IsPart vu hi)(h:NU o lo hi fun v=>Q v C):
  wpAny g.M A (subscriptTail value (.Slice l u none p) ov (.ref s.heap.objs.size)) (AN g f Q σ0) E {s with heap:=s.heap.push (Cg vl vu)}:=by
 refine BL fun R hR=> ?_
 cases o with
 |bytes bs=>
  refine ro.gBytes fun t=> ?_
  cases S with|mk os F N c=>
  refine KBc.slice_K F N rfl pl pu (by rw[Fk];exact h.1) (fun h' t' k F' N' hp=> ?_) rfl (by intro r;cases value<;>rfl)
  rw[show KBy.picked bs.toArray lo hi=(BW bs lo hi).toArray from by rw[KBc.picked_eq];rfl]
  exact hR _ _ ⟨σ,_,C,e,⟨os,F',N',c.c,c.nd,c.g,c.d,c.o⟩,.bytes _ _,h.2⟩
 |li ll=>
  refine ro.liI.g fun a vs n hm I=> ?_
  refine Jv (S.isList hm) pl pu (by rw[I.length];exact h.1) ?_
  cases S with|mk os F N c=>
  exact hR _ _ (St.new (s:={s with heap:=s.heap.push (Cg vl vu)}) (x:= .li _) ⟨c.c,c.nd,c.g,c.d,c.o⟩ (N.grown fun _ _ e=>Heap.get?_push_of_some _ e) e ((F.push _).push _) ((N.grown fun _ _ e=>Heap.get?_push_of_some _ e).push (F.push _) _) (Nat.le_refl _) (.li (.head _) (Vv I lo hi)) h.2)
 |lst ll=>
  refine ro.lstI.g fun a vs n hm rs=> ?_
  refine Jv (S.isList hm) pl pu (by rw[rs.len];exact h.1) ?_
  cases S with|mk os F N c=>
  exact hR _ _ (St.new (s:={s with heap:=s.heap.push (Cg vl vu)}) (x:= .lst _) ⟨c.c,c.nd,c.g,c.d,c.o⟩ (N.grown fun _ _ e=>Heap.get?_push_of_some _ e) e ((F.push _).push _) ((N.grown fun _ _ e=>Heap.get?_push_of_some _ e).push (F.push _) _) (Nat.le_refl _) (.lst (.head _) ((Py rs lo hi).ext Am.push)) h.2)
 |_=>exact fE h
inductive tW(K:Frag)(σ:Lg):MV→Value→List Value→Prop where
 |val {F:V} {fi:List V} {v:Value} {first:List Value}:VR σ F v→BU σ fi first→tW K σ (.val F fi) v first
 |fb {x:Addr}:(x,KFB.bound)∈σ.W→tW K σ .fb (.ref x) []
 |bm {a:Nat} {self:V} {q:Addr} {x:Value}:(q,methodObj (.ref a) x)∈σ.W→VR σ self x→fnIn K a=true→tW K σ (.bm a self) (.ref q) []
inductive PX(K:Frag)(g:Gx)(f:Fx)(C:List AB)(k:MV→Prop)(σ:Lg)(r:Value×List Value)(s':Shared):Prop where
 |mk:∀σ' mv,Am σ σ'→St g f C σ' s'→tW K σ' mv r.1 r.2→k mv→PX K g f C k σ r s'
inductive tS(K:Frag)(c:Nat)(at_:AU)(x:Str)(Q:Nat→Prop):Prop
 |mk:∀fa,findIn K (.ref c) x=some (some (.ref fa))→AP at_ x=none→plainGet K c x=true→isFn K (.ref fa)=true→Q fa→tS K c at_ x Q
theorem OJ{c:Nat}{at_:AU}{x:Str}{Q:Nat→Prop}(h:match findIn K (.ref c) x,AP at_ x with|some (some (.ref fa)),none=>AD (plainGet K c x&&isFn K (.ref fa)) (Q fa)|_,_=>False):tS K c at_ x Q:=by
 split at h
 ·rename_i fa hf hl
  obtain⟨hg,h⟩:=AD.ok h
  have hg:=AZ hg
  exact⟨fa,hf,hl,hg.1,hg.2,h⟩
 ·exact h.elim
inductive yM(K:Frag)(c:Nat)(x:Str)(k:MV→Prop):Prop
 |val:∀mc a u,typeIn K (.ref c)=some mc→readsIn K c mc=true→specialIn K (.ref c) "__getattribute__"=some (some (.builtin "type.__getattribute__"))→findCls K (.ref c) mc x=some (.val a)→handedIn a=true→JA a=some u→k (.val u [])→yM K c x k
 |cm:∀mc p fa rest,typeIn K (.ref c)=some mc→readsIn K c mc=true→specialIn K (.ref c) "__getattribute__"=some (some (.builtin "type.__getattribute__"))→findCls K (.ref c) mc x=some (.get (.builtin "classmethod.__get__") (.ref p) .none (.ref c))→recIn K p "classmethod"=some (.ref fa::rest)→fnIn K fa=true→k (.bm fa (.glob c))→yM K c x k
theorem RK{c:Nat}{x:Str}{k:MV→Prop}(h:Ds K (.glob c) x C k):yM K c x k:=by
 unfold Ds at h
 dsimp only at h
 split at h
 ·rename_i mc hm
  obtain⟨hg,h⟩:=AD.ok h
  have hg:=AZ hg
  split at h
  ·rename_i a hf
   obtain⟨h6,h⟩:=AD.ok h
   obtain⟨u,hu',h⟩:=AF.ok h
   exact .val mc a u hm hg.1 (bE hg.2) hf h6 hu' h
  ·rename_i b p c' hf
   obtain⟨h6,h⟩:=AD.ok h
   have h6:=AZ h6
   rw[bE h6.1,bE h6.2] at hf
   split at h
   ·rename_i fa rest hp
    obtain⟨h7,h⟩:=AD.ok h
    exact .cm mc p fa rest hm hg.1 (bE hg.2) hf hp h7 h
   ·exact h.elim
  ·exact h.elim
 ·exact h.elim
theorem Xq{ov:V}{y:Value}{x:Str}{k:MV→Prop}{pl:Sem Bool}(X:K.In f.h₀)(S:St g f C σ s)(r:VR σ ov y)(h:Ds K ov x C k):
  wpAny g.M A (getMethod y x pl) (PX K g f C k σ) E s:=by
 refine BL fun R hR=> ?_
 cases ov with
 |obj i=>
  unfold Ds at h
  dsimp only at h
  cases hC:C[i]? with
  |none=>rw[hC] at h;exact h.elim
  |some c=>
   rw[hC] at h
   cases c with
   |inst c at_=>
    obtain⟨fa,hf,hl,h1,h2,h⟩:=OJ h
    obtain⟨xx,d,es,n,rfl,I,hat⟩:=S.instC r hC
    exact method_inst S.F X I h1 hf h2 (hat.get_none hl) (hR _ _ ⟨σ,_,Am.refl,S,.val (.glob _) (.cons r .nil),h⟩)
   |list l=>
    obtain⟨hg,h⟩:=AD.ok h
    rw[bE hg]
    obtain⟨a,vs,n,rfl,ho,rs⟩:=S.list r hC
    exact PySem.Calls.getMethod_list_append ho rfl rfl (hR _ _ ⟨σ,_,Am.refl,S,.val (.blt _) (.cons r .nil),h⟩)
   |_=>exact h.elim
 |glob c=>
  rcases RK h with⟨mc,a,u,hm,h1,h2,hf,h3,hu,h⟩|⟨mc,p,fa,rest,hm,h1,h2,hf,hp,h3,h⟩
  ·exact r.gGlob (method_of_cls S.F X h2 (cls_val S.F X hm h1 hf h3 (hR _ _ ⟨σ,_,Am.refl,S.toks _,.val (GU hu) .nil,h⟩)))
  ·cases S with|mk os F N c=>
   exact r.gGlob (method_of_cls F X h2 (cls_cm F X N hm h1 hf hp fun q h' F' N' hq=>hR _ _ ⟨_,_,Am.push,(St.push c F' N' fun p hp=>Nat.ne_of_lt (hq p hp)).toks _,.bm (.head _) (.glob _) h3,h⟩))
 |bytes bs=>
  obtain⟨hg,h⟩:=AD.ok h
  rw[bE hg]
  refine r.gBytes (G:=fun y=>VR σ (.bytes bs) y→wpAny g.M A (getMethod y "join" pl) R E s) (fun t rr=> ?_) r
  exact F9 (hR _ _ ⟨σ,_,Am.refl,S,.val (.blt _) (.cons rr .nil),h⟩)
 |int i=>
  unfold Ds at h
  dsimp only at h
  cases hx:x==("bit_length":Str) with
  |true=>
   rw[hx] at h
   rw[bE hx]
   refine r.gInt (G:=fun y=>VR σ (.int i) y→wpAny g.M A (getMethod y "bit_length" pl) R E s) (fun t rr=> ?_) r
   exact getMethod_int_bit_length (hR _ _ ⟨σ,_,Am.refl,S,.val (.blt _) (.cons rr .nil),h⟩)
  |false=>
   rw[hx] at h
   obtain⟨hg,h⟩:=AD.ok h
   rw[bE hg]
   refine r.gInt (G:=fun y=>VR σ (.int i) y→wpAny g.M A (getMethod y "to_bytes" pl) R E s) (fun t rr=> ?_) r
   exact KTBy.method (hR _ _ ⟨σ,_,Am.refl,S,.val (.blt _) (.cons rr .nil),h⟩)
 |str z=>
  obtain⟨hg,h⟩:=AD.ok h
  rw[bE hg]
  refine r.gStr (G:=fun y=>VR σ (.str z) y→wpAny g.M A (getMethod y "join" pl) R E s) (fun t rr=> ?_) r
  exact PySem.GM.join (hR _ _ ⟨σ,_,Am.refl,S,.val (.blt _) (.cons rr .nil),h⟩)
 |typ n=>
  obtain⟨hg,h⟩:=AD.ok h
  have hg:=AZ hg
  rw[bE hg.2]
  rw[bE hg.1] at r
  split at h
  ·rename_i b b' t hf
   obtain⟨h6,h⟩:=AD.ok h
   have h6:=AZ h6
   have h7:=AZ h6.2
   rw[bE h6.1,bE h7.1,bE h7.2] at hf
   cases S with|mk os F N c=>
   exact r.gTyp (KFB.getm F N X hf fun q h' F' N' hq=>hR _ _ ⟨_,_,Am.push,(St.push c F' N' fun p hp=>Nat.ne_of_lt (hq p hp)).toks _,.fb (.head _),h⟩)
  ·exact h.elim
 |_=>exact fE h
end
end
section
theorem Pt{g:Gx}{f:Fx}{σ σ0:Lg}{s:Shared}{t:Sem (List Value)}{A:Around}{Q:List V→List AB→Prop}{X:XQ}{G:List Value→Shared→Prop}(e0:Am σ0 σ)(h:wpAny g.M A t (Di g f Q σ) (Ab g f X σ) s)
  (k:∀σ1 V C v s1,Am σ0 σ1→Am σ σ1→St g f C σ1 s1→BU σ1 V v→Q V C→G v s1):wpAny g.M A t G (Ab g f X σ0) s:=
 wpAny_mono h (fun v s1 q=>by cases q with|mk σ1 V C e1 S r q=>exact k σ1 V C v s1 (e0.trans e1) e1 S r q) fun _ _ e=>e.ext e0
theorem uu{g:Gx}{f:Fx}{σ σ0:Lg}{s:Shared}{t:Sem Bool}{A:Around}{Q:Bool→List AB→Prop}{X:XQ}{G:Bool→Shared→Prop}(e0:Am σ0 σ)(h:wpAny g.M A t (DB g f Q σ) (Ab g f X σ) s)
  (k:∀σ1 C v s1,Am σ0 σ1→Am σ σ1→St g f C σ1 s1→Q v C→G v s1):wpAny g.M A t G (Ab g f X σ0) s:=
 wpAny_mono h (fun v s1 q=>by cases q with|mk σ1 C e1 S q=>exact k σ1 C v s1 (e0.trans e1) e1 S q) fun _ _ e=>e.ext e0
theorem XN{g:Gx}{f:Fx}{σ σ0:Lg}{s:Shared}{t:Sem (List Value)}{A:Around}{Q:List (Str×V)→List AB→Prop}{X:XQ}{ns:List Str}{G:List Value→Shared→Prop}(e0:Am σ0 σ)(h:wpAny g.M A t (Ix g f Q ns σ) (Ab g f X σ) s)
  (k:∀σ1 V C v s1,Am σ0 σ1→Am σ σ1→St g f C σ1 s1→IF σ1 V (ns.zip v)→v.length=ns.length→Q V C→G v s1):wpAny g.M A t G (Ab g f X σ0) s:=
 wpAny_mono h (fun v s1 q=>by cases q with|mk σ1 V C e1 S r z q=>exact k σ1 V C v s1 (e0.trans e1) e1 S r z q) fun _ _ e=>e.ext e0
theorem S8{g:Gx}{f:Fx}{σ0:Lg}{s:Shared}{t:Sem Value}{A:Around}{Q:VQ}{E:Value→Shared→Prop}{G:Value→Shared→Prop}(h:wpAny g.M A t (AN g f Q σ0) E s)
  (k:∀σ1 V C v s1,Am σ0 σ1→St g f C σ1 s1→VR σ1 V v→Q V C→G v s1):wpAny g.M A t G E s:=
 wpAny_mono h (fun v s1 q=>by cases q with|mk σ1 V C e1 S r q=>exact k σ1 V C v s1 e1 S r q) fun _ _ e=>e
theorem S9{g:Gx}{f:Fx}{σ0:Lg}{s:Shared}{t:Sem Bool}{A:Around}{Q:Bool→List AB→Prop}{E:Value→Shared→Prop}{G:Bool→Shared→Prop}(h:wpAny g.M A t (DB g f Q σ0) E s)
  (k:∀σ1 C v s1,Am σ0 σ1→St g f C σ1 s1→Q v C→G v s1):wpAny g.M A t G E s:=
 wpAny_mono h (fun v s1 q=>by cases q with|mk σ1 C e1 S q=>exact k σ1 C v s1 e1 S q) fun _ _ e=>e
structure DQ(f:Fx)(N:Nm)(env:Env):Prop where
 sc:env.scope=N.sc
 kind:N.sc.kind= .function
 glo:env.globals=mainGlobals
 blt:env.builtins=builtinsNs
 cells:env.cells=N.cl
 fr:env.frame=some f.L
 ns:(env.locals=f.L∧N.μ=f.μ)∨∃o,(env.locals,o)∈f.b.z∧∀h:Heap,h.get? env.locals=some o→h.Ns env.locals N.μ
 zc:∀p∈N.zc,p∈f.b.z
section
variable{g:Gx}{f:Fx}{K:Frag}{σ σ0:Lg}{s:Shared}{C:List AB}{A:Around}{E:Value→Shared→Prop}{N:Nm}{env:Env}{M:Model}
theorem DQ.nsx(O:DQ f N env)(S:St g f C σ s):s.heap.Ns env.locals N.μ:=by
 rcases O.ns with⟨a,b⟩|⟨o,hm,h⟩
 ·rw[a,b];exact S.F.ns
 ·exact h _ (S.zmem hm).1
theorem DQ.kindOf(O:DQ f N env)(x:Str):env.kindOf x=N.sc.names.lookup x:=congrArg (fun sc=>sc.names.lookup x) O.sc
theorem DQ.k(O:DQ f N env):env.scope.kind= .function:=(congrArg Scope.kind O.sc).trans O.kind
def ER(g:Gx)(K:Frag)(d:Nat)(cp:Scope→Expr→AW):Prop:=
 ∀(e:Expr) (m:AU) (C:List AB) (Q:VQ) (N:Nm),cp N.sc e m C Q→∀(f:Fx) (A:Around),Fm g K false d f A→∀env,DQ f N env→
  ∀(s:Shared) (σ:Lg),St g f C σ s→A2 N σ m→∀E,wpAny g.M A (eval e env) (AN g f Q σ) E s
def LE(g:Gx)(K:Frag)(d:Nat)(cp:Scope→Expr→AW):Prop:=
 ∀(el:Expr) (gs:List Comprehension) (csc:Scope) (cpos:Pos) (sc:Scope) (m:AU) (C:List AB) (Q:A5) (y:Str) (px pos:Pos),cp sc (.ListComp el gs csc cpos) m C (fun v C=>Q.next (Ae m y v) C)→(sc.names.lookup y==some NameKind.local||sc.names.lookup y==some NameKind.cell)=true→
  ∀(x:Sx) (τ:Tx),Fm g K false d (x.f sc τ) x.A→sc.kind= .function→∀(s:Shared),SS g x sc C τ s→SL x sc τ m→
   ∀E,wpAny g.M x.A (exec (.Assign [.Name y px] (.ListComp el gs csc cpos) pos) (x.env sc)) (As g x sc Q τ.σ) E s
def Ew(g:Gx)(K:Frag)(d:Nat)(sc:Scope)(tr:Bool)(lp:Scope→Stmt→AV):Prop:=
 ∀(st:Stmt) (m:AU) (C:List AB) (Q:A5),lp sc st m C Q→sc.kind= .function→
  ∀(x:Sx) (A₁:Around) (τ:Tx),x.A=A₁.deeper (x.env sc)→Fm g K false d (x.f sc τ) x.A→Below A₁ x.base x.outer x.h₀→∀(s:Shared),SS g x sc C τ s→SL x sc τ m→
   wpAny g.M x.A (exec st (x.env sc)) (As g x sc Q τ.σ) (Aq g x sc tr Q.exc τ.σ) s
theorem OH{x:Str}{pos:Pos}{v:Value}{μx:Str→Option Value}{Q:Value→Shared→Prop}(hk:env.scope.kind= .function)(hx:env.kindOf x=some .local)(hn:s.heap.Ns env.locals μx)(hv:μx x=some v)(h:Q v s)(hd:(x==("__debug__":Str))=false):wpAny M A (eval (.Name x pos) env) Q E s:=
 wpAny_Name (wpAny_loadName_local hk hx hn hv h) hd
theorem Vh{x:Str}{pos:Pos}{v:Value}{Q:Value→Shared→Prop}(F:Fr f.h₀ f.L s.heap f.μ)(X:K.In f.h₀)(T:TopRead g.p g.loose g.mg g.mb f.h₀)(e:nsIn K mainGlobals x=some (some v))(h:Q v s)(hg:env.globals=mainGlobals)
  (hk:env.scope.kind= .function) (hx:env.kindOf x=some .globalImplicit) (hd:(x==("__debug__":Str))=false):wpAny M A (eval (.Name x pos) env) Q E s:=
 Name_function_global hk hx (loadGlobal_global (env:=env) (by rw[hg];exact T.g.keeps F.keep) (mg_of X T.g e) h) hd
theorem IV{x:Str}{pos:Pos}{v:Value}{Q:Value→Shared→Prop}(F:Fr f.h₀ f.L s.heap f.μ)(X:K.In f.h₀)(T:TopRead g.p g.loose g.mg g.mb f.h₀)(e:nsIn K mainGlobals x=some none)(hv:bootBuiltins x=some v)(hn:x≠"__name__")(h:Q v s)(hg:env.globals=mainGlobals)(hb:env.builtins=builtinsNs)
  (hk:env.scope.kind= .function) (hx:env.kindOf x=some .globalImplicit) (hd:(x==("__debug__":Str))=false):wpAny M A (eval (.Name x pos) env) Q E s:=
 Name_function_global hk hx (loadGlobal_builtin (env:=env) (by rw[hg];exact T.g.keeps F.keep) (mg_none_of X T.g e) (by rw[hb];exact T.b.keeps F.keep) ((T.builtins x hn).trans hv) h) hd
theorem CX.el{Q:VQ}{X:XQ}{r:Result}{s':Shared}{G:Result→Prop}(q:CX g f Q X σ r s')(k1:∀v,AN g f Q σ v s'→G (.ok (.ret v)))(k2:∀e,Ab g f X σ e s'→G (.error e)):G r:=by
 cases r with
 |ok fl=>cases fl with
  |ret v=>exact k1 v q
  |_=>exact fE q
 |error e=>exact k2 e q
theorem O4{c:Code}{Q:VQ}{X:XQ}(e:Am σ0 σ)(h:codeAny g.M A c (CX g f Q X σ) s):codeAny g.M A c (CX g f Q X σ0) s:=
 codeAny_mono h fun r s' q=>CX.el (G:=fun r=>CX g f Q X σ0 r s') q (fun v q=>AN.ext e q) (fun v q=>Ab.ext e q)
theorem Lu{fv:Value}{vs:List Value}{kws:List (Str×Value)}{Q:VQ}{X:XQ}(e:Am σ0 σ)(h:codeAny g.M A (.call fv ⟨vs,kws⟩) (CX g f Q X σ) s):wpAny g.M A (call fv vs kws) (AN g f Q σ0) (Ab g f X σ0) s:=
 wpAny_call (codeAny_mono h fun r s' q=>by
  cases r with
  |ok fl=>cases fl with
   |ret v=>exact AN.ext e q
   |_=>exact fE q
  |error ev=>exact Ab.ext e q)
inductive Sp(K:Frag)(a:Nat)(Q:Nat→Prop):Prop
 |mk:∀fi,makesIn K a=true→findIn K (.ref a) "__init__"=some (some (.ref fi))→isFn K (.ref fi)=true→Q fi→Sp K a Q
theorem FU.ok{fn:AG}{X:XQ}{a:Nat}{vs:List V}{kvs:List (Str×V)}{Q:VQ}(h:FU K fn X a vs kvs C Q):Sp K a fun fi=>fn fi (.obj C.length::vs) kvs (C++[.inst a []]) (fun v C'=>match v with| .none=>Q (.obj C.length) C'|_=>False) X:=by
 unfold FU at h
 obtain⟨hm,h⟩:=AD.ok h
 split at h
 ·rename_i fi hi
  obtain⟨hf,h⟩:=AD.ok h
  exact⟨fi,hm,hi,hf,h⟩
 ·exact h.elim
theorem Xk{d:Nat}{fn:AG}{X:XQ}{a:Nat}{vs:List V}{vals:List Value}{kvs:List (Str×V)}{kws:List (Str×Value)}{Q:VQ}(e:Am σ0 σ)
  (Mf:Fm g K false (d+1) f A) (HF:BI g K d fn) (S:St g f C σ s) (rvs:BU σ vs vals) (rk:IF σ kvs kws) (h:FU K fn X a vs kvs C Q):
  wpAny g.M A (call (.ref a) vals kws) (AN g f Q σ0) (Ab g f X σ0) s:=by
 obtain⟨fi,hm,hi,hf,h⟩:=FU.ok h
 cases S with|mk os F N c=>
 refine call_cls F Mf.X N hm hi hf fun x dx h' F' N' hdx hx=> ?_
 have ex:Am σ ⟨σ.W,σ.ρ++[(x,dx)]⟩:=Am.snoc
 have lt:∀p∈os++(f.b.z++σ.W),p.1≠dx:=fun p hp=>Nat.ne_of_lt (hdx p hp)
 have S':St g f (C++[.inst a []]) ⟨σ.W,σ.ρ++[(x,dx)]⟩ {s with heap:=h'}:=St.grow (.inst .nil) c F' N' (nodup_cons (nodup_cons c.nd lt) fun q hq=>by
  rcases List.mem_cons.mp hq with rfl|hq
  ·exact Nat.ne_of_lt hx
  ·exact Nat.ne_of_lt (Nat.lt_trans (hdx q hq) hx))
 have rx:VR ⟨σ.W,σ.ρ++[(x,dx)]⟩ (.obj C.length) (.ref x):=VR.last (c:= .dead) (p:=(x,dx)) c
 refine codeAny_mono (HF _ _ Mf.making _ _ _ S' fi (.obj C.length::vs) (.ref x::vals) _ _ (.cons rx (rvs.ext ex)) ⟨rk.1,rk.2.ext ex⟩ _ _ h) fun r s' q=> ?_
 cases r with
 |ok fl=>
  cases fl with
  |ret v=>
   obtain⟨σ1,V1,C1,e1,S1,r1,h1⟩:=(show AN g f _ _ v s' from q)
   cases V1 with
   |none=>exact r1.gNone (G:=fun v=>v= .none∧AN g f Q σ0 (.ref x) s') ⟨rfl,σ1,_,C1,e.trans (ex.trans e1),S1,rx.ext e1,h1⟩
   |_=>exact fE h1
  |_=>exact fE q
 |error ev=>exact Ab.ext (e.trans ex) q
theorem SI{d:Nat}{fn:AG}{X:XQ}{F:V}{fv:Value}{vs:List V}{vals:List Value}{kvs:List (Str×V)}{kws:List (Str×Value)}{Q:VQ}(e:Am σ0 σ)
  (Mf:Fm g K false (d+1) f A) (HF:BI g K d fn) (S:St g f C σ s) (rf:VR σ F fv) (rvs:BU σ vs vals) (rk:IF σ kvs kws) (h:DS K fn X F vs kvs C Q):
  wpAny g.M A (call fv vals kws) (AN g f Q σ0) (Ab g f X σ0) s:=by
 rcases Au.ok h with⟨a,ha,h⟩|h
 ·refine(Io.ok ha▸rf:VR σ (.glob a) fv).gGlob ?_
  cases hc:(clsIn K a).isSome with
  |true=>rw[hc] at h;exact Xk e Mf HF S rvs rk h
  |false=>
   rw[hc] at h
   obtain⟨hf,h⟩:=AD.ok h
   exact Lu e (HF _ _ Mf.down _ _ _ S _ _ _ _ _ rvs rk _ _ h)
 ·exact u7 e Mf.X (Mf.hh rfl) S rf rvs rk h
theorem JZ{o:Expr}{name:Str}{apos pos:Pos}{args:List Expr}{kws:List Keyword}{Q:Value→Shared→Prop}(hno:B6 o=true)(hp:args.all Az=true)(hk:kws.all (·.arg.isSome)=true)(hl:(apos.endLine==pos.line)=true)(hn:args.length+kws.length<20)
  (h:wpAny M A (eval o env) (fun ov s₁=>∀pl,wpAny M A (getMethod ov name pl) (fun fx s₂=>wpAny M A (callWith pos fx.1 fx.2 (backTo pos (starEach args env)) (backToKw pos (keywordEach kws env))) Q E s₂) E s₁) E s):
  wpAny M A (eval (.Call (.Attribute o name apos) args kws pos) env) Q E s:=by
 have few:methodCallForm (args.length+kws.length) (backTo pos (starEach args env)) (backToKw pos (keywordEach kws env))=true:=by
  unfold methodCallForm
  rw[(GI hk).1,(Ch hp).2]
  simp only[Bool.true_and,decide_eq_true_eq]
  split<;>omega
 show wpAny M A (do
  let ov←attributeBase o name env (eval o env)
  standAt apos.atName
  methodCall o name apos pos env ov (args.length+kws.length) (backTo pos (starEach args env)) (backToKw pos (keywordEach kws env))) Q E s
 rw[Fl hno]
 refine wpAny_bind (wpAny_mono h (fun ov s₁ h₁=>wpAny_bind (wpAny_standAt ?_)) fun _ _ x=>x)
 unfold methodCall
 rw[few]
 refine wpAny_bind (wpAny_holding ?_)
 unfold calleeOf methodCallPos
 rw[if_pos rfl,hl]
 exact wpAny_mono (h₁ _) (fun fx s₂ h₂=>wpAny_bind (wpAny_pure h₂)) fun _ _ x=>x
theorem Dk.named{l:AU}{es:List DictEntry}(r:Dk g σ l es):∃l',Bm es l'∧IF σ l l':=by
 induction r with
 |nil=>exact⟨[],.nil,rfl,.nil⟩
 |cons r b ih=>
  rename_i x v l t y es
  obtain⟨l',h1,h2,h3⟩:=ih
  exact⟨(x,y)::l',.cons h1,congrArg (List.cons x) h2,.cons r h3⟩
theorem Hi{pos:Pos}{fv:Value}{first:List Value}{Q:Value→Shared→Prop}{P:Heap→Prop}{args:List (Bool×Sem Value)}{keywords:List (Option Str×Sem Value)}(hst:(args.any (·.1)||keywords.any (·.1.isNone))=true)
  (hk:∀h,P h→Sq M h fv)
  (h:wpAny M A (evalArgs fv true args keywords) (fun a s₁=>P s₁.heap∧wpAny M A (call fv (first++a.pos) a.kw) Q E s₁) E s):wpAny M A (callWith pos fv first args keywords) Q E s:=by
 unfold callWith
 refine wpAny_bind (wpAny_holding (wpAny_mono h (fun a s₁ h₁=>wpAny_bind (wpAny_standAt ?_)) fun _ _ x=>x))
 obtain⟨k,hk',L⟩:=hk _ h₁.1
 simp only[hst]
 refine wpAny_bind (L.here ?_)
 have tail:∀{t:Sem Value},wpAny M A t Q E s₁→wpAny M A (t>>=fun r=>holding [r] point>>=fun _=>pure r) Q E s₁:=
  fun ht=>wpAny_bind (wpAny_mono ht (fun r s₂ hr=>wpAny_bind (wpAny_holding (wpAny_point (wpAny_pure hr)))) fun _ _ x=>x)
 have marked (mk:Value):wpAny M A (callMarked mk fv (first++a.pos) a.kw) Q E s₁:=by unfold callMarked;exact Calls.wpAny_keep h₁.2
 rcases hk' with rfl|rfl|rfl<;>dsimp only<;>first|exact tail (marked _)|exact tail (wpAny_operate' h₁.2)
theorem JY{o ke:Expr}{name:Str}{apos pos kp:Pos}{args:List Expr}{Q:Value→Shared→Prop}(hno:B6 o=true)
  (h:wpAny M A (eval o env) (fun ov s₁=>wpAny M A (getAttr ov name true) (fun f s₂=>wpAny M A (callWith pos f [] (backTo pos (starEach args env)) [(none,do let v←eval ke env;standAt pos;pure v)]) Q E s₂) E s₁) E s):
  wpAny M A (eval (.Call (.Attribute o name apos) args [⟨none,ke,kp⟩] pos) env) Q E s:=by
 have few:methodCallForm (args.length+1) (backTo pos (starEach args env)) (backToKw pos (keywordEach [⟨none,ke,kp⟩] env))=false:=by
  unfold methodCallForm
  show((_&&false)&&_)=false
  rw[Bool.and_false,Bool.false_and]
 show wpAny M A (do
  let ov←attributeBase o name env (eval o env)
  standAt apos.atName
  methodCall o name apos pos env ov (args.length+1) (backTo pos (starEach args env)) (backToKw pos (keywordEach [⟨none,ke,kp⟩] env))) Q E s
 rw[Fl hno]
 refine wpAny_bind (wpAny_mono h (fun ov s₁ h₁=>wpAny_bind (wpAny_standAt ?_)) fun _ _ x=>x)
 unfold methodCall
 rw[few]
 refine wpAny_bind (wpAny_holding ?_)
 unfold calleeOf methodCallPos
 rw[if_neg Bool.false_ne_true]
 exact wpAny_bind (wpAny_mono h₁ (fun f s₂ h₂=>wpAny_pure h₂) fun _ _ x=>x)
end
end
section
structure SE(g:Gx)(f:Fx)(A:Around)(N:Nm)(env:Env)(Γ:EC)(n:Nat):Prop where
 e:∀{e:Expr} {m:AU} {C:List AB} {Q:VQ} {σ:Lg} {s:Shared},BV Γ n e m C Q→St g f C σ s→A2 N σ m→wpAny g.M A (eval e env) (AN g f Q σ) (Ab g f Γ.X σ) s
 o:∀{e:Option Expr} {m:AU} {C:List AB} {Q:VQ} {σ:Lg} {s:Shared},XF Γ n e m C Q→St g f C σ s→A2 N σ m→wpAny g.M A (evalPart e env) (AN g f Q σ) (Ab g f Γ.X σ) s
 es:∀{es:List Expr} {m:AU} {C:List AB} {Q:List V→List AB→Prop} {σ:Lg} {s:Shared} {pos:Pos},Dn Γ n es m C Q→St g f C σ s→A2 N σ m→wpAny g.M A (spliced (backTo pos (starEach es env))) (Di g f Q σ) (Ab g f Γ.X σ) s
 ks:∀{ks:List Keyword} {m:AU} {C:List AB} {Q:List (Str×V)→List AB→Prop} {σ:Lg} {s:Shared} {pos:Pos},GS Γ n ks m C Q→St g f C σ s→A2 N σ m→wpAny g.M A (evalAll ((backToKw pos (keywordEach ks env)).map (·.2))) (Ix g f Q ((backToKw pos (keywordEach ks env)).filterMap (·.1)) σ) (Ab g f Γ.X σ) s
 t:∀{e:Expr} {m:AU} {C:List AB} {Q:Bool→List AB→Prop} {σ:Lg} {s:Shared},I4 Γ n e m C Q→St g f C σ s→A2 N σ m→wpAny g.M A (isTrue e env (eval e env)) (DB g f Q σ) (Ab g f Γ.X σ) s
structure HE(g:Gx)(f:Fx)(A:Around)(N:Nm)(env:Env)(Γ:EC)(d:Nat):Prop where
 Mf:Fm g Γ.K Γ.hd (d+1) f A
 O:DQ f N env
 HF:BI g Γ.K d Γ.fn
 HC:ER g Γ.K (d+1) Γ.cp
 sc:Γ.sc=N.sc
section
variable{g:Gx}{f:Fx}{A:Around}{N:Nm}{env:Env}{Γ:EC}{d n:Nat}{m:AU}{C:List AB}{σ σ0:Lg}{s:Shared}
theorem HE.M(c:HE g f A N env Γ d)(h:Γ.hd=false):Fm g Γ.K false (d+1) f A:=h▸c.Mf
theorem HE.u(c:HE g f A N env Γ d):A.units+64<cLine:=by
 show A.units+64<9900
 exact AK [_,_] [] [.nl (.a AA (.m 16 (.a v1 AO))) (.k 9000)] (.nt (.a AA (.k 64)) (.k 9900)) [1,1] rfl c.Mf.units
inductive IE(Γ:EC)(m:AU)(C:List AB)(Q:VQ)(x:Str):Prop
 |glo:∀v V,Γ.sc.names.lookup x=some .globalImplicit→nsIn Γ.K mainGlobals x=some (some v)→JA v=some V→Q V C→IE Γ m C Q x
 |blt:∀v V,Γ.sc.names.lookup x=some .globalImplicit→nsIn Γ.K mainGlobals x=some none→(!(x==("__name__":Str)))=true→bootBuiltins x=some v→JA v=some V→Q V C→IE Γ m C Q x
 |loc:∀v,Γ.sc.names.lookup x=some .local→AP m x=some v→Q v C→IE Γ m C Q x
 |cel:∀v,Γ.sc.names.lookup x=some .cell→AP m x=some v→Q v C→IE Γ m C Q x
 |fre:∀v,Γ.sc.names.lookup x=some .free→(!(x==("__classdict__":Str)))=true→AP m x=some v→Q v C→IE Γ m C Q x
theorem Mi{x:Str}{p:Pos}{Q:VQ}(h:BV Γ (n+1) (.Name x p) m C Q):BP x=true∧IE Γ m C Q x:=by
 obtain⟨hd,h⟩:=AD.ok h
 refine⟨hd,?_⟩
 cases hx:Γ.sc.names.lookup x with
 |none=>rw[hx] at h;exact h.elim
 |some k=>
  rw[hx] at h
  cases k with
  |globalImplicit=>
   dsimp only at h
   cases hv:nsIn Γ.K mainGlobals x with
   |none=>rw[hv] at h;exact h.elim
   |some o=>
    rw[hv] at h
    cases o with
    |some v=>obtain⟨V,hV,h⟩:=AF.ok h;exact .glo v V hx hv hV h
    |none=>
     obtain⟨hn,h⟩:=AD.ok h
     obtain⟨V,hV,h⟩:=AF.ok h
     obtain⟨v,hb,hV⟩:=Option.bind_eq_some_iff.mp hV
     exact .blt v V hx hv hn hb hV h
  |«local»=>obtain⟨v,hv,h⟩:=AF.ok h;exact .loc v hx hv h
  |cell=>obtain⟨v,hv,h⟩:=AF.ok h;exact .cel v hx hv h
  |free=>obtain⟨hc,h⟩:=AD.ok h;obtain⟨v,hv,h⟩:=AF.ok h;exact .fre v hx hc hv h
  |_=>exact h.elim
theorem Fe{x y:Str}(h:(!(x==y))=true):x≠y:=fun e=>by rw[e,beq_self_eq_true] at h;exact BQ h
theorem W6(c:HE g f A N env Γ d){x:Str}{p:Pos}{Q:VQ}(h:BV Γ (n+1) (.Name x p) m C Q)(S:St g f C σ s)(hl:A2 N σ m):wpAny g.M A (eval (.Name x p) env) (AN g f Q σ) (Ab g f Γ.X σ) s:=by
 refine BL fun R hR=> ?_
 obtain⟨hd,h⟩:=Mi h
 have hd:=BP.ok hd
 have kO:∀{k},Γ.sc.names.lookup x=some k→env.kindOf x=some k:=fun e=>(c.O.kindOf x).trans (c.sc▸e)
 rcases h with⟨v,V,hx,hv,hV,h⟩|⟨v,V,hx,hv,hn,hb,hV,h⟩|⟨v,hx,hv,h⟩|⟨v,hx,hv,h⟩|⟨v,hx,hc,hv,h⟩
 ·exact Vh S.F c.Mf.X c.Mf.T hv (hR _ _ (.here S (GU hV) h)) c.O.glo c.O.k (kO hx) hd
 ·exact IV S.F c.Mf.X c.Mf.T hv hb (Fe hn) (hR _ _ (.here S (GU hV) h)) c.O.glo c.O.blt c.O.k (kO hx) hd
 ·obtain⟨y,hy,r⟩:=(hl.loc _ _ hv).1 (c.sc▸hx)
  exact OH c.O.k (kO hx) (c.O.nsx S) hy (hR _ _ (.here S r h)) hd
 ·obtain⟨a,o,y,h1,h2,h3,r⟩:=(hl.loc _ _ hv).2 (.inl (c.sc▸hx))
  exact wpAny_Name (wpAny_loadName_cell c.O.k (kO hx) (by rw[c.O.cells];exact h1) ⟨o,(S.zmem (c.O.zc _ h2)).1,h3⟩ (hR _ _ (.here S r h))) hd
 ·obtain⟨a,o,y,h1,h2,h3,r⟩:=(hl.loc _ _ hv).2 (.inr (c.sc▸hx))
  exact wpAny_Name (wpAny_loadName_free c.O.k (kO hx) (by rw[c.O.cells];exact h1) ⟨o,(S.zmem (c.O.zc _ h2)).1,h3⟩ (hR _ _ (.here S r h)) (Bn hc)) hd
theorem Rz{v:PySem.Const}{k:Nat}{p:Pos}{Q:VQ}(h:BV Γ (n+1) (.Constant v k p) m C Q)(S:St g f C σ s):wpAny g.M A (eval (.Constant v k p) env) (AN g f Q σ) (Ab g f Γ.X σ) s:=by
 cases v with
 |none=>exact wpAny_Constant_none (.here S .none h)
 |bool _=>exact wpAny_Constant_bool (.here S (.bool _) h)
 |int _=>exact wpAny_Constant_int (.here (S.toks _) (.int _ _) h)
 |str _=>exact wpAny_Constant_str (.here (S.toks _) (.str _ _) h)
 |bytes _=>exact Constant_bytes (.here (S.toks _) (.bytes _ _) h)
 |_=>exact fE h
theorem R3(H:SE g f A N env Γ n){op:Operator}{l r:Expr}{p:Pos}{Q:VQ}(h:BV Γ n l m C fun a C=>BV Γ n r m C fun b C=>NR op a b fun v=>Q v C)(S:St g f C σ s)(hl:A2 N σ m):wpAny g.M A (eval (.BinOp l op r p) env) (AN g f Q σ) (Ab g f Γ.X σ) s:=
 wpAny_BinOp (HY .refl (H.e h S hl) fun σ1 V1 C1 x s1 e1 _ S1 r1 h1=>HY e1 (H.e h1 S1 (hl.ext e1)) fun σ2 V2 C2 y s2 e2 d2 S2 r2 h2=>sOp e2 S2 (r1.ext d2) r2 h2)
inductive uY(Γ:EC)(n:Nat)(l:Expr)(ops:List CmpOp)(rs:List Expr)(m:AU)(C:List AB)(k:CmpOp→V→V→List AB→Prop):Prop
 |mk:∀op r,ops=[op]→rs=[r]→behindInMarks op r=false→(BV Γ n l m C fun a C=>BV Γ n r m C fun b C=>k op a b C)→uY Γ n l ops rs m C k
theorem Jy{l:Expr}{ops:List CmpOp}{rs:List Expr}{k:CmpOp→V→V→List AB→Prop}:(h:match ops with
   |[]=>False
   |op::ops=>(match ops with
    |_::_=>False
    |[]=>(match rs with
     |[]=>False
     |r::rs=>(match rs with
      |_::_=>False
      |[]=>AD (!behindInMarks op r)<|BV Γ n l m C fun a C=>BV Γ n r m C fun b C=>k op a b C))))→uY Γ n l ops rs m C k:=by
 cases ops with
 |nil=>exact fE
 |cons op ops=>cases ops with
  |cons _ _=>exact fE
  |nil=>cases rs with
   |nil=>exact fE
   |cons r rs=>cases rs with
    |cons _ _=>exact fE
    |nil=>exact fun h=>⟨op,r,rfl,rfl,Bn (AD.ok h).1,(AD.ok h).2⟩
theorem uV(c:HE g f A N env Γ d)(H:SE g f A N env Γ n){l:Expr}{ops:List CmpOp}{rs:List Expr}{p:Pos}{Q:VQ}(h:BV Γ (n+1) (.Compare l ops rs p) m C Q)(S:St g f C σ s)(hl:A2 N σ m):wpAny g.M A (eval (.Compare l ops rs p) env) (AN g f Q σ) (Ab g f Γ.X σ) s:=by
 obtain⟨op,r,rfl,rfl,hm,h'⟩:=Jy h
 exact wpAny_Compare1 (HY .refl (H.e h' S hl) fun σ1 V1 C1 x s1 e1 _ S1 r1 h1=>HY e1 (H.e h1 S1 (hl.ext e1)) fun σ2 V2 C2 y s2 e2 d2 S2 r2 h2=>Xr e2 c.Mf.X c.u S2 (r1.ext d2) r2 h2) hm
theorem tB(c:HE g f A N env Γ d)(H:SE g f A N env Γ n){l:Expr}{ops:List CmpOp}{rs:List Expr}{p:Pos}{Q:Bool→List AB→Prop}(h:I4 Γ (n+1) (.Compare l ops rs p) m C Q)(S:St g f C σ s)(hl:A2 N σ m):wpAny g.M A (isTrue (.Compare l ops rs p) env (eval (.Compare l ops rs p) env)) (DB g f Q σ) (Ab g f Γ.X σ) s:=by
 obtain⟨op,r,rfl,rfl,hm,h'⟩:=Jy (k:=fun op a b C=>Hl Γ.K C op a b fun v=>Bb Γ.K C v fun c=>Q c C) h
 exact wpAny_isTrue_Compare1 (HY .refl (H.e h' S hl) fun σ1 V1 C1 x s1 e1 _ S1 r1 h1=>HY e1 (H.e h1 S1 (hl.ext e1)) fun σ2 V2 C2 y s2 e2 d2 S2 r2 h2=>S8 (Xr (Q:=fun v C=>Bb Γ.K C v fun c=>Q c C) e2 c.Mf.X c.u S2 (r1.ext d2) r2 h2) fun σ3 V3 C3 z s3 e3 S3 r3 h3=>Ga e3 c.Mf.X S3 r3 h3) hm
theorem uW(c:HE g f A N env Γ d)(H:SE g f A N env Γ n){x y:Expr}{r:List Expr}{p:Pos}{Q:VQ}(h:BV Γ n x m C fun v C=>Bb Γ.K C v fun c=>Ad c (BV Γ n (.BoolOp .And (y::r) p) m C Q) (Q v C))(S:St g f C σ s)(hl:A2 N σ m):wpAny g.M A (eval (.BoolOp .And (x::y::r) p) env) (AN g f Q σ) (Ab g f Γ.X σ) s:=
 BoolOp_and (HY .refl (H.e h S hl) fun σ1 V1 C1 v s1 e1 _ S1 r1 h1=>S9 (Ga (σ0:=σ1) (Q:=fun c C=>Ad c (BV Γ n (.BoolOp .And (y::r) p) m C Q) (Q V1 C)) .refl c.Mf.X S1 r1 h1) fun σ2 C2 b s2 e2 S2 h2=>by
  cases b with
  |true=>exact wpAny_mono (H.e h2 S2 (hl.ext (e1.trans e2))) (fun _ _ q=>q.ext (e1.trans e2)) fun _ _ q=>q.ext (e1.trans e2)
  |false=>exact⟨σ2,V1,C2,e1.trans e2,S2,r1.ext e2,h2⟩)
theorem yJ(c:HE g f A N env Γ d)(H:SE g f A N env Γ n){x y:Expr}{r:List Expr}{p:Pos}{Q:VQ}(h:BV Γ n x m C fun v C=>Bb Γ.K C v fun c=>Ad c (Q v C) (BV Γ n (.BoolOp .Or (y::r) p) m C Q))(S:St g f C σ s)(hl:A2 N σ m):wpAny g.M A (eval (.BoolOp .Or (x::y::r) p) env) (AN g f Q σ) (Ab g f Γ.X σ) s:=
 BoolOp_or (HY .refl (H.e h S hl) fun σ1 V1 C1 v s1 e1 _ S1 r1 h1=>S9 (Ga (σ0:=σ1) (Q:=fun c C=>Ad c (Q V1 C) (BV Γ n (.BoolOp .Or (y::r) p) m C Q)) .refl c.Mf.X S1 r1 h1) fun σ2 C2 b s2 e2 S2 h2=>by
  cases b with
  |false=>exact wpAny_mono (H.e h2 S2 (hl.ext (e1.trans e2))) (fun _ _ q=>q.ext (e1.trans e2)) fun _ _ q=>q.ext (e1.trans e2)
  |true=>exact⟨σ2,V1,C2,e1.trans e2,S2,r1.ext e2,h2⟩)
theorem W9(c:HE g f A N env Γ d)(H:SE g f A N env Γ n){op:PySem.BoolOp}{vs:List Expr}{p:Pos}{Q:VQ}(h:BV Γ (n+1) (.BoolOp op vs p) m C Q)(S:St g f C σ s)(hl:A2 N σ m):wpAny g.M A (eval (.BoolOp op vs p) env) (AN g f Q σ) (Ab g f Γ.X σ) s:=by
 cases vs with
 |nil=>exact fE h
 |cons x r=>cases r with
  |nil=>exact BoolOp_one (H.e h S hl)
  |cons y r=>cases op with
   |And=>exact uW c H h S hl
   |Or=>exact yJ c H h S hl
end
end
section
section
variable{g:Gx}{f:Fx}{A:Around}{N:Nm}{env:Env}{Γ:EC}{d n:Nat}{m:AU}{C:List AB}{σ σ0:Lg}{s:Shared}
theorem W7(H:SE g f A N env Γ n){es:List Expr}{p:Pos}{Q:VQ}(h:BV Γ (n+1) (.List es p) m C Q)(S:St g f C σ s)(hl:A2 N σ m):wpAny g.M A (eval (.List es p) env) (AN g f Q σ) (Ab g f Γ.X σ) s:=by
 have h:Dn Γ n es m C fun vs C=>vs.length≤1000∧(match Γ.dm p.line p.col with
   |0=>Q (Ld vs) C
   |1=>Q (.obj C.length) (C++[.list vs])
   |_=>Q (.lst vs) C):=h
 refine List_ (Pt .refl (H.es h S hl) fun σ1 V1 C1 x s1 e1 _ S1 r1 h1=> ?_)
 cases hd:Γ.dm p.line p.col with
 |zero=>rw[hd] at h1;exact Xl S1 r1 h1.1 e1 h1.2
 |succ k=>cases k with
  |zero=>rw[hd] at h1;exact Xm S1 r1 h1.1 e1 h1.2
  |succ k=>rw[hd] at h1;exact Xn S1 r1 h1.1 e1 h1.2
theorem yK(H:SE g f A N env Γ n){t b o:Expr}{p:Pos}{Q:VQ}(h:I4 Γ n t m C fun c C=>Ad c (BV Γ n b m C Q) (BV Γ n o m C Q))(S:St g f C σ s)(hl:A2 N σ m):wpAny g.M A (eval (.IfExp t b o p) env) (AN g f Q σ) (Ab g f Γ.X σ) s:=
 wpAny_IfExp (uu .refl (H.t h S hl) fun σ1 C1 c s1 e1 _ S1 h1=>by
  cases c with
  |true=>exact wpAny_mono (H.e h1 S1 (hl.ext e1)) (fun _ _ q=>q.ext e1) fun _ _ q=>q.ext e1
  |false=>exact wpAny_mono (H.e h1 S1 (hl.ext e1)) (fun _ _ q=>q.ext e1) fun _ _ q=>q.ext e1)
theorem uT(c:HE g f A N env Γ d)(H:SE g f A N env Γ n){x:Expr}{p:Pos}{Q:VQ}(h:BV Γ n x m C fun v C=>Bb Γ.K C v fun c=>Q (.bool (!c)) C)(S:St g f C σ s)(hl:A2 N σ m):wpAny g.M A (eval (.UnaryOp .Not x p) env) (AN g f Q σ) (Ab g f Γ.X σ) s:=
 UnaryOp_ (HY .refl (H.e h S hl) fun σ1 V1 C1 x s1 e1 _ S1 r1 h1=>not_of (S9 (Ga (Q:=fun c C=>Q (.bool (!c)) C) e1 c.Mf.X S1 r1 h1) fun σ2 C2 c s2 e2 S2 h2=>⟨σ2,.bool _,C2,e2,S2,.bool _,h2⟩))
theorem uU(H:SE g f A N env Γ n){x:Expr}{p:Pos}{Q:VQ}(h:BV Γ n x m C fun v C=>AF (AX v) fun i=>Q (.int (-i)) C)(S:St g f C σ s)(hl:A2 N σ m):wpAny g.M A (eval (.UnaryOp .USub x p) env) (AN g f Q σ) (Ab g f Γ.X σ) s:=
 UnaryOp_ (HY .refl (H.e h S hl) fun σ1 V1 C1 x s1 e1 _ S1 r1 h1=>by
  obtain⟨i,hi,h1⟩:=AF.ok h1
  exact r1.gI (G:=fun x=>wpAny g.M A (unaryOp .USub x) (AN g f Q σ) (Ab g f Γ.X σ) s1) hi fun t=>neg_int (pI S1 e1 h1))
inductive z7(C:List AB)(Q:VQ):List V→List (Str×V)→Prop
 |mk:∀(b:List UInt8),b.length≤1000→Q (.int (At b)) C→z7 C Q [.bytes b,.str "big"] [("signed",.bool false)]
theorem Q6{K:Frag}{fn:AG}{X:XQ}{vs:List V}{kvs:List (Str×V)}{Q:VQ}:(h:GT K fn X .fb vs kvs C Q)→z7 C Q vs kvs:=by
 cases vs with
 |nil=>exact fE
 |cons a vs=>cases vs with
  |nil=>exact fE
  |cons b vs=>cases vs with
   |cons _ _=>exact fE
   |nil=>cases kvs with
    |nil=>exact fE
    |cons p kvs=>cases kvs with
     |cons _ _=>exact fE
     |nil=>
      intro h
      obtain⟨xb,xo,hb,ho,h⟩:=v2.ok h
      obtain⟨sg,hs,h⟩:=AF.ok h
      obtain⟨hk,h5⟩:=AD.ok h
      have hk:=AZ hk
      have hk2:=AZ hk.2
      obtain⟨pk,pv⟩:=p
      rw[BF.ok hb,Bl.ok ho,show pv=_ from Fn.ok hs,bE hk.1,Bn hk2.2,show pk="signed" from bE hk2.1]
      exact⟨xb,h5.1,h5.2⟩
theorem sFb{K:Frag}{fn:AG}{X:XQ}{E:Value→Shared→Prop}{x:Addr}{vs:List V}{vals:List Value}{kvs:List (Str×V)}{kws:List (Str×Value)}{Q:VQ}(e:Am σ0 σ)(ho:s.heap.get? x=some KFB.bound)(S:St g f C σ s)(r:BU σ vs vals)(rk:IF σ kvs kws)(h:GT K fn X .fb vs kvs C Q):
  wpAny g.M A (call (.ref x) vals kws) (AN g f Q σ0) E s:=by
 have D:=Q6 h
 clear h
 induction D with
 |mk b h1 h2=>exact r.g1 fun u vs ra r=>r.g1 fun v vs rb r=>r.g0 (rk.g1 fun x l rc r=>r.g0 (ra.gBytes fun t=>rb.gStr fun t'=>rc.gBool (He ho h1 (pI S e h2))))
theorem Sf(c:HE g f A N env Γ d)(H:SE g f A N env Γ n)(e0:Am σ0 σ){F:Value}{first:List Value}{mv:MV}{as:List Expr}{ks:List Keyword}{pos:Pos}{Q:VQ}(hhd:Γ.hd=false)(hf:Qi Γ.K mv=true)(ha:as.all Az=true)(hks:ks.all (·.arg.isSome)=true)
  (h:Dn Γ n as m C (fun vs C=>GS Γ n ks m C fun kvs C=>GT Γ.K Γ.fn Γ.X mv vs kvs C Q)) (S:St g f C σ s) (hl:A2 N σ m) (rf:tW Γ.K σ mv F first):
  wpAny g.M A (callWith pos F first (backTo pos (starEach as env)) (backToKw pos (keywordEach ks env))) (AN g f Q σ0) (Ab g f Γ.X σ0) s:=by
 have Mf:=c.M hhd
 refine callWith_of (P:=fun h=>Γ.K.In h∧∀p∈σ.W,h.get? p.1=some p.2) (by rw[(Ch ha).1,(GI hks).2];rfl) (fun hp hP=> ?_) ?_
 ·induction rf with
  |val rg _=>exact Lk rg _ hp hP.1 hf
  |bm hm _ hfn=>exact keeps_M hfn hp ⟨hP.2 _ hm,hP.1⟩
  |fb hm=>exact⟨.machine,.inr (.inl rfl),OT (hP.2 _ hm)⟩
 have My:∀(vs:List Value) (s1:Shared),Di g f (fun vs C=>GS Γ n ks m C fun kvs C=>GT Γ.K Γ.fn Γ.X mv vs kvs C Q) σ vs s1→
   wpAny g.M A (evalAll ((backToKw pos (keywordEach ks env)).map (·.2))) (fun kvs s2=>(Γ.K.In s2.heap∧∀p∈σ.W,s2.heap.get? p.1=some p.2)∧wpAny g.M A (call F (first++vs) (((backToKw pos (keywordEach ks env)).filterMap (·.1)).zip kvs)) (AN g f Q σ0) (Ab g f Γ.X σ0) s2) (Ab g f Γ.X σ0) s1:=fun vs s1 q=>by
  obtain⟨σ1,Vs,C1,e1,S1,r1,h1⟩:=q
  refine XN (e0.trans e1) (H.ks h1 S1 (hl.ext e1)) fun σ2 Kw C2 kvs s2 e02 e2 S2 r2 _ h2=>⟨⟨c.Mf.X.keeps S2.F.keep,fun p hp=>(S2.wmem (e2.w p (e1.w p hp))).1⟩,?_⟩
  have e12:=e1.trans e2
  induction rf with
  |val rg rfi=>exact SI e02 Mf c.HF S2 (rg.ext e12) ((rfi.ext e12).append (r1.ext e2)) r2 h2
  |bm hm rs hfn=>exact Lu e02 (method_call (S2.wmem (e12.w _ hm)).1 (c.HF _ _ Mf.down _ _ _ S2 _ _ _ _ _ (.cons (rs.ext e12) (r1.ext e2)) r2 _ _ h2))
  |fb hm=>exact sFb e02 (S2.wmem (e12.w _ hm)).1 S2 (r1.ext e2) r2 h2
 cases as with
 |nil=>exact evalArgs_kw2_nil (GI hks).1 (My [] s (by cases n with|zero=>exact h.elim|succ n=>exact⟨σ,[],C,Am.refl,S,.nil,h⟩))
 |cons e r=>
  exact evalArgs_kw2 (GI hks).1 (wpAny_mono (H.es h S hl) (fun vs s1 q=>My vs s1 q) fun _ _ e=>e.ext e0) (DK (AZ ha).1)
theorem R1(c:HE g f A N env Γ d)(H:SE g f A N env Γ n){x:Str}{xp p:Pos}{as:List Expr}{ks:List Keyword}{Q:VQ}(h:BV Γ n (.Name x xp) m C fun f C=>AD (!Γ.hd&&Em Γ.K f&&(as.all Az&&ks.all (·.arg.isSome)))<|Dn Γ n as m C fun vs C=>GS Γ n ks m C fun kvs C=>DS Γ.K Γ.fn Γ.X f vs kvs C Q)(S:St g f C σ s)(hl:A2 N σ m):
  wpAny g.M A (eval (.Call (.Name x xp) as ks p) env) (AN g f Q σ) (Ab g f Γ.X σ) s:=
 wpAny_Call_Name_kw (HY .refl (H.e h S hl) fun σ1 F C1 v s1 e1 _ S1 r1 h1=>by
  obtain⟨hk,h1⟩:=AD.ok h1
  have hk:=AZ hk
  have hk1:=AZ hk.1
  have hk2:=AZ hk.2
  exact Sf (mv:= .val F []) c H e1 (Bn hk1.1) hk1.2 hk2.1 hk2.2 h1 S1 (hl.ext e1) (.val r1 .nil))
theorem R2(c:HE g f A N env Γ d)(H:SE g f A N env Γ n){o:Expr}{x:Str}{ap p:Pos}{as:List Expr}{ks:List Keyword}{Q:VQ}(h:AD (!Γ.hd&&B6 o&&(as.all Az&&(ks.all (·.arg.isSome)&&(ap.endLine==p.line&&as.length+ks.length<20))))<|BV Γ n o m C fun ov C=>Ds Γ.K ov x C fun f=>AD (Qi Γ.K f)<|Dn Γ n as m C fun vs C=>GS Γ n ks m C fun kvs C=>GT Γ.K Γ.fn Γ.X f vs kvs C Q)(S:St g f C σ s)(hl:A2 N σ m):
  wpAny g.M A (eval (.Call (.Attribute o x ap) as ks p) env) (AN g f Q σ) (Ab g f Γ.X σ) s:=by
 obtain⟨hk,h⟩:=AD.ok h
 have hk:=AZ hk
 have hk1:=AZ hk.1
 have hk2:=AZ hk.2
 have hk3:=AZ hk2.2
 have hk4:=AZ hk3.2
 refine JZ hk1.2 hk2.1 hk3.1 hk4.1 (of_decide_eq_true hk4.2) (HY .refl (H.e h S hl) fun σ1 F C1 v s1 e1 _ S1 r1 h1 pl=> ?_)
 refine wpAny_mono (Xq c.Mf.X S1 r1 h1) (fun fx s2 q=> ?_) fun _ _ e=>e
 obtain⟨σ2,mv,e2,S2,rm,h2⟩:=q
 obtain⟨hmv,h2⟩:=AD.ok h2
 exact Sf c H (e1.trans e2) (Bn hk1.1) hmv hk2.1 hk3.1 h2 S2 (hl.ext (e1.trans e2)) rm
theorem QZ{h:Heap}{a:Addr}{μ:Str→Option Value}{o:Obj}(x:h.Ns a μ):(h.push o).Ns a μ:=let⟨o,es,ep,h1,h2⟩:=x;⟨o,es,ep,Heap.get?_push_of_some _ h1,h2⟩
theorem R0(c:HE g f A N env Γ d)(H:SE g f A N env Γ n){o:Expr}{x kx:Str}{ap p kxp kp:Pos}{as:List Expr}{Q:VQ}(h:AD (!Γ.hd&&(B6 o&&(as.all Az&&(BP kx&&Γ.sc.names.lookup kx==some .local))))<|BV Γ n o m C fun ov C=>CY Γ.K ov x C fun f=>AD (Em Γ.K f)<|Dn Γ n as m C fun vs C=>AF (AP m kx) fun kv=>AF (Cs kv) fun i=>(match C[i]? with
     |some (.dict l)=>AD (decide ((l.map (·.1)).Nodup)&&((Γ.K.lookup sysModules).isSome&&decide (l.length≤900))) (DS Γ.K Γ.fn Γ.X f vs l C Q)
     |_=>False)) (S:St g f C σ s) (hl:A2 N σ m):
  wpAny g.M A (eval (.Call (.Attribute o x ap) as [⟨none,.Name kx kxp,kp⟩] p) env) (AN g f Q σ) (Ab g f Γ.X σ) s:=by
 obtain⟨hk,h⟩:=AD.ok h
 have hk:=AZ hk
 have hk2:=AZ hk.2
 have hk3:=AZ hk2.2
 have hk4:=AZ hk3.2
 refine JY hk2.1 (HY .refl (H.e h S hl) fun σ1 O1 C1 v s1 e1 _ S1 r1 h1=> ?_)
 refine S8 (Nh (Q:=fun f C=>AD (Em Γ.K f)<|Dn Γ n as m C fun vs C=>AF (AP m kx) fun kv=>AF (Cs kv) fun i=>(match C[i]? with
     |some (.dict l)=>AD (decide ((l.map (·.1)).Nodup)&&((Γ.K.lookup sysModules).isSome&&decide (l.length≤900))) (DS Γ.K Γ.fn Γ.X f vs l C Q)
     |_=>False)) e1 c.Mf.X S1 r1 h1) fun σ2 F2 C2 F s2 e2 S2 r2 h2=> ?_
 obtain⟨hkp,h3⟩:=AD.ok h2
 refine Hi (P:=fun h=>Γ.K.In h) (by simp) (fun hp hP=>Lk r2 _ hp hP hkp) (Js (Ch hk3.1).1 ?_)
 refine Pt e2 (H.es h3 S2 (hl.ext e2)) fun σ3 Vs C3 vs s3 e3 d3 S3 r3 h4=> ?_
 obtain⟨kv,hm,h4⟩:=AF.ok h4
 obtain⟨i,hi,h4⟩:=AF.ok h4
 obtain⟨l,hC,h4⟩:=HI h4
 obtain⟨hd,h5⟩:=AD.ok h4
 have hd:=AZ hd
 have hd2:=AZ hd.2
 obtain⟨y,hy,ry⟩:=(hl.loc _ _ hm).1 (c.sc▸bE hk4.2)
 obtain⟨a,es,nn,rfl,ha,hat,hna⟩:=S3.dictC (Cs.ok hi▸ry.ext e3:VR σ3 (.obj i) y) hC
 obtain⟨l',hn',hkw⟩:=hat.named
 have hns:=c.O.nsx S3
 cases S3 with|mk os F3 N3 k3=>
 have Z:=St.zpush k3 (F3.push (dictOf [] 0)) (N3.push F3 (dictOf [] 0)) fun p hp=>Nat.ne_of_lt (Heap.lt_size (N3 p hp).1)
 have hkn:env.kindOf kx=some .local:=(c.O.kindOf kx).trans (c.sc▸bE hk4.2)
 refine wpAny_bind (OH c.O.k hkn (QZ hns) hy (wpAny_bind (wpAny_standAt (wpAny_pure ⟨a,es,nn,l',rfl,Heap.get?_push_of_some _ ha,Nat.ne_of_lt (Heap.lt_size ha),Heap.get?_push_size _ rfl,Go c.Mf.X hd2.1 hna,hn',by rw[←hkw.1];exact of_decide_eq_true hd.1,by rw[hat.len];exact Nat.le_trans (of_decide_eq_true hd2.2) (by decide),fun h' hd' hs'=> ?_⟩))) (BP.ok hk4.1))
 have Z2:=(Z.zset (k:=s3.toks) hs' hd').zdrop
 exact⟨c.Mf.X.keeps Z2.F.keep,SI e3 (c.M (Bn hk.1)) c.HF Z2 (r2.ext d3) r3 hkw h5⟩
theorem W8(c:HE g f A N env Γ d)(H:SE g f A N env Γ n){F:Expr}{as:List Expr}{ks:List Keyword}{p:Pos}{Q:VQ}(h:BV Γ (n+1) (.Call F as ks p) m C Q)(S:St g f C σ s)(hl:A2 N σ m):wpAny g.M A (eval (.Call F as ks p) env) (AN g f Q σ) (Ab g f Γ.X σ) s:=by
 revert h
 cases F with
 |Attribute o x ap=>
  intro h
  cases hks:Ei ks with
  |some kx=>
   obtain⟨kxp,kp,rfl⟩:=Ei.ok hks
   exact R0 c H h S hl
  |none=>
   have h:(match(Ei ks).isSome with
    |true=>_
    |false=>AD (!Γ.hd&&B6 o&&(as.all Az&&(ks.all (·.arg.isSome)&&(ap.endLine==p.line&&as.length+ks.length<20))))<|BV Γ n o m C fun ov C=>Ds Γ.K ov x C fun f=>AD (Qi Γ.K f)<|Dn Γ n as m C fun vs C=>GS Γ n ks m C fun kvs C=>GT Γ.K Γ.fn Γ.X f vs kvs C Q):=h
   rw[hks] at h
   exact R2 c H h S hl
 |Name x xp=>exact fun h=>R1 c H h S hl
 |_=>exact fE
theorem XA(c:HE g f A N env Γ d)(H:SE g f A N env Γ n){o:Expr}{x:Str}{p:Pos}{Q:VQ}(h:AD (!Γ.hd&&B6 o)<|BV Γ n o m C fun v C=>Au (Cs v) (fun i=>(match C[i]? with
    |some (.inst c _)=>(match Ie Γ.K c x with
     |true=>Dr Γ.K Γ.fn Γ.X i c x C Q
     |false=>CY Γ.K v x C fun u=>Q u C)
    |_=>False)) (CY Γ.K v x C fun u=>Q u C)) (S:St g f C σ s) (hl:A2 N σ m):wpAny g.M A (eval (.Attribute o x p) env) (AN g f Q σ) (Ab g f Γ.X σ) s:=by
 obtain⟨hk,h⟩:=AD.ok h
 have hk:=AZ hk
 refine Attribute_any_ (HY .refl (H.e h S hl) fun σ1 V1 C1 v s1 e1 _ S1 r1 h1=> ?_) (Rg hk.2)
 rcases Au.ok h1 with⟨i,hi,h1⟩|h1
 ·obtain⟨cl,at_,hC,h1⟩:=G4 (Q:=fun cl _=>match Ie Γ.K cl x with
     |true=>Dr Γ.K Γ.fn Γ.X i cl x C1 Q
     |false=>CY Γ.K V1 x C1 fun u=>Q u C1) h1
  cases hp:Ie Γ.K cl x with
  |true=>rw[hp] at h1;exact Xj e1 (c.M (Bn hk.1)) c.HF S1 (Cs.ok hi▸r1) hC h1
  |false=>rw[hp] at h1;exact Nh e1 c.Mf.X S1 r1 h1
 ·exact Nh e1 c.Mf.X S1 r1 h1
theorem uS(c:HE g f A N env Γ d)(H:SE g f A N env Γ n){o i:Expr}{p:Pos}{Q:VQ}(h:BV Γ n o m C fun ov C=>(match Kb i with
     |true=>XF Γ n (P9 i) m C fun l C=>XF Γ n (QA i) m C fun h C=>AF (Ft l) fun l=>AF (Ft h) fun h=>NU ov l h fun v=>Q v C
     |false=>AD (!(i.ctorIdx==26))<|BV Γ n i m C fun iv C=>NT Γ.K C ov iv fun v=>Q v C)) (S:St g f C σ s) (hl:A2 N σ m):wpAny g.M A (eval (.Subscript o i p) env) (AN g f Q σ) (Ab g f Γ.X σ) s:=by
 refine Subscript_ (HY .refl (H.e h S hl) fun σ1 V1 C1 v s1 e1 _ S1 r1 h1=> ?_)
 cases hsl:Kb i with
 |true=>
  rw[hsl] at h1
  obtain⟨q,hq⟩:=Kb.ok hsl
  rw[hq]
  exact wpAny_Slice (HY e1 (H.o h1 S1 (hl.ext e1)) fun σ2 V2 C2 y s2 e2 d2 S2 r2 h2=>HY e2 (H.o h2 S2 (hl.ext e2)) fun σ3 V3 C3 z s3 e3 d3 S3 r3 h3=>by
   obtain⟨lo,hlo,h3⟩:=AF.ok h3
   obtain⟨hi,hhi,h3⟩:=AF.ok h3
   exact wpAny_pure (u6 e3 S3 (r1.ext (d2.trans d3)) (Ft.ok (r2.ext d3) hlo) (Ft.ok r3 hhi) h3))
 |false=>
  rw[hsl] at h1
  obtain⟨hi,h1⟩:=AD.ok h1
  exact HY e1 (H.e h1 S1 (hl.ext e1)) fun σ2 V2 C2 y s2 e2 d2 S2 r2 h2=>u4 e2 c.Mf.X S2 (r1.ext d2) r2 (fun q=>by rw[q] at hi;exact BQ hi) h2
theorem yF(H:SE g f A N env Γ n){e:Option Expr}{Q:VQ}(h:XF Γ (n+1) e m C Q)(S:St g f C σ s)(hl:A2 N σ m):wpAny g.M A (evalPart e env) (AN g f Q σ) (Ab g f Γ.X σ) s:=by
 cases e with
 |some e=>exact H.e h S hl
 |none=>exact wpAny_pure ⟨σ,.none,C,Am.refl,S,.none,h⟩
theorem uR(H:SE g f A N env Γ n){es:List Expr}{Q:List V→List AB→Prop}{pos:Pos}(h:Dn Γ (n+1) es m C Q)(S:St g f C σ s)(hl:A2 N σ m):wpAny g.M A (spliced (backTo pos (starEach es env))) (Di g f Q σ) (Ab g f Γ.X σ) s:=by
 cases es with
 |nil=>exact spliced_none ⟨σ,[],C,Am.refl,S,.nil,h⟩
 |cons e r=>
  obtain⟨hp,h⟩:=AD.ok h
  exact spliced_more (HY .refl (H.e h S hl) fun σ1 V1 C1 v s1 e1 _ S1 r1 h1=>Pt e1 (H.es h1 S1 (hl.ext e1)) fun σ2 V2 C2 y s2 e2 d2 S2 r2 h2=>⟨σ2,_,C2,e2,S2,.cons (r1.ext d2) r2,h2⟩) (DK hp)
theorem tY(H:SE g f A N env Γ n){ks:List Keyword}{Q:List (Str×V)→List AB→Prop}{pos:Pos}(h:GS Γ (n+1) ks m C Q)(S:St g f C σ s)(hl:A2 N σ m):wpAny g.M A (evalAll ((backToKw pos (keywordEach ks env)).map (·.2))) (Ix g f Q ((backToKw pos (keywordEach ks env)).filterMap (·.1)) σ) (Ab g f Γ.X σ) s:=by
 cases ks with
 |nil=>exact kwAll_nil ⟨σ,[],C,Am.refl,S,⟨rfl,.nil⟩,rfl,h⟩
 |cons k xr=>
  obtain⟨xa,xe,xp⟩:=k
  cases xa with
  |none=>exact fE h
  |some xn=>
   have h:BV Γ n xe m C fun v C=>GS Γ n xr m C fun vs C=>Q ((xn,v)::vs) C:=h
   exact kwAll_cons (HY .refl (H.e h S hl) fun σ1 V1 C1 v s1 e1 _ S1 r1 h1=>XN e1 (H.ks h1 S1 (hl.ext e1)) fun σ2 V2 C2 y s2 e2 d2 S2 r2 hz h2=>⟨σ2,(xn,V1)::V2,C2,e2,S2,⟨congrArg (List.cons xn) r2.1,BU.cons (r1.ext d2) r2.2⟩,congrArg (·+1) hz,h2⟩)
theorem EK(c:HE g f A N env Γ d)(H:SE g f A N env Γ n){e:Expr}{Q:Bool→List AB→Prop}(h:BV Γ n e m C (fun v C=>Bb Γ.K C v fun c=>Q c C))(he:isTrue e env (eval e env)=(do let v←eval e env;standAt e.pos;holding [v] (truthy v)))(S:St g f C σ s)(hl:A2 N σ m):wpAny g.M A (isTrue e env (eval e env)) (DB g f Q σ) (Ab g f Γ.X σ) s:=
 isTrue_plain (HY .refl (H.e h S hl) fun σ1 V1 C1 v s1 e1 _ S1 r1 h1=>Ga e1 c.Mf.X S1 r1 h1) he
theorem tC(H:SE g f A N env Γ n){x:Expr}{r:List Expr}{p:Pos}{Q:Bool→List AB→Prop}(h:I4 Γ n x m C fun c C=>Ad c (I4 Γ n (.BoolOp .And r p) m C Q) (Q false C))(S:St g f C σ s)(hl:A2 N σ m):wpAny g.M A (isTrue (.BoolOp .And (x::r) p) env (eval (.BoolOp .And (x::r) p) env)) (DB g f Q σ) (Ab g f Γ.X σ) s:=
 isTrue_and (uu .refl (H.t h S hl) fun σ1 C1 b s1 e1 _ S1 h1=>by
  cases b with
  |true=>exact wpAny_mono (H.t h1 S1 (hl.ext e1)) (fun _ _ q=>q.ext e1) fun _ _ q=>q.ext e1
  |false=>exact⟨σ1,C1,e1,S1,h1⟩)
theorem yC(H:SE g f A N env Γ n){x:Expr}{r:List Expr}{p:Pos}{Q:Bool→List AB→Prop}(h:I4 Γ n x m C fun c C=>Ad c (Q true C) (I4 Γ n (.BoolOp .Or r p) m C Q))(S:St g f C σ s)(hl:A2 N σ m):wpAny g.M A (isTrue (.BoolOp .Or (x::r) p) env (eval (.BoolOp .Or (x::r) p) env)) (DB g f Q σ) (Ab g f Γ.X σ) s:=
 isTrue_or (uu .refl (H.t h S hl) fun σ1 C1 b s1 e1 _ S1 h1=>by
  cases b with
  |false=>exact wpAny_mono (H.t h1 S1 (hl.ext e1)) (fun _ _ q=>q.ext e1) fun _ _ q=>q.ext e1
  |true=>exact⟨σ1,C1,e1,S1,h1⟩)
theorem Wa(H:SE g f A N env Γ n){op:PySem.BoolOp}{vs:List Expr}{p:Pos}{Q:Bool→List AB→Prop}(h:I4 Γ (n+1) (.BoolOp op vs p) m C Q)(S:St g f C σ s)(hl:A2 N σ m):wpAny g.M A (isTrue (.BoolOp op vs p) env (eval (.BoolOp op vs p) env)) (DB g f Q σ) (Ab g f Γ.X σ) s:=by
 cases op with
 |And=>cases vs with
  |nil=>exact isTrue_and_nil ⟨σ,C,Am.refl,S,h⟩
  |cons x r=>exact tC H h S hl
 |Or=>cases vs with
  |nil=>exact isTrue_or_nil ⟨σ,C,Am.refl,S,h⟩
  |cons x r=>exact yC H h S hl
theorem yB(c:HE g f A N env Γ d)(H:SE g f A N env Γ n){e:Expr}{Q:Bool→List AB→Prop}(S:St g f C σ s)(hl:A2 N σ m):(h:I4 Γ (n+1) e m C Q)→wpAny g.M A (isTrue e env (eval e env)) (DB g f Q σ) (Ab g f Γ.X σ) s:=by
 cases e with
 |Compare l ops rs _=>exact fun h=>tB c H h S hl
 |UnaryOp op x _=>
  cases op with
  |Not=>exact fun h=>isTrue_not (wpAny_mono (H.t (Q:=fun c C=>Q (!c) C) h S hl) (fun _ _ q=>let⟨a,b,c,d,e⟩:=q;⟨a,b,c,d,e⟩) fun _ _ e=>e)
  |_=>exact fE
 |BoolOp op vs r0=>exact fun h=>Wa H h S hl
 |Name _ _=>exact fun h=>EK c H h rfl S hl
 |Constant _ _ _=>exact fun h=>EK c H h rfl S hl
 |BinOp _ _ _ _=>exact fun h=>EK c H h rfl S hl
 |Call _ _ _ _=>exact fun h=>EK c H h rfl S hl
 |Attribute _ _ _=>exact fun h=>EK c H h rfl S hl
 |Subscript _ _ _=>exact fun h=>EK c H h rfl S hl
 |_=>exact fE
theorem yI(c:HE g f A N env Γ d)(H:SE g f A N env Γ n){e:Expr}{Q:VQ}(S:St g f C σ s)(hl:A2 N σ m):(h:BV Γ (n+1) e m C Q)→wpAny g.M A (eval e env) (AN g f Q σ) (Ab g f Γ.X σ) s:=by
 cases e with
 |Constant _ _ _=>exact fun h=>Rz h S
 |Name _ _=>exact fun h=>W6 c h S hl
 |BinOp _ _ _ _=>exact fun h=>R3 H h S hl
 |Compare _ _ _ _=>exact fun h=>uV c H h S hl
 |BoolOp _ _ _=>exact fun h=>W9 c H h S hl
 |Tuple _ _ _=>exact fun h=>Tuple_ (Pt .refl (H.es (Q:=fun vs C=>vs.length≤1000∧Q (Qk vs) C) h S hl) fun σ1 V1 C1 x s1 e1 _ S1 r1 h1=>Xh S1 r1 h1.1 e1 h1.2)
 |List _ _=>exact fun h=>W7 H h S hl
 |IfExp _ _ _ _=>exact fun h=>yK H h S hl
 |UnaryOp op _ _=>
  cases op with
  |Not=>exact fun h=>uT c H h S hl
  |USub=>exact fun h=>uU H h S hl
  |_=>exact fE
 |Call _ _ _ _=>exact fun h=>W8 c H h S hl
 |Attribute _ _ _=>exact fun h=>XA c H h S hl
 |Subscript _ _ _=>exact fun h=>uS c H h S hl
 |ListComp el gs sc p=>exact fun h=>c.HC _ _ _ _ _ (c.sc▸(AD.ok h).2) _ _ (c.M (Bn (AD.ok h).1)) _ c.O _ _ S hl _
 |_=>exact fE
theorem KI(c:HE g f A N env Γ d)(n:Nat):SE g f A N env Γ n:=by
 induction n with
 |zero=>exact⟨fun h=>fE h,fun h=>fE h,fun h=>fE h,fun h=>fE h,fun h=>fE h⟩
 |succ n ih=>exact⟨fun h S hl=>yI c ih S hl h,fun h S hl=>yF ih h S hl,fun h S hl=>uR ih h S hl,fun h S hl=>tY ih h S hl,fun h S hl=>yB c ih S hl h⟩
end
end
section
noncomputable def IN(c:Addr)(o:Obj)(l:BK):BK:=l.map fun p=>if p.1=c then(c,o) else p
section
variable{c:Addr}{o o':Obj}{l:BK}{p:Addr×Obj}
theorem FZ(h:∀p∈l,p.1≠c):IN c o l=l:=by
 induction l with
 |nil=>rfl
 |cons p l ih=>
  show(if p.1=c then(c,o) else p)::IN c o l=_
  rw[if_neg (h p (.head _)),ih fun q hq=>h q (.tail _ hq)]
theorem Nt:(IN c o l).map (·.1)=l.map (·.1):=by
 induction l with
 |nil=>rfl
 |cons p l ih=>
  show(if p.1=c then(c,o) else p).1::(IN c o l).map (·.1)=_
  rw[ih]
  by_cases q:p.1=c
  ·rw[if_pos q,List.map_cons,q]
  ·rw[if_neg q];rfl
theorem D8(l l':BK):IN c o (l++l')=IN c o l++IN c o l':=List.map_append
theorem LN(h:(c,o')∈l):(c,o)∈IN c o l:=mM ⟨_,h,if_pos rfl⟩
theorem Gb(h:p∈l)(q:p.1≠c):p∈IN c o l:=mM ⟨_,h,if_neg q⟩
end
section
variable{g:Gx}{f:Fx}{x:Sx}{sc:Scope}{τ:Tx}{σ σ0:Lg}{s:Shared}{C:List AB}{A:Around}{m:AU}{Q:A5}{E:Value→Shared→Prop}{N:Nm}
theorem A2.setL{y:Str}{V:V}{v:Value}(hx:N.sc.names.lookup y=some .local)(h:A2 N σ m)(r:VR σ V v):A2 ⟨N.sc,N.cl,N.zc,fun z=>if z=y then some v else N.μ z⟩ σ (Ae m y V):=by
 refine⟨fun z u e=> ?_,h.cel,h.inj⟩
 rw[En] at e
 by_cases q:z=y
 ·rw[if_pos q] at e
  obtain rfl:=oJ e
  refine⟨fun _=>⟨v,if_pos q,r⟩,fun k=> ?_⟩
  rw[q] at k
  rcases k with k|k
  ·exact nomatch oJ (hx.symm.trans k)
  ·exact nomatch oJ (hx.symm.trans k)
 ·rw[if_neg q] at e
  exact⟨fun k=>let⟨u,a,b⟩:=(h.loc _ _ e).1 k;⟨u,(if_neg q).trans a,b⟩,(h.loc _ _ e).2⟩
theorem A2.setC{y:Str}{V:V}{v:Value}{c:Addr}{o:Obj}(hx:N.sc.names.lookup y=some .cell)(hc:N.cl.lookup y=some c)(hd:o.data= .cell (some v))(h:A2 N σ m)(r:VR σ V v):A2 ⟨N.sc,N.cl,IN c o N.zc,N.μ⟩ σ (Ae m y V):=by
 obtain⟨c',o₀,v₀,hc',hm,hd₀⟩:=h.cel y hx
 obtain rfl:=oJ (hc.symm.trans hc')
 refine⟨fun z u e=> ?_,fun z hz=> ?_,h.inj⟩
 ·rw[En] at e
  by_cases q:z=y
  ·rw[if_pos q] at e
   obtain rfl:=oJ e
   rw[q]
   exact⟨fun k=>(nomatch oJ (hx.symm.trans k)),fun _=>⟨c,o,v,hc,LN hm,hd,r⟩⟩
  ·rw[if_neg q] at e
   refine⟨(h.loc _ _ e).1,fun k=> ?_⟩
   obtain⟨a',o',y',h1,h2,h3,h4⟩:=(h.loc _ _ e).2 k
   exact⟨a',o',y',h1,Gb h2 (fun z=>q (h.inj _ _ a' h1 (by rw[show a'=c from z];exact hc))),h3,h4⟩
 ·obtain⟨a',o',v',h1,h2,h3⟩:=h.cel z hz
  by_cases q:a'=c
  ·exact⟨c,o,some v,q▸h1,LN hm,hd⟩
  ·exact⟨a',o',v',h1,Gb h2 q,h3⟩
theorem St.zrep{z:BK}{c:Addr}{o o':Obj}{h':Heap}{k:Nat}(S:St g (f.wz z) C σ s)(hm:(c,o)∈z)(hs:Heap.SameBut c s.heap h')(ho':h'.get? c=some o'):St g (f.wz (IN c o' z)) C σ {s with heap:=h',toks:=k}:=by
 have hmem:=S.zmem hm
 cases S with|mk os F N' k'=>
 have nd':=k'.nd
 rw[List.map_append,List.nodup_append,List.map_append,List.nodup_append] at nd'
 have hcz:c∈z.map (·.1):=mM ⟨_,hm,rfl⟩
 have e1:IN c o' (os++(z++σ.W))=os++(IN c o' z++σ.W):=by
  rw[D8,D8,FZ fun p hp q=>nd'.2.2 p.1 (mM ⟨p,hp,rfl⟩) c (List.mem_append_left _ hcz) q,FZ (l:=σ.W) fun p hp q=>nd'.2.1.2.2 c hcz p.1 (mM ⟨p,hp,rfl⟩) q.symm]
 have N2:News f.h₀ f.L h' (IN c o' (os++(z++σ.W))):=N'.replace hs ho'
 have k2:((IN c o' (os++(z++σ.W))).map (·.1)).Nodup:=by rw[Nt];exact k'.nd
 rw[e1] at N2 k2
 exact⟨os,⟨F.ns.sameBut hs (Ne.symm hmem.2.1),fun bb ob e=>(hs.2 bb (fun q=>AM (hmem.2.2.symm.trans (q▸e)))).trans (F.keep bb ob e),F.above⟩,N2,k'.c,k2,k'.g,k'.d,k'.o⟩
theorem St.zdup{z:BK}(S:St g (f.wz z) C σ s):(z.map (·.1)).Nodup:=by
 cases S with|mk os F N k=>
 have nd:=k.nd
 rw[List.map_append,List.nodup_append,List.map_append,List.nodup_append] at nd
 exact nd.2.1.1
noncomputable def Cm(sc:Scope)(y:Str):Bool:=sc.names.lookup y==some NameKind.local||sc.names.lookup y==some NameKind.cell
theorem FX{y:Str}{V:V}{v:Value}(hk:sc.kind= .function)(hx:(sc.names.lookup y==some NameKind.local||sc.names.lookup y==some NameKind.cell)=true)(S:SS g x sc C τ s)(hl:SL x sc τ m)(r:VR τ.σ V v)(e:Am σ0 τ.σ)(q:Q.next (Ae m y V) C):
  wpAny g.M A (storeName (x.env sc) y v) (fun _=>As g x sc Q σ0 .next) E s:=by
 rcases Bool.or_eq_true_iff.mp hx with hx|hx
 ·have hx':=bE hx
  cases S with|mk os F N k=>
  exact storeX_L F N (fun h' F' N'=>⟨⟨τ.zc,fun z=>if z=y then some v else τ.μ z,τ.σ⟩,C,e,⟨os,F',N',k.c,k.nd,k.g,k.d,k.o⟩,_,A2.setL (N:=x.n sc τ) hx' hl r,q⟩) hk hx'
 ·have hx':=bE hx
  obtain⟨c,o₀,v₀,hcl,hm,hd₀⟩:=hl.cel y hx'
  have S:St g ((x.f sc τ).wz (τ.zc++x.b.z)) C τ.σ s:=S
  have hm':(c,o₀)∈τ.zc++x.b.z:=List.mem_append_left _ hm
  refine wpAny_storeName_cell hk hx' hcl ⟨o₀,(S.zmem hm').1,hd₀⟩ fun h' hv hs=> ?_
  obtain⟨o',ho',hd'⟩:=hv
  have S2:=S.zrep (k:=s.toks) hm' hs ho'
  have nd:=S.zdup
  rw[List.map_append,List.nodup_append] at nd
  rw[D8,FZ (l:=x.b.z) fun p hp z=>nd.2.2 c (mM ⟨_,hm,rfl⟩) p.1 (mM ⟨p,hp,rfl⟩) z.symm] at S2
  exact⟨⟨IN c o' τ.zc,τ.μ,τ.σ⟩,C,e,S2,_,A2.setC (N:=x.n sc τ) hx' hcl hd' hl r,q⟩
theorem BU.rev{l:List V}:∀{vs:List Value} (h:BU σ l vs),BU σ l.reverse vs.reverse:=by
 induction l with
 |nil=>exact fun h=>h.g0 .nil
 |cons v l ih=>exact fun h=>h.g1 fun y vs a b=>by rw[List.reverse_cons,List.reverse_cons];exact(ih b).append (.cons a .nil)
noncomputable abbrev xc(m':AU)(C:List AB):A5:=⟨fun m C'=>m=m'∧C'=C,fun _ _=>False,fun _ _=>False,fun _ _=>False,fun _ _ _=>False⟩
theorem IL{y:Str}{V:V}{v:Value}{G:Unit→Shared→Prop}(hk:sc.kind= .function)(hx:(sc.names.lookup y==some NameKind.local||sc.names.lookup y==some NameKind.cell)=true)(S:SS g x sc C τ s)(hl:SL x sc τ m)(r:VR τ.σ V v)(e:Am σ0 τ.σ)
  (k:∀τ1 s1,Am σ0 τ1.σ→Am τ.σ τ1.σ→SS g x sc C τ1 s1→SL x sc τ1 (Ae m y V)→G () s1):wpAny g.M A (storeName (x.env sc) y v) G E s:=
 wpAny_mono (FX (Q:=xc (Ae m y V) C) hk hx S hl r .refl ⟨rfl,rfl⟩) (fun _ s1 q=>by
  obtain⟨τ1,C1,e1,S1,m1,hl1,rfl,rfl⟩:=q
  exact k τ1 s1 (e.trans e1) e1 S1 hl1) fun _ _ e=>e
theorem QE(hk:sc.kind= .function)(names:List Str):∀(l:List V) (vs:List Value) (m:AU) (τ:Tx) (s:Shared),(∀y∈names,(sc.names.lookup y==some NameKind.local||sc.names.lookup y==some NameKind.cell)=true)→names.length=vs.length→
  SS g x sc C τ s→SL x sc τ m→BU τ.σ l vs→Q.next (EE m names l) C→Am σ0 τ.σ→
  wpAny g.M A (assignInOrder (names.map fun n=>bindName (x.env sc) n) vs) (fun _=>As g x sc Q σ0 .next) E s:=by
 induction names with
 |nil=>
  intro l vs m τ s hall hlen S hl rs q e
  cases vs with
  |nil=>cases rs;exact assignInOrder_nil ⟨τ,C,e,S,m,hl,q⟩
  |cons v vs=>exact nomatch hlen
 |cons y ys ih=>
  intro l vs m τ s hall hlen S hl rs q e
  cases rs with
  |nil=>exact nomatch hlen
  |cons r rs=>
   rename_i v y l vs
   exact assignInOrder_cons (bindName_ (IL hk (hall _ (.head _)) S hl r e fun τ1 s1 e1 d1 S1 hl1=>ih l vs _ τ1 s1 (fun y hy=>hall _ (.tail _ hy)) (Nat.succ.inj hlen) S1 hl1 (rs.ext d1) q e1))
end
section
variable{e t:Expr}{l:Nat}{env:Env}
theorem Me:(h:Fc e=true)→swapsWith e (some t) l env=pure false:=by
 cases e<;>first|exact fun _=>rfl|exact BQ
theorem JU:(h:Fc e=true)→swapsWith e none l env=pure false:=by
 cases e<;>first|exact fun _=>rfl|exact BQ
theorem MK{o:Expr}{y:Str}{p:Pos}:swapsWith e (some (.Attribute o y p)) l env=pure false:=by cases e<;>rfl
theorem JC{ts:List Expr}{k:Nat}{p:Pos}:swapsWithSole [.Tuple ts k p] e l env=pure false:=by unfold swapsWithSole;cases e<;>rfl
theorem MW{r:List Expr}:(h:Az t=true)→assignEach (t::r) env=(false,assign t env)::assignEach r env:=by cases t<;>first|exact fun _=>rfl|exact BQ
theorem CG{ts:List Expr}(h:ts.all Az=true):assignEach ts env=ts.map fun t=>(false,assign t env):=by
 induction ts with
 |nil=>rfl
 |cons t r ih=>
  have h:=AZ h
  exact(MW h.1).trans (congrArg (List.cons _) (ih h.2))
theorem HB{ts:List Expr}:(ts.map fun t=>(false,assign t env)).findIdx? (·.1)=none:=by
 induction ts with
 |nil=>rfl
 |cons t r ih=>rw[List.map_cons,List.findIdx?_cons,ih];rfl
theorem Of{α:Type}{c:Prop}[Decidable c]{a b:Option α}{u v:Sem α}(h1:∀r,a=some r→u=pure r)(h2:∀r,b=some r→v=pure r):∀r,(if c then a else b)=some r→(if c then u else v)=pure r:=by
 intro r h
 by_cases q:c
 ·rw[if_pos q] at h;rw[if_pos q];exact h1 r h
 ·rw[if_neg q] at h;rw[if_neg q];exact h2 r h
theorem Hv{α:Type}{a:α}:∀r,some a=some r→(pure a:Sem α)=pure r:=fun r h=>oJ h▸rfl
theorem NY{ts:List Expr}{k:Nat}{p:Pos}{r:Option (List Str)}(h:Cf env.scope ts e=some r)(hb:env.blockKind=env.scope.kind):swappedStores [.Tuple ts k p] e env=pure r:=by
 revert h
 unfold Cf swappedStores
 cases e with
 |Tuple vs _ _=>
  dsimp only
  rw[hb]
  exact Of Hv (Of Hv (Of Hv (Of Hv (Of (fun _ h=>AM h) Hv)))) r
 |_=>exact Hv r
end
end
section
inductive z4(sc:Scope)(K:Frag)(cls:String)(hs:List ExceptHandler)(bs:List Stmt):Prop
 |mk:∀x np b bs' pos rest,hs= .ExceptHandler (some (.Name x np)) none (b::bs') pos::rest→bs=b::bs'→sc.names.lookup x=some NameKind.globalImplicit→BP x=true→
  x≠"__name__"→nsIn K mainGlobals x=some none→bootBuiltins x=some (.type "ValueError")→cls="ValueError"→z4 sc K cls hs bs
theorem MI.ok{sc:Scope}{K:Frag}{cls:String}{hs:List ExceptHandler}{bs:List Stmt}:(h:MI sc K cls hs=some bs)→z4 sc K cls hs bs:=by
 cases hs with
 |nil=>exact AM
 |cons h0 rest=>
  obtain⟨t,nm,b,pos⟩:=h0
  unfold MI
  dsimp only
  cases ht:t.bind Cb with
  |none=>exact AM
  |some x=>
   dsimp only
   cases q:nm.isNone&&(!b.isEmpty&&r4 sc K cls x.1) with
   |false=>exact AM
   |true=>
    intro h
    obtain rfl:=oJ h
    have q1:=AZ q
    have q2:=AZ q1.2
    have q3:=AZ q2.2
    have q4:=AZ q3.2
    have q5:=AZ q4.2
    have q6:=AZ q5.2
    have q7:=AZ q6.2
    cases b with
    |nil=>exact BQ q2.1
    |cons b bs'=>
     obtain⟨t',rfl,ht'⟩:=Option.bind_eq_some_iff.mp ht
     exact⟨x.1,x.2,b,bs',pos,rest,by rw[Cb.ok ht',Option.isNone_iff_eq_none.mp q1.1],rfl,bE q3.1,q4.1,Fe q5.1,bE q6.1,bE q7.1,bE q7.2⟩
section
variable{g:Gx}{K:Frag}{x:Sx}{sc:Scope}{τ:Tx}{s':Shared}{h:Heap}{e:Addr}
theorem O3{A₀:Around}{t:Addr}{vs:List Value}{news:BK}{b₀:Stmt}{suite:List Stmt}{pos np:Pos}{rest:List ExceptHandler}{Q:Flow→Shared→Prop}{E:Value→Shared→Prop}{y:Str}{X T':String}(B:Below A₀ x.h₀ x.outer x.h₀)(F:Fr x.h₀ x.L h τ.μ)(hsm:h.UpToSlots s'.heap)(R:RaisedK x.h₀ (x.env sc::x.outer) e (.type X) t vs news s'.heap)
  (KX:K.In x.h₀) (T:TopRead g.p g.loose g.mg g.mb x.h₀) (hn0:nsIn K mainGlobals y=some none) (hv:bootBuiltins y=some (.type T'))
  (hexc:isSubtype (.type T') (.type "BaseException")=pure true) (hnt:isSubtype (.type ((Manifest.find? T').elim "type" fun y=>y.metatype)) (.type "tuple")=pure false) (hsub:isSubtype (.type X) (.type T')=pure true)
  (k:∀h',Fr x.h₀ x.L h' τ.μ→News x.h₀ x.L h' news→
   wpAny g.M ((A₀.deeper (x.env sc)).mark (some (.ref e))) (execs (b₀::suite) (x.env sc)) Q (fun _ _=>False) {s' with heap:=h'})
  (hn:y≠"__name__") (hk:sc.kind= .function) (hx:sc.names.lookup y=some .globalImplicit) (hd:(y==("__debug__":Str))=false):
  wpAny g.M (A₀.deeper (x.env sc)) (noteFrame (.ref e) (x.env sc))
   (fun _ s₂=>wpAny g.M (A₀.deeper (x.env sc)) (setFlight (.ref e) none) (fun _ s₃=>
    wpAny g.M (A₀.deeper (x.env sc)) (handleBy (.ref e) (x.env sc) (.ExceptHandler (some (.Name y np)) none (b₀::suite) pos::rest)) Q E s₃) E s₂) E s':=by
 obtain⟨⟨B',hB,hl,hfl,hnew⟩,htup⟩:=R
 have hL:B'.get? x.L=none:=by
  obtain⟨_,⟨L',_,hf,hn',_⟩,_⟩:=hfl.2.2.1
  obtain rfl:x.L=L':=oJ hf
  exact hn'
 refine wpAny_looks_onW (Around.frames_deeper B.stack) rfl hfl fun h₄ hheld₄ hsm₄=> ?_
 refine wpAny_landsW hheld₄ fun h₅ hheld hsm₅'=> ?_
 have hsm₅:=hsm₄.trans hsm₅'
 have hheld':=flyingW_base hB hheld
 have F₅:=F.of_stays hheld'.1 (hsm.trans hsm₅)
 obtain⟨ob,hob,hobc⟩:=hheld'.there
 refine wpAny_handleBy_builtin (X:=X) (T:=T') (b:=true) hexc hnt hsub (IV (f:=x.f sc τ) (g:=g) (env:=x.env sc) F₅ KX T hn0 hv hn ⟨rfl,⟨ob,hob,hobc⟩,?_⟩ rfl rfl hk hx hd)
 refine lands_againW hheld fun h₆ hfl₆ hsm₆=> ?_
 have hfl₆':=flyingW_base hB hfl₆
 have F₆:=F.of_stays hfl₆'.1 ((hsm.trans hsm₅).trans hsm₆)
 exact wpAny_mono (k h₆ F₆ fun q hq=>⟨hfl₆.1 _ _ (hl q hq).1,(fun z=>AM (hL.symm.trans (z▸(hl q hq).1))),(hl q hq).2⟩) (fun _ _ q=>q) fun _ _ f=>f.elim
end
structure HS(g:Gx)(x:Sx)(Γ:EC)(d:Nat):Prop where
 hk:Γ.sc.kind= .function
 Mf:∀τ,Fm g Γ.K Γ.hd (d+1) (x.f Γ.sc τ) x.A
 hB:Γ.hd=false→∃A₁,x.A=A₁.deeper (x.env Γ.sc)∧Below A₁ x.base x.outer x.h₀
 HF:BI g Γ.K d Γ.fn
 HC:ER g Γ.K (d+1) Γ.cp
 HA:LE g Γ.K (d+1) Γ.cp
 HL:Ew g Γ.K (d+1) Γ.sc Γ.tr Γ.lp
 HLT:Ew g Γ.K (d+1) Γ.sc true Γ.lpT
 HT:Γ.top=true→x.base=x.h₀
structure SF(g:Gx)(x:Sx)(Γ:EC)(n:Nat):Prop where
 s:∀{st:Stmt} {m:AU} {C:List AB} {Q:A5} {τ:Tx} {s:Shared},KB Γ n st m C Q→SS g x Γ.sc C τ s→SL x Γ.sc τ m→wpAny g.M x.A (exec st (x.env Γ.sc)) (As g x Γ.sc Q τ.σ) (Aq g x Γ.sc Γ.tr Q.exc τ.σ) s
 ts:∀{ts:List Expr} {l:List V} {m:AU} {C:List AB} {Q:A5} {τ:Tx} {s:Shared} {vs:List Value},FT Γ n ts l m C Q→SS g x Γ.sc C τ s→SL x Γ.sc τ m→BU τ.σ l vs→wpAny g.M x.A (assignInOrder (ts.map fun t=>assign t (x.env Γ.sc)) vs) (fun _=>As g x Γ.sc Q τ.σ .next) (Aq g x Γ.sc Γ.tr Q.exc τ.σ) s
 ss:∀{st:List Stmt} {m:AU} {C:List AB} {Q:A5} {τ:Tx} {s:Shared},Av Γ n st m C Q→SS g x Γ.sc C τ s→SL x Γ.sc τ m→wpAny g.M x.A (execs st (x.env Γ.sc)) (As g x Γ.sc Q τ.σ) (Aq g x Γ.sc Γ.tr Q.exc τ.σ) s
section
variable{g:Gx}{x:Sx}{Γ:EC}{d n:Nat}{m:AU}{C:List AB}{Q:A5}{τ:Tx}{s:Shared}{σ σ0:Lg}
theorem HS.e(H:HS g x Γ d){X:XQ}(τ:Tx)(n:Nat):SE g (x.f Γ.sc τ) x.A (x.n Γ.sc τ) (x.env Γ.sc) (Γ.sX X) n:=
 KI (Γ:=Γ.sX X) ⟨H.Mf τ,⟨rfl,H.hk,rfl,rfl,rfl,rfl,.inl ⟨rfl,rfl⟩,fun p hp=>List.mem_append_left _ hp⟩,H.HF,H.HC,rfl⟩ n
theorem Pu{sc:Scope}{tr:Bool}{t:Sem Value}{Q:VQ}{X:String→AU→List AB→Prop}{G:Value→Shared→Prop}(e0:Am σ0 σ)(hl:A2 (x.n sc τ) σ m)(h:wpAny g.M x.A t (AN g (x.f sc τ) Q σ) (Ab g (x.f sc τ) (fun c C=>X c m C) σ) s)
  (k:∀σ1 V C v s1,Am σ0 σ1→Am σ σ1→SS g x sc C (τ.wσ σ1) s1→A2 (x.n sc τ) σ1 m→VR σ1 V v→Q V C→G v s1):wpAny g.M x.A t G (Aq g x sc tr X σ0) s:=
 wpAny_mono h (fun v s1 q=>by cases q with|mk σ1 V C e1 S r q=>exact k σ1 V C v s1 (e0.trans e1) e1 S (hl.ext e1) r q) fun _ _ e=>e.up e0 hl
theorem ue{fl:Flow}(e:Am σ0 τ.σ)(S:SS g x Γ.sc C τ s)(q:ut x Γ.sc Q τ C fl):As g x Γ.sc Q σ0 fl s:=⟨τ,C,e,S,q⟩
theorem tK(H:HS g x Γ d){e:Expr}{p:Pos}(h:BV (Γ.sX fun c C=>Q.exc c m C) n e m C Q.ret)(S:SS g x Γ.sc C τ s)(hl:SL x Γ.sc τ m):wpAny g.M x.A (exec (.Return (some e) p) (x.env Γ.sc)) (As g x Γ.sc Q τ.σ) (Aq g x Γ.sc Γ.tr Q.exc τ.σ) s:=
 wpAny_Return_some (Pu .refl hl ((H.e τ n).e h S hl) fun σ1 V1 C1 v s1 e1 _ S1 hl1 r1 h1=>⟨τ.wσ σ1,C1,e1,S1,V1,r1,h1⟩)
theorem Wj(H:HS g x Γ d){y:Str}{e:Expr}{px p:Pos}(h:KB Γ (n+1) (.Assign [.Name y px] e p) m C Q)(S:SS g x Γ.sc C τ s)(hl:SL x Γ.sc τ m):wpAny g.M x.A (exec (.Assign [.Name y px] e p) (x.env Γ.sc)) (As g x Γ.sc Q τ.σ) (Aq g x Γ.sc Γ.tr Q.exc τ.σ) s:=by
 cases hlc:Mt e with
 |true=>
  obtain⟨el,gs,csc,cpos,rfl⟩:=Mt.ok hlc
  obtain⟨hx,h⟩:=AD.ok h
  have hx:=AZ hx
  have Mf:=H.Mf τ
  rw[Bn hx.1] at Mf
  exact H.HA _ _ _ _ _ _ _ _ _ _ _ h hx.2 _ _ Mf H.hk _ S hl _
 |false=>
  have h:(match Mt e with
   |true=>AD (!Γ.hd&&Cz Γ y) (Γ.cp Γ.sc e m C fun v C=>Q.next (Ae m y v) C)
   |false=>AD (Fc e)<|AD (Cz Γ y)<|BV (Γ.sX fun c C=>Q.exc c m C) n e m C fun v C=>Q.next (Ae m y v) C):=h
  rw[hlc] at h
  obtain⟨hs,h⟩:=AD.ok h
  obtain⟨hx,h⟩:=AD.ok h
  exact wpAny_Assign_Name (Pu .refl hl ((H.e τ n).e h S hl) fun σ1 V1 C1 v s1 e1 _ S1 hl1 r1 h1=>FX H.hk hx S1 hl1 r1 e1 h1) (Me hs)
theorem Wl(H:HS g x Γ d){o e:Expr}{y:Str}{px p:Pos}(h:BV (Γ.sX fun c C=>Q.exc c m C) n e m C fun u C=>BV (Γ.sX fun c C=>Q.exc c m C) n o m C fun v C=>Fo Γ.K v y u C fun C=>Q.next m C)(S:SS g x Γ.sc C τ s)(hl:SL x Γ.sc τ m):wpAny g.M x.A (exec (.Assign [.Attribute o y px] e p) (x.env Γ.sc)) (As g x Γ.sc Q τ.σ) (Aq g x Γ.sc Γ.tr Q.exc τ.σ) s:=
 plainObj_wpAny_Assign_Attribute (Pu .refl hl ((H.e τ n).e h S hl) fun σ1 V1 C1 v s1 e1 _ S1 hl1 r1 h1=>Pu e1 hl1 ((H.e τ n).e h1 S1 hl1) fun σ2 V2 C2 v s2 e2 d2 S2 hl2 r2 h2=>
  wpAny_mono (Xi (H.Mf τ).X S2 r2 (r1.ext d2) h2) (fun _ s3 q=>by obtain⟨C3,S3,h3⟩:=q;exact⟨τ.wσ σ2,C3,e2,S3,m,hl2,h3⟩) fun _ _ e=>e) MK
def TD(Γ:EC)(n:Nat)(ts:List Expr)(e:Expr)(l:List V)(m:AU)(C:List AB)(Q:A5):Prop:=match Cf Γ.sc ts e with
 |some r=>(match r with
  |none=>FT Γ n ts l m C Q
  |some names=>AD (names.length==ts.length&&names.all (Cz Γ))<|Q.next (EE m names.reverse l.reverse) C)
 |none=>False
inductive s8(σ:Lg)(z:Nat)(l:List V)(v:Value):Prop
 |mk:∀ad vs n0,v= .ref ad→(ad,Ag "tuple" vs n0)∈σ.W→vs.length=z→BU σ l vs→s8 σ z l v
theorem NX{V1:V}{v:Value}{l:List V}{z:Nat}(r:VR σ V1 v)(hz:(l.length==z)=true):(h:IH V1=some l)→s8 σ z l v:=by
 cases V1 with
 |tup l0=>exact fun h=>oJ h▸r.tupI.g fun a vs n0 hm rs=>⟨a,vs,n0,rfl,hm,by rw[rs.len,oJ h];exact bE hz,rs⟩
 |ti l0=>exact fun h=>r.tiI.g fun a vs n0 hm rs=>⟨a,vs,n0,rfl,hm,by rw[rs.length];have:=bE hz;rw[←oJ h,List.length_map] at this;exact this,oJ h▸BU.ofInts rs⟩
 |_=>exact AM
theorem SS.tup{a:Addr}{vs:List Value}{n:Nat}(S:SS g x Γ.sc C τ s)(h:(a,Ag "tuple" vs n)∈τ.σ.W):IsTup s.heap a vs.toArray:=St.isTup S h
theorem tI(H:HS g x Γ d)(I:SF g x Γ n){ts:List Expr}{k:Nat}{tp p:Pos}{e:Expr}(h:AD (!Γ.hd&&(ts.all Az&&(Cf Γ.sc ts e).isSome))<|BV (Γ.sX fun c C=>Q.exc c m C) n e m C fun v C=>AF (IH v) fun l=>AD (l.length==ts.length) (TD Γ n ts e l m C Q))(S:SS g x Γ.sc C τ s)(hl:SL x Γ.sc τ m):wpAny g.M x.A (exec (.Assign [.Tuple ts k tp] e p) (x.env Γ.sc)) (As g x Γ.sc Q τ.σ) (Aq g x Γ.sc Γ.tr Q.exc τ.σ) s:=by
 obtain⟨hs,h⟩:=AD.ok h
 have hs:=AZ hs
 have hs2:=AZ hs.2
 have hh:=(H.Mf τ).hh (Bn hs.1)
 cases hsw:Cf Γ.sc ts e with
 |none=>rw[hsw] at hs2;exact BQ hs2.2
 |some r=>
  have sw:=NY (ts:=ts) (k:=k) (p:=tp) (e:=e) (env:=x.env Γ.sc) hsw (by have q:(x.env Γ.sc).scope.kind= .function:=H.hk;unfold Env.blockKind;rw[q];rfl)
  cases r with
  |none=>
   refine Assign_Tuple (Pu .refl hl ((H.e τ n).e h S hl) fun σ1 V1 C1 v s1 e1 _ S1 hl1 r1 h1=> ?_) JC sw
   obtain⟨l,hl',h1⟩:=AF.ok h1
   obtain⟨hz,h1⟩:=AD.ok h1
   obtain⟨ad,vs,n0,rfl,hm,hz',rs⟩:=NX r1 hz hl'
   unfold TD at h1
   rw[hsw] at h1
   have it:=SS.tup S1 hm
   cases S1 with|mk os F N q=>
   refine unpackN_ F N it hh ?_ ?_ fun h' F' N'=> ?_
   ·rw[CG hs2.1,List.length_map]
    exact hz'.symm
   ·rw[CG hs2.1];exact HB
   ·rw[CG hs2.1,List.map_map]
    exact wpAny_mono (I.ts h1 (show SS g x Γ.sc C1 (τ.wσ σ1) _ from⟨os,F',N',q.c,q.nd,q.g,q.d,q.o⟩) hl1 rs) (fun _ s2 q=>q.ext e1) fun _ _ e=>e.ext e1
  |some names=>
   refine Assign_Tuple_swapped (Pu .refl hl ((H.e τ n).e h S hl) fun σ1 V1 C1 v s1 e1 _ S1 hl1 r1 h1=> ?_) JC sw
   obtain⟨l,hl',h1⟩:=AF.ok h1
   obtain⟨hz,h1⟩:=AD.ok h1
   obtain⟨ad,vs,n0,rfl,hm,hz',rs⟩:=NX r1 hz hl'
   unfold TD at h1
   rw[hsw] at h1
   obtain⟨hn,h1⟩:=AD.ok h1
   have hn:=AZ hn
   have it:=SS.tup S1 hm
   cases S1 with|mk os F N q=>
   have hnl:names.length=vs.length:=(bE hn.1).trans hz'.symm
   refine unpackItemsN_ F N it hh hnl fun h' F' N'=> ?_
   exact QE H.hk names.reverse l.reverse vs.reverse m (τ.wσ σ1) _ (fun y hy=>List.all_eq_true.mp hn.2 y (List.mem_reverse.mp hy)) (by rw[List.length_reverse,List.length_reverse];exact hnl) ⟨os,F',N',q.c,q.nd,q.g,q.d,q.o⟩ hl1 rs.rev h1 e1
end
end
section
section
variable{g:Gx}{x:Sx}{Γ:EC}{d n:Nat}{m:AU}{C:List AB}{Q:A5}{τ:Tx}{s:Shared}{σ σ0:Lg}
theorem PJ{op:Operator}{X:Prop}:(h:match op with| .Add=>X|_=>False)→op= .Add∧X:=by
 cases op<;>first|exact fun h=>⟨rfl,h⟩|exact fE
theorem tL(H:HS g x Γ d){op:Operator}{e:Expr}{y:Str}{px p:Pos}(h:KB Γ (n+1) (.AugAssign (.Name y px) op e p) m C Q)(S:SS g x Γ.sc C τ s)(hl:SL x Γ.sc τ m):wpAny g.M x.A (exec (.AugAssign (.Name y px) op e p) (x.env Γ.sc)) (As g x Γ.sc Q τ.σ) (Aq g x Γ.sc Γ.tr Q.exc τ.σ) s:=by
 obtain⟨hx,h⟩:=AD.ok h
 obtain⟨u,hu,h⟩:=AF.ok h
 have rest:∀z:Value,VR τ.σ u z→wpAny g.M x.A (eval e (x.env Γ.sc)) (fun v s1=>wpAny g.M x.A (inplaceOp op z v) (fun r s2=>wpAny g.M x.A (storeName (x.env Γ.sc) y r) (fun _=>As g x Γ.sc Q τ.σ .next) (Aq g x Γ.sc Γ.tr Q.exc τ.σ) s2) (Aq g x Γ.sc Γ.tr Q.exc τ.σ) s1) (Aq g x Γ.sc Γ.tr Q.exc τ.σ) s:=fun z rz=>by
  refine Pu .refl hl ((H.e τ n).e h S hl) fun σ1 V1 C1 v s1 e1 _ S1 hl1 r1 h1=> ?_
  rcases Au.ok h1 with⟨i,hi,h1⟩|h1
  ·obtain⟨rfl,h1⟩:=PJ h1
   obtain⟨l,hC,h1⟩:=Gw h1
   obtain⟨l',hl',hz,h1⟩:=AF.ok h1
   have ry:=(Cs.ok hi▸rz:VR τ.σ (.obj i) z).ext e1
   obtain⟨ad,vs,n0,rfl,ho,rs⟩:=St.list S1 ry hC
   obtain⟨ad2,ws,n2,rfl,ho2,rs2⟩:=Fz.ok S1 r1 hl'
   exact Mu ho ho2 (by rw[rs.len,rs2.len];exact hz) fun h' n' hs ho'=>FX H.hk hx (show SS g x Γ.sc _ (τ.wσ σ1) _ from St.list_set S1 ry hC hs ho' (rs.append rs2)) hl1 ry e1 h1
  ·exact S8 (u5 (Q:=fun r C=>Q.next (Ae m y r) C) e1 S1 (rz.ext e1) r1 h1) fun σ2 V2 C2 v s2 e2 S2 r2 h2=>FX H.hk hx (show SS g x Γ.sc _ (τ.wσ σ2) _ from S2) (hl.ext e2) r2 e2 h2
 rcases Bool.or_eq_true_iff.mp hx with hx'|hx'
 ·obtain⟨z,hz,rz⟩:=(hl.loc _ _ hu).1 (bE hx')
  exact wpAny_AugAssign_Name (wpAny_loadName_local H.hk (bE hx') (St.F S).ns hz (rest z rz))
 ·obtain⟨ad,o,z,h1,h2,h3,rz⟩:=(hl.loc _ _ hu).2 (.inl (bE hx'))
  exact wpAny_AugAssign_Name (wpAny_loadName_cell H.hk (bE hx') h1 ⟨o,(St.zmem S (List.mem_append_left _ h2)).1,h3⟩ (rest z rz))
theorem Wk(H:HS g x Γ d){e:Expr}{p:Pos}(h:AD (Fc e)<|BV (Γ.sX fun c C=>Q.exc c m C) n e m C fun _ C=>Q.next m C)(S:SS g x Γ.sc C τ s)(hl:SL x Γ.sc τ m):wpAny g.M x.A (exec (.Expr e p) (x.env Γ.sc)) (As g x Γ.sc Q τ.σ) (Aq g x Γ.sc Γ.tr Q.exc τ.σ) s:=by
 obtain⟨hs,h⟩:=AD.ok h
 exact wpAny_Expr_any (Pu .refl hl ((H.e τ n).e h S hl) fun σ1 V1 C1 v s1 e1 _ S1 hl1 r1 h1=>⟨τ.wσ σ1,C1,e1,S1,m,hl1,h1⟩) (by have q:(x.env Γ.sc).scope.kind= .function:=H.hk;unfold interactive;rw[q];rfl) (JU hs)
inductive tP(Γ:EC)(n:Nat)(ea:Option Expr)(m:AU)(C:List AB)(Q:A5):Prop
 |mk:∀c,nsIn Γ.K mainGlobals (KM ea)=some none→bootBuiltins (KM ea)=some (.type c)→KM ea≠"__name__"→(c="ValueError"∨c="TypeError")→(SK ea).all Az=true→(Dn (Γ.sX fun c C=>Q.exc c m C) n (SK ea) m C fun vs C=>vs.length≤1000∧Q.exc c m C)→tP Γ n ea m C Q
theorem Nv{ea:Option Expr}(h:match nsIn Γ.K mainGlobals (KM ea),bootBuiltins (KM ea) with
   |some none,some (.type c)=>AD (!(KM ea==("__name__":Str))&&((c=="ValueError"||c=="TypeError")&&(SK ea).all Az))<|Dn (Γ.sX fun c C=>Q.exc c m C) n (SK ea) m C fun vs C=>vs.length≤1000∧Q.exc c m C
   |_,_=>False):tP Γ n ea m C Q:=by
 cases h1:nsIn Γ.K mainGlobals (KM ea) with
 |none=>rw[h1] at h;exact h.elim
 |some o=>
  rw[h1] at h
  cases o with
  |some _=>exact h.elim
  |none=>
   cases h2:bootBuiltins (KM ea) with
   |none=>rw[h2] at h;exact h.elim
   |some v=>
    rw[h2] at h
    revert h
    cases v with
    |type c=>
     intro h
     obtain⟨hx,h⟩:=AD.ok h
     have hx:=AZ hx
     have hx2:=AZ hx.2
     exact⟨c,h1,h2,Fe hx.1,(Bool.or_eq_true_iff.mp hx2.1).imp bE bE,hx2.2,h⟩
    |_=>exact fE
theorem Rt(H:HS g x Γ d){ea ca:Option Expr}{p:Pos}(h:KB Γ (n+1) (.Raise ea ca p) m C Q)(S:SS g x Γ.sc C τ s)(hl:SL x Γ.sc τ m):wpAny g.M x.A (exec (.Raise ea ca p) (x.env Γ.sc)) (As g x Γ.sc Q τ.σ) (Aq g x Γ.sc Γ.tr Q.exc τ.σ) s:=by
 obtain⟨hp,h⟩:=AD.ok h
 obtain⟨hd,h⟩:=AD.ok h
 obtain⟨c,hv,hb,hn,hc,hpl,h⟩:=Nv h
 have hd:=AZ hd
 have hd2:=AZ hd.2
 have hd3:=AZ hd2.1
 have hh:=(H.Mf τ).hh (Bn hd3.1)
 obtain⟨np,rp,re,rr,ha,hA,hca⟩:=Og.ok hp
 rw[hca,ha]
 rw[hA] at h hpl
 have hpl:=AZ hpl
 have My:∀(na:D7 c) (vs:List Value) (s2:Shared),Di g (x.f Γ.sc τ) (fun vs C=>vs.length≤1000∧Q.exc c m C) τ.σ vs s2→vs.length≤sizeLine∧∀h' e,Heap.MadeExc s2.heap h' e c vs→Aq g x Γ.sc Γ.tr Q.exc τ.σ (.ref e) {s2 with heap:=h'}:=fun na vs s2 q=>by
  obtain⟨σ2,V2,C2,e2,S2,r2,h2,h3⟩:=q
  cases S2 with|mk os F N k=>
  exact⟨by rw[r2.len];exact Nat.le_trans h2 (by decide),fun h' e hx=> .mk e c (τ.wσ σ2) C2 os s2.heap m rfl (.made vs (Bn hd3.2) hx.of N) F e2 ⟨k.c,k.nd,k.g,k.d,k.o⟩ (hl.ext e2) na h3⟩
 have args:(na:D7 c)→wpAny g.M x.A (spliced (backTo rp (starEach (re::rr) (x.env Γ.sc)))) (fun vs s2=>vs.length≤sizeLine∧∀h' e,Heap.MadeExc s2.heap h' e c vs→Aq g x Γ.sc Γ.tr Q.exc τ.σ (.ref e) {s2 with heap:=h'}) (Aq g x Γ.sc Γ.tr Q.exc τ.σ) s:=fun na=>
  wpAny_mono ((H.e τ n).es h S hl) (fun vs s2 q=>My na vs s2 q) fun _ _ e=>e.up .refl hl
 rcases hc with rfl|rfl
 ·exact Raise_madeB PySem.F.excCall_ValueError PySem.F.excRaise_ValueError hh
   (IV (f:=x.f Γ.sc τ) (St.F S) (H.Mf τ).X (H.Mf τ).T hv hb hn ⟨rfl,args (by unfold D7;rw[isSubtype_type];kernel_rfl)⟩ rfl rfl H.hk (bE hd2.2) (BP.ok hd.1)) (DK hpl.1) (Ch hpl.2).1
 ·exact Raise_madeB PySem.F.excCall_TypeError PySem.F.excRaise_TypeError hh
   (IV (f:=x.f Γ.sc τ) (St.F S) (H.Mf τ).X (H.Mf τ).T hv hb hn ⟨rfl,args (by unfold D7;rw[isSubtype_type];kernel_rfl)⟩ rfl rfl H.hk (bE hd2.2) (BP.ok hd.1)) (DK hpl.1) (Ch hpl.2).1
theorem yE(H:HS g x Γ d)(I:SF g x Γ n){t:Expr}{bd od:List Stmt}{p:Pos}(h:I4 (Γ.sX fun c C=>Q.exc c m C) n t m C fun c C=>Ad c (Av Γ n bd m C Q) (Av Γ n od m C Q))(S:SS g x Γ.sc C τ s)(hl:SL x Γ.sc τ m):wpAny g.M x.A (exec (.If t bd od p) (x.env Γ.sc)) (As g x Γ.sc Q τ.σ) (Aq g x Γ.sc Γ.tr Q.exc τ.σ) s:=
 wpAny_If (wpAny_mono ((H.e τ n).t h S hl) (fun c s1 q=>by
  obtain⟨σ1,C1,e1,S1,h1⟩:=q
  have S1:SS g x Γ.sc C1 (τ.wσ σ1) s1:=S1
  cases c with
  |true=>exact wpAny_mono (I.ss h1 S1 (hl.ext e1)) (fun _ _ q=>q.ext e1) fun _ _ e=>e.ext e1
  |false=>exact wpAny_mono (I.ss h1 S1 (hl.ext e1)) (fun _ _ q=>q.ext e1) fun _ _ e=>e.ext e1) fun _ _ e=>e.up .refl hl)
theorem As.wA{A:Around}{sc:Scope}{fl:Flow}{Q':A5}(h:As g (x.wA A) sc Q' σ fl s)(hq:∀τ C,ut (x.wA A) sc Q' τ C fl→ut x sc Q τ C fl):As g x sc Q σ fl s:=by
 cases h with|mk τ C e S q=>exact⟨τ,C,e,S,hq τ C q⟩
theorem PU(H:HS g x Γ d){st:Stmt}(h:AD (!Γ.hd) (Γ.lp Γ.sc st m C Q))(S:SS g x Γ.sc C τ s)(hl:SL x Γ.sc τ m):wpAny g.M x.A (exec st (x.env Γ.sc)) (As g x Γ.sc Q τ.σ) (Aq g x Γ.sc Γ.tr Q.exc τ.σ) s:=by
 obtain⟨hh,h⟩:=AD.ok h
 have Mf:=H.Mf τ
 rw[Bn hh] at Mf
 obtain⟨A₁,e,B⟩:=H.hB (Bn hh)
 exact H.HL _ _ _ _ h H.hk _ _ _ e Mf B _ S hl
theorem tJ(H:HS g x Γ d)(IT:SF g x Γ.sT n)(ih:∀x',HS g x' Γ.sH d→SF g x' Γ.sH n){bd:List Stmt}{hs:List ExceptHandler}{p:Pos}(h:AD (!Γ.hd&& !hs.isEmpty)<|Av Γ.sT n bd m C (Q.sE fun c m C=>AD (Γ.top&&(MI Γ.sc Γ.K c hs).isSome) (Av Γ.sH n (zf hs) m C (Q.sE fun _ _ _=>False))))(S:SS g x Γ.sc C τ s)(hl:SL x Γ.sc τ m):wpAny g.M x.A (exec (.Try bd hs [] [] p) (x.env Γ.sc)) (As g x Γ.sc Q τ.σ) (Aq g x Γ.sc Γ.tr Q.exc τ.σ) s:=by
 obtain⟨hh,h⟩:=AD.ok h
 have hh:=AZ hh
 obtain⟨A₁,eA,B⟩:=H.hB (Bn hh.1)
 cases hs with
 |nil=>exact BQ hh.2
 |cons h0 hs=>
  refine wpAny_Try_except (wpAny_mono (IT.ss h S hl) (fun fl s1 q=> ?_) (fun ev s1 q=> ?_))
  ·obtain⟨τ1,C1,e1,S1,q⟩:=q
   cases fl with
   |next=>exact wpAny_execs_nil ⟨τ1,C1,e1,S1,q⟩
   |_=>exact⟨τ1,C1,e1,S1,q⟩
  ·rcases q with⟨e,cls,τ1,C1,os,hp,m1,rfl,hr,F1,ex,k,hl1,na,q⟩|⟨z,_⟩
   ·rcases hr with⟨t,vs,R,U⟩|⟨vs,z,_,_⟩
    ·obtain⟨ht,q2⟩:=AD.ok q
     have ht:=AZ ht
     obtain⟨bs,hbs⟩:=Option.isSome_iff_exists.mp ht.2
     have eb:=H.HT ht.1
     obtain⟨y,np,b0,bs0,hpos,rest,he,rfl,hx1,hx2,hx3,hx4,hx5,rfl⟩:=MI.ok hbs
     cases he
     rw[eA]
     rw[eb] at R B
     refine O3 (τ:=τ1) B F1 U R (H.Mf τ).X (H.Mf τ).T hx4 hx5 (by rw[isSubtype_type];kernel_rfl) (by rw[isSubtype_type];kernel_rfl) (by rw[isSubtype_type];kernel_rfl) (fun h' F' N'=> ?_) hx3 H.hk hx1 (BP.ok hx2)
     rw[←eA]
     have Hh:HS g (x.wA (x.A.mark (some (.ref e)))) Γ.sH d:=
      ⟨H.hk,fun τ=>⟨by cases(H.Mf τ).fr with|mk A₀ env outer e1 e2 e3 B=>exact⟨A₀,env,outer,e1,e2,e3,B⟩,(H.Mf τ).hA,(H.Mf τ).X,(H.Mf τ).T,(H.Mf τ).room,(H.Mf τ).units,(fun z=>nomatch z)⟩,(fun z=>nomatch z),H.HF,H.HC,H.HA,(fun _ _ _ _ z=>fE z),(fun _ _ _ _ z=>fE z),fun _=>eb⟩
     refine wpAny_mono ((ih _ Hh).ss q2 (show SS g (x.wA _) Γ.sc C1 τ1 _ from⟨os,F',N',k.c,k.nd,k.g,k.d,k.o⟩) hl1) (fun fl s2 q=> ?_) (fun ev s2 q=> ?_)
     ·exact As.ext ex (As.wA q fun τ C q=>by cases fl<;>exact q)
     ·rcases q with⟨_,_,_,_,_,_,_,_,_,_,_,_,_,_,z⟩|⟨z,_⟩
      ·exact z
      ·exact nomatch z
    ·exact nomatch z
   ·exact nomatch z
end
end
section
section
variable{g:Gx}{x:Sx}{Γ:EC}{d n:Nat}{m:AU}{C:List AB}{Q:A5}{τ:Tx}{s:Shared}{σ σ0:Lg}
theorem Rm(H:HS g x Γ d)(I:SF g x Γ n){y:Str}{px:Pos}{ts:List Expr}{v:V}{l:List V}{vs:List Value}(h:AD (Cz Γ y)<|FT Γ n ts l (Ae m y v) C Q)(S:SS g x Γ.sc C τ s)(hl:SL x Γ.sc τ m)(rl:BU τ.σ (v::l) vs):wpAny g.M x.A (assignInOrder ((Expr.Name y px::ts).map fun t=>assign t (x.env Γ.sc)) vs) (fun _=>As g x Γ.sc Q τ.σ .next) (Aq g x Γ.sc Γ.tr Q.exc τ.σ) s:=by
 obtain⟨hx,h⟩:=AD.ok h
 refine rl.g1 fun u us r1 rr=> ?_
 exact assignInOrder_cons (PyProof.Rows.assign_Name (IL H.hk hx S hl r1 .refl fun τ1 s1 e1 d1 S1 hl1=>wpAny_mono (I.ts h S1 hl1 (rr.ext d1)) (fun _ _ q=>q.ext e1) fun _ _ e=>e.ext e1))
theorem Rn(H:HS g x Γ d)(I:SF g x Γ n){o:Expr}{y:Str}{px:Pos}{ts:List Expr}{v:V}{l:List V}{vs:List Value}(h:BV (Γ.sX fun c C=>Q.exc c m C) n o m C fun ov C=>Fo Γ.K ov y v C fun C=>FT Γ n ts l m C Q)(S:SS g x Γ.sc C τ s)(hl:SL x Γ.sc τ m)(rl:BU τ.σ (v::l) vs):wpAny g.M x.A (assignInOrder ((Expr.Attribute o y px::ts).map fun t=>assign t (x.env Γ.sc)) vs) (fun _=>As g x Γ.sc Q τ.σ .next) (Aq g x Γ.sc Γ.tr Q.exc τ.σ) s:=by
 refine rl.g1 fun u us r1 rr=>assignInOrder_cons ?_
 dsimp only
 rw[PySem.assign_Attribute]
 refine wpAny_bind (wpAny_holding (Pu .refl hl ((H.e τ n).e h S hl) fun σ1 V1 C1 w s1 e1 _ S1 hl1 rv h1=> ?_))
 refine wpAny_bind (wpAny_standAt (wpAny_bind (wpAny_holding (wpAny_mono (Xi (H.Mf τ).X S1 rv (r1.ext e1) h1) (fun _ s2 q=> ?_) fun _ _ e=>e))))
 obtain⟨C2,S2,h2⟩:=q
 exact wpAny_release (wpAny_mono (I.ts h2 (show SS g x Γ.sc C2 (τ.wσ σ1) s2 from S2) hl1 (rr.ext e1)) (fun _ _ q=>q.ext e1) fun _ _ e=>e.ext e1)
theorem s9(H:HS g x Γ d)(I:SF g x Γ n){ts:List Expr}{l:List V}{vs:List Value}(h:FT Γ (n+1) ts l m C Q)(S:SS g x Γ.sc C τ s)(hl:SL x Γ.sc τ m)(rl:BU τ.σ l vs):wpAny g.M x.A (assignInOrder (ts.map fun t=>assign t (x.env Γ.sc)) vs) (fun _=>As g x Γ.sc Q τ.σ .next) (Aq g x Γ.sc Γ.tr Q.exc τ.σ) s:=by
 cases ts with
 |nil=>cases l with
  |nil=>exact rl.g0 (assignInOrder_nil ⟨τ,C,.refl,S,m,hl,h⟩)
  |cons _ _=>exact fE h
 |cons t ts=>cases l with
  |nil=>revert h;cases t<;>exact fE
  |cons v l=>
   revert h
   cases t with
   |Name y px=>exact fun h=>Rm H I h S hl rl
   |Attribute o y px=>exact fun h=>Rn H I h S hl rl
   |_=>exact fE
theorem tF(I:SF g x Γ n){st:List Stmt}(h:Av Γ (n+1) st m C Q)(S:SS g x Γ.sc C τ s)(hl:SL x Γ.sc τ m):wpAny g.M x.A (execs st (x.env Γ.sc)) (As g x Γ.sc Q τ.σ) (Aq g x Γ.sc Γ.tr Q.exc τ.σ) s:=by
 cases st with
 |nil=>exact wpAny_execs_nil ⟨τ,C,.refl,S,m,hl,h⟩
 |cons st r=>
  have h:KB Γ n st m C (Q.sN fun m C=>Av Γ n r m C Q):=h
  refine wpAny_execs_cons (wpAny_mono (I.s h S hl) (fun fl s1 q=> ?_) fun _ _ e=>e)
  obtain⟨τ1,C1,e1,S1,q⟩:=q
  cases fl with
  |next=>
   obtain⟨m1,hl1,h1⟩:=q
   exact wpAny_mono (I.ss h1 S1 hl1) (fun _ _ q=>q.ext e1) fun _ _ e=>e.ext e1
  |_=>exact⟨τ1,C1,e1,S1,q⟩
theorem tM(H:HS g x Γ d)(I:SF g x Γ n){tg:List Expr}{e:Expr}{p:Pos}(S:SS g x Γ.sc C τ s)(hl:SL x Γ.sc τ m):(h:KB Γ (n+1) (.Assign tg e p) m C Q)→wpAny g.M x.A (exec (.Assign tg e p) (x.env Γ.sc)) (As g x Γ.sc Q τ.σ) (Aq g x Γ.sc Γ.tr Q.exc τ.σ) s:=by
 cases tg with
 |nil=>exact fE
 |cons t tg=>cases tg with
  |cons _ _=>exact fE
  |nil=>cases t with
   |Name y px=>exact fun h=>Wj H h S hl
   |Attribute o y px=>exact fun h=>Wl H h S hl
   |Tuple ts k tp=>exact fun h=>tI H I h S hl
   |_=>exact fE
theorem yD(H:HS g x Γ d)(I:SF g x Γ n)(ih:∀x' Γ',HS g x' Γ' d→SF g x' Γ' n){st:Stmt}(S:SS g x Γ.sc C τ s)(hl:SL x Γ.sc τ m):(h:KB Γ (n+1) st m C Q)→wpAny g.M x.A (exec st (x.env Γ.sc)) (As g x Γ.sc Q τ.σ) (Aq g x Γ.sc Γ.tr Q.exc τ.σ) s:=by
 cases st with
 |Pass _=>exact fun h=>wpAny_Pass ⟨τ,C,.refl,S,m,hl,h⟩
 |Break _=>exact fun h=>wpAny_Break ⟨τ,C,.refl,S,m,hl,h⟩
 |Continue _=>exact fun h=>wpAny_Continue ⟨τ,C,.refl,S,m,hl,h⟩
 |Return v _=>cases v with
  |some e=>exact fun h=>tK H h S hl
  |none=>exact fun h=>wpAny_Return_none ⟨τ,C,.refl,S,.none,.none,h⟩
 |Assign tg e p=>exact fun h=>tM H I S hl h
 |AugAssign t op e p=>cases t with
  |Name y px=>exact fun h=>tL H h S hl
  |_=>exact fE
 |Expr e p=>exact fun h=>Wk H h S hl
 |Raise ea ca p=>exact fun h=>Rt H h S hl
 |If t b o p=>exact fun h=>yE H I h S hl
 |For t i b o p=>exact fun h=>PU H h S hl
 |While t b o p=>exact fun h=>PU H h S hl
 |Try bd hs oe fb p=>cases oe with
  |cons _ _=>exact fE
  |nil=>cases fb with
   |cons _ _=>exact fE
   |nil=>exact fun h=>tJ H (ih x Γ.sT ⟨H.hk,H.Mf,H.hB,H.HF,H.HC,H.HA,H.HLT,H.HLT,H.HT⟩) (fun x' H'=>ih x' Γ.sH H') h S hl
 |_=>exact fE
theorem GX(n:Nat):∀(x:Sx) (Γ:EC),HS g x Γ d→SF g x Γ n:=by
 induction n with
 |zero=>exact fun _ _ _=>⟨fun h=>fE h,fun h=>fE h,fun h=>fE h⟩
 |succ n ih=>exact fun x Γ H=>⟨fun h S hl=>yD H (ih x Γ H) ih S hl h,fun h S hl rl=>s9 H (ih x Γ H) h S hl rl,fun h S hl=>tF (ih x Γ H) h S hl⟩
end
end
section
section
variable{g:Gx}{f:Fx}{σ:Lg}{s:Shared}{C:List AB}
theorem St.zend{z:BK}{I:Addr}{o:Obj}{h':Heap}(S:St g (f.wz ((I,o)::z)) C σ s)(hx:Heap.ExtBut I s.heap h'):St g (f.wz z) C σ {s with heap:=h'}:=by
 cases S with|mk os F N k=>
 have pm:(os++((I,o)::z++σ.W)).Perm ((I,o)::(os++(z++σ.W))):=List.perm_middle
 have hn':=BO N pm
 have nd':=List.nodup_cons.mp (A0 k.nd pm)
 have hI:=hn' (I,o) (.head _)
 exact⟨os,⟨F.ns.extBut hx (Ne.symm hI.2.1),fun bb ob e=>hx bb ob (fun q=>AM (hI.2.2.symm.trans (q▸e))) (F.keep bb ob e),F.above⟩,fun p hp=>⟨hx _ _ (fun q=>nd'.1 (mM ⟨p,hp,q⟩)) (hn' p (.tail _ hp)).1,(hn' p (.tail _ hp)).2⟩,k.c,nd'.2,k.g,k.d,k.o⟩
end
def ID(g:Gx)(f:Fx)(C:List AB)(σ:Lg)(I:Addr)(z:BK)(xs:List V)(obj:Nat→Obj→Prop)(j:Nat)(r:Option Value)(s':Shared):Prop:=match r with
 |none=>j=xs.length∧St g (f.wz z) C σ s'
 |some v=>∃x o',xs[j]? =some x∧VR σ x v∧obj (j+1) o'∧St g (f.wz ((I,o')::z)) C σ s'
structure Ex(g:Gx)(σ:Lg)(keep:List AB→Prop)(xs:List V) where
 obj:Nat→Obj→Prop
 next:∀(j:Nat) (A:Around) (E:Value→Shared→Prop) (f:Fx) (s:Shared) (C:List AB) (σ':Lg) (I:Addr) (o:Obj) (z:BK),A.handled=none→Am σ σ'→keep C→St g (f.wz ((I,o)::z)) C σ' s→obj j o→j≤xs.length→
  wpAny g.M A (pyNext (.ref I)) (ID g f C σ' I z xs obj j) E s
 cls:∀j o,obj j o→∃n vs,o.cls= .type n∧o.data= .fields vs∧(["enumerate","zip","dict_itemiterator","dict_reverseitemiterator","odict_iterator","itertools.zip_longest","itertools.pairwise"]:List String).contains n=false
 self:∀(j:Nat) (A:Around) (E:Value→Shared→Prop) (s:Shared) (I:Addr) (o:Obj) (Q:Value→Shared→Prop),s.heap.get? I=some o→obj j o→Q (.ref I) s→wpAny g.M A (pyIter (.ref I)) Q E s
section
variable{g:Gx}{σ:Lg}
theorem GZ{f:Fx}{s:Shared}{C:List AB}{σ':Lg}{I:Addr}{o:Obj}{z:BK}{xs:List V}{vs:List Value}{obj:Nat→Obj→Prop}{j:Nat}{A:Around}{E:Value→Shared→Prop}(rs:BU σ' xs vs)(S:St g (f.wz ((I,o)::z)) C σ' s)(hj:j≤xs.length)
  (item:∀v,vs.toArray[j]? =some v→(∀h',(∃o',h'.get? I=some o'∧obj (j+1) o')→Heap.SameBut I s.heap h'→ID g f C σ' I z xs obj j (some v) {s with heap:=h'})→wpAny g.M A (pyNext (.ref I)) (ID g f C σ' I z xs obj j) E s)
  (stop:vs.toArray[j]? =none→(∀h',Heap.ExtBut I s.heap h'→ID g f C σ' I z xs obj j none {s with heap:=h'})→wpAny g.M A (pyNext (.ref I)) (ID g f C σ' I z xs obj j) E s):wpAny g.M A (pyNext (.ref I)) (ID g f C σ' I z xs obj j) E s:=by
 rcases Nat.lt_or_ge j xs.length with h|h
 ·obtain⟨v,hv,r⟩:=GE rs (List.getElem?_eq_getElem h)
  refine item v ((List.getElem?_toArray ..).trans hv) fun h' hx hs=> ?_
  obtain⟨o',ho',h2⟩:=hx
  exact⟨_,o',List.getElem?_eq_getElem h,r,h2,S.zset (k:=s.toks) hs ho'⟩
 ·exact stop ((List.getElem?_toArray ..).trans (List.getElem?_eq_none (by rw[rs.len];exact h))) fun h' hx=>⟨nQ hj h,S.zend hx⟩
noncomputable def SV{l:Addr}{xs:List V}{vs:List Value}{n:Nat}(hm:(l,Ag "list" vs n)∈σ.W)(rs:BU σ xs vs):Ex g σ (fun _=>True) xs where
 obj j o:=o.cls= .type "list_iterator"∧o.data= .fields #[.ref l,.int j 0]
 next j A E f s C σ' I o z hh ex _ S ho hj:=
  have it:s.heap.IsListIter I l j:=⟨o,(S.zmem (.head _)).1,ho.1,ho.2⟩
  GZ (rs.ext ex) S hj (fun v hv k=>wpAny_pyNext_list_item it (S.isList (ex.w _ hm)) hv fun h' it' hs=>k h' it' hs) fun hv k=>wpAny_pyNext_list_end hh it (S.isList (ex.w _ hm)) hv fun h' hx=>k h' hx
 cls j o ho:=⟨_,_,ho.1,ho.2,by decide⟩
 self j A E s I o Q hI ho q:=wpAny_pyIter_listiter ⟨o,hI,ho.1,ho.2⟩ q
noncomputable def rh{i:Nat}{a:Addr}{xs:List V}{C₀:List AB}(hr:VR σ (.obj i) (.ref a))(hC₀:C₀[i]? =some (.list xs)):Ex g σ (FD (.obj i) C₀) xs where
 obj j o:=o.cls= .type "list_iterator"∧o.data= .fields #[.ref a,.int j 0]
 next j A E f s C σ' I o z hh ex hC S ho hj:=by
  have it:s.heap.IsListIter I a j:=⟨o,(S.zmem (.head _)).1,ho.1,ho.2⟩
  obtain⟨a',vs,n,he,hget,rs⟩:=S.list (hr.ext ex) (Eq.trans hC hC₀)
  obtain rfl:=Value.ref.inj he
  have il:s.heap.IsList a vs.toArray:=⟨_,hget,rfl,_,rfl⟩
  exact GZ rs S hj (fun v hv k=>wpAny_pyNext_list_item it il hv fun h' it' hs=>k h' it' hs) fun hv k=>wpAny_pyNext_list_end hh it il hv fun h' hx=>k h' hx
 cls j o ho:=⟨_,_,ho.1,ho.2,by decide⟩
 self j A E s I o Q hI ho q:=wpAny_pyIter_listiter ⟨o,hI,ho.1,ho.2⟩ q
noncomputable def SU{l:Addr}{xs:List V}{vs:List Value}{n:Nat}(hm:(l,Ag "tuple" vs n)∈σ.W)(rs:BU σ xs vs):Ex g σ (fun _=>True) xs where
 obj j o:=o.cls= .type "tuple_iterator"∧o.data= .fields #[.ref l,.int j 0]
 next j A E f s C σ' I o z hh ex _ S ho hj:=
  have it:s.heap.IsTupleIter I l j:=⟨o,(S.zmem (.head _)).1,ho.1,ho.2⟩
  GZ (rs.ext ex) S hj (fun v hv k=>wpAny_pyNext_tuple_item it (S.isTup (ex.w _ hm)) hv fun h' it' hs=>k h' it' hs) fun hv k=>wpAny_pyNext_tuple_end hh it (S.isTup (ex.w _ hm)) hv fun h' hx=>k h' hx
 cls j o ho:=⟨_,_,ho.1,ho.2,by decide⟩
 self j A E s I o Q hI ho q:=wpAny_pyIter_tupleiter ⟨o,hI,ho.1,ho.2⟩ q
noncomputable def rj{bs:List UInt8}{t:Nat}:Ex g σ (fun _=>True) (bs.map fun c=> .int c.toNat) where
 obj j o:=o.cls= .type "bytes_iterator"∧o.data= .fields #[.bytes bs.toArray t,.int j 0]
 next j A E f s C σ' I o z hh ex _ S ho hj:=by
  have it:KBw.IsBytesIter s.heap I bs.toArray t j:=⟨o,(S.zmem (.head _)).1,ho.1,ho.2⟩
  rcases Nat.lt_or_ge j bs.length with h|h
  ·refine KBw.next_item it (c:=bs[j]) ((List.getElem?_toArray ..).trans (List.getElem?_eq_getElem h)) fun h' it' hs=> ?_
   obtain⟨o',ho',h1,h2⟩:=it'
   exact⟨.int bs[j].toNat,o',by rw[List.getElem?_map,List.getElem?_eq_getElem h];rfl,.int _ _,⟨h1,h2⟩,S.zset hs ho'⟩
  ·exact KBw.next_end hh it ((List.getElem?_toArray ..).trans (List.getElem?_eq_none h)) fun h' hx=>⟨nQ hj (by rw[List.length_map];exact h),S.zend hx⟩
 cls j o ho:=⟨_,_,ho.1,ho.2,by decide⟩
 self j A E s I o Q hI ho q:=KBw.pyIter_self ⟨o,hI,ho.1,ho.2⟩ q
theorem MR(a b c:Int):0≤Builtin.Range.rangeSize a b c:=by
 unfold Builtin.Range.rangeSize
 split
 ·split
  ·rename_i h1 h2
   exact Int.add_nonneg (Int.ediv_nonneg (Int.le_sub_one_of_lt (Int.sub_pos_of_lt h2)) (Int.le_of_lt h1)) (by decide)
  ·exact Int.le_refl _
 ·split
  ·rename_i h1 h2
   exact Int.add_nonneg (Int.ediv_nonneg (Int.le_sub_one_of_lt (Int.sub_pos_of_lt h2)) (Int.neg_nonneg_of_nonpos (Int.not_lt.mp h1))) (by decide)
  ·exact Int.le_refl _
noncomputable abbrev KJ(a c n:Int):Obj:={cls:= .type "range_iterator",dict:=none,data:= .fields #[rawInt a,rawInt n,rawInt c],slots:= #[]}
noncomputable def rZ{a c:Int}{n:Nat}:Ex g σ (fun _=>True) (((List.range n).map fun i:Nat=>a+i*c).map .int) where
 obj j o:=o=KJ (a+j*c) c ((n:Int) - j)
 next j A E f s C σ' I o z hh ex _ S ho hj:=by
  have it:IsRangeIter s.heap I (a+j*c) ((n:Int) - j) c:=by have:=(S.zmem (.head _)).1;rw[ho] at this;exact this
  rcases Nat.lt_or_ge j n with h|h
  ·refine wpAny_pyNext_range_item it (Int.sub_pos_of_lt (Int.ofNat_lt.mpr h)) fun h' it' hs=> ?_
   have e1:a+(j:Int)*c+c=a+((j+1:Nat):Int)*c:=by rw[Int.natCast_add,Int.add_mul,Int.add_assoc];rw[show((1:Nat):Int)*c=c from Int.one_mul c]
   have e2:(n:Int) - j - 1=(n:Int) - ((j+1:Nat):Int):=Int.sub_sub ..
   have it2:h'.get? I=some (KJ (a+((j+1:Nat):Int)*c) c ((n:Int) - ((j+1:Nat):Int))):=by
    have:=it'
    rw[e1,e2] at this
    exact this
   exact⟨.int (a+j*c),_,by rw[List.getElem?_map,List.getElem?_map,List.getElem?_range h];rfl,.int _ _,rfl,S.zset hs it2⟩
  ·exact wpAny_pyNext_range_end hh it (Int.sub_nonpos_of_le (Int.ofNat_le.mpr h)) fun h' hx=>⟨nQ hj (by rw[List.length_map,List.length_map,List.length_range];exact h),S.zend hx⟩
 cls j o ho:=by subst ho;exact⟨_,_,rfl,rfl,by decide⟩
 self j A E s I o Q hI ho q:=wpAny_pyIter_rangeiter (by rw[ho] at hI;exact hI) q
end
section
variable{g:Gx}{f:Fx}{σ:Lg}{s:Shared}{C:List AB}{A:Around}{E:Value→Shared→Prop}
inductive J5(g:Gx)(f:Fx)(C:List AB)(σ:Lg)(v:V)(xs:List V)(it:Value)(s':Shared):Prop
 |mk:∀(I:Addr) (o:Obj) (T:Ex g σ (FD v C) xs),it= .ref I→T.obj 0 o→St g (f.wz ((I,o)::f.b.z)) C σ s'→J5 g f C σ v xs it s'
theorem St.zpush'(S:St g f C σ s)(ob:Obj)(hf:ob.isFreed=false:=by rfl):St g (f.wz ((s.heap.objs.size,ob)::f.b.z)) C σ {s with heap:=s.heap.push ob}:=by
 cases S with|mk os F N k=>exact St.zpush k (F.push _) (N.push F _ hf) fun p hp=>Nat.ne_of_lt (Heap.lt_size (N p hp).1)
theorem Ng{v:V}{y:Value}{xs:List V}(S:St g f C σ s)(r:VR σ v y)(hi:G2 C v=some xs)(hok:Ms v):wpAny g.M A (pyIter y) (J5 g f C σ v xs) E s:=by
 have P:∀(I:Addr) (o:Obj) (T:Ex g σ (FD v C) xs) s',T.obj 0 o→St g (f.wz ((I,o)::f.b.z)) C σ s'→J5 g f C σ v xs (.ref I) s':=fun I o T s' h1 h2=>⟨I,o,T,rfl,h1,h2⟩
 revert P hi hok
 refine uf fun G hG=>hG fun hi hok P=> ?_
 clear hG
 generalize J5 g f C σ v xs=R at P
 cases v with
 |bytes b=>
  obtain rfl:=oJ hi
  exact r.gBytes fun t=>KBw.pyIter_bytes (P _ _ rj _ ⟨rfl,rfl⟩ (S.zpush' _))
 |tup l=>
  obtain rfl:=oJ hi
  exact r.tupI.g fun a vs n hm rs=>wpAny_pyIter_tuple (S.isTup hm) (P _ _ (SU hm rs) _ ⟨rfl,rfl⟩ (S.zpush' _))
 |lst l=>
  obtain rfl:=oJ hi
  exact r.lstI.g fun a vs n hm rs=>wpAny_pyIter_list (S.isList hm) (P _ _ (SV hm rs) _ ⟨rfl,rfl⟩ (S.zpush' _))
 |ti l=>
  obtain rfl:=oJ hi
  exact r.tiI.g fun a vs n hm rs=>wpAny_pyIter_tuple (S.isTup hm) (P _ _ (SU hm (BU.ofInts rs)) _ ⟨rfl,rfl⟩ (S.zpush' _))
 |li l=>
  obtain rfl:=oJ hi
  exact r.liI.g fun a vs n hm rs=>wpAny_pyIter_list (S.isList hm) (P _ _ (SV hm (BU.ofInts rs)) _ ⟨rfl,rfl⟩ (S.zpush' _))
 |rng a b c=>
  obtain rfl:=oJ hi
  obtain⟨hm⟩:=r.rngI
  refine wpAny_pyIter_range (show IsRange s.heap _ a b c _ _ _ from(S.wmem hm).1) hok (P _ _ rZ _ ?_ (S.zpush' _))
  have e1:(((Builtin.Range.rangeSize a b c).toNat:Nat):Int) - ((0:Nat):Int)=Builtin.Range.rangeSize a b c:=(Int.sub_zero _).trans (tN (MR a b c))
  have e2:a+((0:Nat):Int)*c=a:=by rw[show((0:Nat):Int)*c=0 from Int.zero_mul c,Int.add_zero]
  show _=KJ (a+((0:Nat):Int)*c) c ((((Builtin.Range.rangeSize a b c).toNat:Nat):Int) - ((0:Nat):Int))
  rw[e1,e2]
 |obj i=>
  obtain⟨l,hC,rfl⟩:=Gy (Q:=fun l=>l) hi
  obtain⟨a,vs,n,rfl,ho,rs⟩:=S.list r hC
  exact wpAny_pyIter_list ⟨_,ho,rfl,_,rfl⟩ (P _ _ (rh r hC) _ ⟨rfl,rfl⟩ (S.zpush' _))
 |_=>exact AM hi
end
end
section
abbrev EQ(α:Type):=List (Str×α)
noncomputable def BJ{α:Type}(names:List Str)(kwarg:Bool)(acc:Option (EQ α×EQ α))(kv:Str×α):Option (EQ α×EQ α):=match acc with
 |none=>none
 |some (slots,extra)=>if names.contains kv.1 then(if(slots.lookup kv.1).isSome then none else some (slots++[kv],extra)) else if kwarg then some (slots,extra++[kv]) else none
noncomputable def EH{α:Type}(s:EQ α)(p:Str×α):EQ α:=if(s.lookup p.1).isNone then s++[p] else s
noncomputable def E7{α:Type}(s:EQ α)(names:List Str):EQ α:=names.filterMap fun n=>(s.lookup n).map (n,·)
noncomputable def De{α:Type}(names:List Str)(dfl:List α):List α:=dfl.drop (dfl.length - names.length)
noncomputable def Cy{α:Type}(names:List Str)(dfl:List α)(slots:EQ α):Bool:= !((names.take (names.length - (De names dfl).length)).filter fun n=>(slots.lookup n).isNone).isEmpty
noncomputable def Ig{α:Type}(names:List Str)(dfl:List α)(slots:EQ α):EQ α:=((names.drop (names.length - (De names dfl).length)).zip (De names dfl)).foldl EH slots
noncomputable def B8{α:Type}(names:List Str)(dfl:List α)(kwarg:Bool)(pos:List α)(kw:EQ α):Option (EQ α×EQ α):=
 if pos.length>names.length then none else match kw.foldl (BJ names kwarg) (some (names.zip pos,[])) with
  |none=>none
  |some (slots,extra)=>if Cy names dfl slots then none else some (E7 (Ig names dfl slots) names,extra)
inductive I1{α:Type}(names:List Str)(dfl:List α)(kwarg:Bool)(pos:List α)(kw binds extra:EQ α):Prop
 |mk:∀slots,¬pos.length>names.length→kw.foldl (BJ names kwarg) (some (names.zip pos,[]))=some (slots,extra)→¬Cy names dfl slots=true→binds=E7 (Ig names dfl slots) names→I1 names dfl kwarg pos kw binds extra
theorem B8.ok{α:Type}{names:List Str}{dfl:List α}{kwarg:Bool}{pos:List α}{kw binds extra:EQ α}(h:B8 names dfl kwarg pos kw=some (binds,extra)):I1 names dfl kwarg pos kw binds extra:=by
 unfold B8 at h
 by_cases hl:pos.length>names.length
 ·rw[if_pos hl] at h;exact AM h
 ·rw[if_neg hl] at h
  cases hf:kw.foldl (BJ names kwarg) (some (names.zip pos,[])) with
  |none=>rw[hf] at h;exact AM h
  |some r=>
   rw[hf] at h
   by_cases hm:Cy names dfl r.1=true
   ·exact AM ((if_pos hm).symm.trans h)
   ·have h:=oJ ((if_neg hm).symm.trans h)
    exact⟨r.1,hl,by rw[hf,←(Prod.mk.inj h).2],hm,(Prod.mk.inj h).1.symm⟩
theorem B8.mk{α:Type}{names:List Str}{dfl:List α}{kwarg:Bool}{pos:List α}{kw binds extra:EQ α}(h:I1 names dfl kwarg pos kw binds extra):B8 names dfl kwarg pos kw=some (binds,extra):=by
 obtain⟨slots,hl,hf,hm,rfl⟩:=h
 unfold B8
 rw[if_neg hl,hf]
 exact if_neg hm
inductive PQ{α:Type}(names:List Str)(kwarg:Bool)(sl ex:EQ α)(kv:Str×α)(r:Option (EQ α×EQ α)):Prop
 |slot:names.contains kv.1=true→(sl.lookup kv.1).isSome=false→r=some (sl++[kv],ex)→PQ names kwarg sl ex kv r
 |extra:names.contains kv.1=false→kwarg=true→r=some (sl,ex++[kv])→PQ names kwarg sl ex kv r
theorem BJ.ok{α:Type}{names:List Str}{kwarg:Bool}{sl ex:EQ α}{kv:Str×α}{b':EQ α×EQ α}(e:BJ names kwarg (some (sl,ex)) kv=some b'):PQ names kwarg sl ex kv (some b'):=by
 change(if names.contains kv.1 then(if(sl.lookup kv.1).isSome then none else some (sl++[kv],ex)) else if kwarg then some (sl,ex++[kv]) else none)=some b' at e
 cases q:names.contains kv.1 with
 |true=>
  rw[q] at e
  cases q2:(sl.lookup kv.1).isSome with
  |true=>rw[q2] at e;exact AM e
  |false=>rw[q2] at e;exact .slot q q2 e.symm
 |false=>
  rw[q] at e
  cases kwarg with
  |true=>exact .extra q rfl e.symm
  |false=>exact AM e
theorem BJ.do{α:Type}{names:List Str}{kwarg:Bool}{b b':EQ α×EQ α}{x:Str×α}{r1 r2:Sem (ForInStep (EQ α×EQ α))}(e:BJ names kwarg (some b) x=some b'):
  (if(names.contains x.1||false)=true then(if(b.1.lookup x.1).isSome=true then r1 else pure (.yield (b.1++[(x.1,x.2)],b.2))) else if kwarg=true then pure (.yield (b.1,b.2++[(x.1,x.2)])) else r2)=pure (.yield b'):=by
 rcases BJ.ok e with⟨h1,h2,h3⟩|⟨h1,h2,h3⟩
 ·rw[h1,h2,oJ h3];rfl
 ·rw[h1,h2,oJ h3];rfl
theorem Hz{α β:Type}{g:Option β→α→Option β}(hg:∀x,g none x=none)(l:List α):l.foldl g none=none:=by
 induction l with
 |nil=>rfl
 |cons y l ih=>rw[List.foldl_cons,hg,ih]
theorem Kl{α β:Type}{f:α→β→Sem (ForInStep β)}(g:Option β→α→Option β)(hg:∀x,g none x=none)(h:∀x b b',g (some b) x=some b'→f x b=pure (.yield b'))(l:List α):∀(b b':β),l.foldl g (some b)=some b'→forIn l b f=pure b':=by
 induction l with
 |nil=>exact fun b b' e=>oJ e▸rfl
 |cons x l ih=>
  intro b b' e
  rw[List.foldl_cons] at e
  cases q:g (some b) x with
  |none=>rw[q,Hz hg] at e;exact AM e
  |some b1=>rw[q] at e;rw[List.forIn_cons,h _ _ _ q,pure_bind];exact ih b1 b' e
theorem Kk{α β:Type}{f:α→β→Sem (ForInStep β)}(g:β→α→β)(h:∀x b,f x b=pure (.yield (g b x)))(l:List α):∀b:β,forIn l b f=pure (l.foldl g b):=by
 induction l with
 |nil=>exact fun _=>rfl
 |cons x l ih=>exact fun b=>by rw[List.forIn_cons,h,pure_bind,List.foldl_cons];exact ih _
section
variable{M:Model}{A:Around}{E:Value→Shared→Prop}{s:Shared}{Q:List (Str×Value)→Shared→Prop}
noncomputable def D5(kwarg:Option Arg)(binds extra:List (Str×Value)):Sem (List (Str×Value)):=match kwarg with
 |none=>pure binds
 |some a=>do
  if extra.length>sizeLine+1 then unsupported "dict:memory"
  let d←alloc {cls:= .type "dict",data:= .dict #[]}
  for (k,v) in extra do nsSet d k v
  pure (binds++[(a.arg,.ref d)])
theorem J0{fd:FuncData}{pos:List Value}{kw:List (Str×Value)}{binds:List (Str×Value)}{dfl:List Value}
  (h1:fd.params.posonlyargs=[]) (h2:fd.params.kwonlyargs=[]) (h3:fd.params.vararg=none)
  (hd:∀(Q:Option (Array Value)→Shared→Prop),(∀o,(o.getD #[]).toList=dfl→Q o s)→wpAny M A (seqItems? fd.defaults) Q E s)
  {extra:List (Str×Value)} (hb:B8 (fd.params.args.map (·.arg)) dfl fd.params.kwarg.isSome pos kw=some (binds,extra)) (h:wpAny M A (D5 fd.params.kwarg binds extra) Q E s):wpAny M A (bindArgs fd ⟨pos,kw⟩) Q E s:=by
 cases fd with|mk _ _ fp _ _ _ _ fdf _ _ _ _ _ _ _=> ?_
 cases fp with|mk po ar va ko _ ka _=> ?_
 obtain rfl:po=[]:=h1
 obtain rfl:ko=[]:=h2
 obtain rfl:va=none:=h3
 obtain⟨slots,hlen,hfold,hmiss,rfl⟩:=B8.ok hb
 clear hb
 unfold bindArgs
 dsimp only at hlen hfold hmiss h hd⊢
 refine wpAny_bind (CC (Kl (BJ (ar.map (·.arg)) ka.isSome) (fun x=>rfl) (fun x b b' e=>BJ.do e) _ _ _ hfold) (wpAny_pure (wpAny_bind (hd _ fun o ho=> ?_))))
 clear hd hfold
 subst ho
 refine CC (if_neg (show¬(decide (pos.length>(ar.map (·.arg)).length)&&true)=true from by rw[decide_eq_false hlen];exact Bool.false_ne_true)) ?_
 refine(CC (if_neg hmiss) ?_)
 refine wpAny_bind (CC (Kk EH (fun x b=>by unfold EH;split<;>rfl) _ _) (wpAny_pure (wpAny_bind (wpAny_pure ?_))))
 have an:List.map (fun x:Arg=>x.arg) []++List.map (fun x:Arg=>x.arg) ar++List.map (fun x:Arg=>x.arg) []=List.map (fun x:Arg=>x.arg) ar:=List.append_nil _
 refine CC ?_ h
 cases ka with
 |none=>exact congrArg (fun l=>D5 none (List.filterMap _ l) extra) an
 |some a=>exact congrArg (fun l=>D5 (some a) (List.filterMap _ l) extra) an
end
inductive CK(σ:Lg):List (Str×V)→List (Str×Value)→Prop where
 |nil:CK σ [] []
 |cons {x:Str} {v:V} {y:Value} {l:List (Str×V)} {l':List (Str×Value)}:VR σ v y→CK σ l l'→CK σ ((x,v)::l) ((x,y)::l')
section
variable{σ:Lg}
theorem CK.of{l:List (Str×V)}:∀{l':List (Str×Value)},IF σ l l'→CK σ l l':=by
 induction l with
 |nil=>exact fun h=>h.g0 .nil
 |cons p l ih=>
  obtain⟨x,c⟩:=p
  exact fun h=>h.g1 fun u l' r h=> .cons r (ih h)
theorem CK.app{l m:List (Str×V)}{l' m':List (Str×Value)}(h:CK σ l l')(h':CK σ m m'):CK σ (l++m) (l'++m'):=by
 induction h with
 |nil=>exact h'
 |cons a _ ih=>exact .cons a ih
theorem CK.one{l:List (Str×V)}{l':List (Str×Value)}{x:Str}{v:V}{y:Value}(h:CK σ l l')(r:VR σ v y):CK σ (l++[(x,v)]) (l'++[(x,y)]):=h.app (.cons r .nil)
inductive Ph(σ:Lg)(o:Option V)(o':Option Value):Prop
 |none:o=none→o'=none→Ph σ o o'
 |some:∀v y,o=Option.some v→o'=Option.some y→VR σ v y→Ph σ o o'
theorem CK.look{x:Str}{l:List (Str×V)}{l':List (Str×Value)}(h:CK σ l l'):Ph σ (l.lookup x) (l'.lookup x):=by
 induction h with
 |nil=>exact .none rfl rfl
 |cons r _ ih=>
  rename_i z v y l l' _
  rw[List.lookup_cons,List.lookup_cons]
  cases x==z
  ·exact ih
  ·exact .some v y rfl rfl r
theorem CK.isSome{x:Str}{l:List (Str×V)}{l':List (Str×Value)}(h:CK σ l l'):(l'.lookup x).isSome=(l.lookup x).isSome:=by
 rcases h.look (x:=x) with⟨a,b⟩|⟨v,y,a,b,_⟩<;>rw[a,b]<;>rfl
theorem CK.isNone{x:Str}{l:List (Str×V)}{l':List (Str×Value)}(h:CK σ l l'):(l'.lookup x).isNone=(l.lookup x).isNone:=by
 rcases h.look (x:=x) with⟨a,b⟩|⟨v,y,a,b,_⟩<;>rw[a,b]<;>rfl
theorem CK.zip{names:List Str}:∀{l:List V} {vs:List Value},BU σ l vs→CK σ (names.zip l) (names.zip vs):=by
 induction names with
 |nil=>exact fun _=> .nil
 |cons x names ih=>
  intro l vs r
  cases l with
  |nil=>exact r.g0 .nil
  |cons v l=>exact r.g1 fun y ys a b=> .cons a (ih b)
theorem CK.step{names:List Str}{kw:Bool}{l:List (Str×V)}{l':List (Str×Value)}(h:CK σ l l'):∀{a b:List (Str×V)} {a' b':List (Str×Value)} {r:List (Str×V)×List (Str×V)},CK σ a a'→CK σ b b'→
  l.foldl (BJ names kw) (some (a,b))=some r→∃r',l'.foldl (BJ names kw) (some (a',b'))=some r'∧CK σ r.1 r'.1∧CK σ r.2 r'.2:=by
 induction h with
 |nil=>exact fun ha hb h=>oJ h▸⟨_,rfl,ha,hb⟩
 |cons rv rl ih=>
  rename_i x v y l l'
  intro a b a' b' r ha hb h
  rw[List.foldl_cons] at h⊢
  cases q:BJ names kw (some (a,b)) (x,v) with
  |none=>rw[q,Hz (fun _=>rfl)] at h;exact AM h
  |some c=>
   rw[q] at h
   rcases BJ.ok q with⟨h1,h2,h3⟩|⟨h1,h2,h3⟩
   ·rw[oJ h3] at h
    rw[show BJ names kw (some (a',b')) (x,y)=some (a'++[(x,y)],b') from by show(if names.contains x then(if(a'.lookup x).isSome then _ else _) else _)=_;rw[show names.contains x=true from h1,show(a'.lookup x).isSome=false from ha.isSome.trans h2];rfl]
    exact ih (ha.one rv) hb h
   ·rw[oJ h3] at h
    rw[show BJ names kw (some (a',b')) (x,y)=some (a',b'++[(x,y)]) from by show(if names.contains x then _ else if kw then _ else _)=_;rw[show names.contains x=false from h1,h2];rfl]
    exact ih ha (hb.one rv) h
theorem CK.fill{l:List (Str×V)}{l':List (Str×Value)}(h:CK σ l l'):∀{a:List (Str×V)} {a':List (Str×Value)},CK σ a a'→CK σ (l.foldl EH a) (l'.foldl EH a'):=by
 induction h with
 |nil=>exact id
 |cons rv rl ih=>
  rename_i x v y l l'
  intro a a' ha
  refine ih ?_
  show CK σ (if(a.lookup x).isNone then a++[(x,v)] else a) (if(a'.lookup x).isNone then a'++[(x,y)] else a')
  rw[ha.isNone]
  cases(a.lookup x).isNone
  ·exact ha
  ·exact ha.one rv
theorem CK.pick{a:List (Str×V)}{a':List (Str×Value)}(ha:CK σ a a')(names:List Str):CK σ (E7 a names) (E7 a' names):=by
 induction names with
 |nil=>exact .nil
 |cons x r ih=>
  unfold E7
  rw[List.filterMap_cons,List.filterMap_cons]
  rcases ha.look (x:=x) with⟨p,q⟩|⟨v,y,p,q,rv⟩
  ·rw[p,q];exact ih
  ·rw[p,q];exact .cons rv ih
theorem M8{names:List Str}{kwarg:Bool}{dV:List V}{dv:List Value}{Vs:List V}{vs:List Value}{Kw:List (Str×V)}{kws:List (Str×Value)}{m ex:List (Str×V)}
  (hd:BU σ dV dv) (hv:BU σ Vs vs) (hk:CK σ Kw kws) (h:B8 names dV kwarg Vs Kw=some (m,ex)):∃m' ex',B8 names dv kwarg vs kws=some (m',ex')∧CK σ m m'∧CK σ ex ex':=by
 obtain⟨slots,hl,hf,hm,rfl⟩:=B8.ok h
 clear h
 obtain⟨r',hf',r1,r2⟩:=CK.step hk (CK.zip hv) .nil hf
 have rd:BU σ (De names dV) (De names dv):=by unfold De;rw[hd.len];exact I8 hd _
 have em:Cy names dv r'.1=Cy names dV slots:=by
  unfold Cy
  rw[rd.len]
  exact congrArg (fun z=> !(List.filter z _).isEmpty) (funext fun n=>r1.isNone)
 exact⟨_,_,B8.mk ⟨r'.1,by rw[hv.len];exact hl,hf',by rw[em];exact hm,rfl⟩,CK.pick (by unfold Ig;rw[rd.len];exact CK.fill (CK.zip rd) r1) _,r2⟩
end
end
section
noncomputable def um:Flow→Value
 | .ret v=>v
 |_=> .none
section
variable{M:Model}{A:Around}{E:Value→Shared→Prop}{s':Shared}{base g g₂ h:Heap}{outer:List Env}{L a e t:Addr}{m:Str→Option Value}{name:Str}{scope:Scope}{cd:Value}{cl:List (Str×Addr)}{Q:Unit→Shared→Prop}{news:List (Addr×Obj)}
theorem IX{cls:Value}{vs:List Value}(K:Below A base outer g)(hx:Heap.MadeExcOf h s'.heap e cls vs)(F:Fr g L h m)(N:News g L h news)
  (hQ:∀h' t,RaisedK base outer e cls t vs news h'→g.UpToSlots h'→Q () {s' with heap:=h'}) (hk:scope.kind= .function):
  wpAny M (A.deeper (envX name scope L a cd cl)) («leaving» (envX name scope L a cd cl) (.ref e)) Q E s':=by
 have K':=pushX (env:=envX name scope L a cd cl) K F rfl hk
 have hin:∀env∈(envX name scope L a cd cl::outer),∀b,env.frame=some b→b∈(envX name scope L a cd cl::outer).filterMap (·.frame):=fun env he b hb=>List.mem_filterMap.mpr ⟨env,he,hb⟩
 have st:base.StaysIn (hideAll h ((envX name scope L a cd cl::outer).filterMap (·.frame))):=fun b o q=>hideAll_get _ (K'.stays b o q) fun hm=>by
  rw[(K'.frames.mem hm).1] at q;cases q
 have hl:∀q∈news,(hideAll h ((envX name scope L a cd cl::outer).filterMap (·.frame))).get? q.1=some q.2∧base.get? q.1=none:=fun q hq=>by
  refine⟨hideAll_get _ (N q hq).1 fun hm=> ?_,fresh_of_stays K.stays (N q hq).2.2⟩
  obtain⟨env,he,hf⟩:=List.mem_filterMap.mp hm
  rcases List.mem_cons.mp he with rfl|he
  ·exact(N q hq).2.1 (oJ hf).symm
  ·obtain⟨o,ho,_⟩:=(K.frames.mem (List.mem_filterMap.mpr ⟨env,he,hf⟩)).2
   rw[(N q hq).2.2] at ho;cases ho
 exact wpAny_leaves_madeW K'.stack rfl (fun b o q=>of_hideAll _ q) (funFrames_hide K'.frames hin) hx fun h' t x1 x2 x3 x4=>
  hQ h' t ⟨⟨_,st,hl,x1,x3⟩,x2⟩ (((Heap.UpToSlots.of_keeps F.keep).trans (Heap.UpToSlots.of_keeps hx.keeps)).trans x4)
theorem Ml{cls:Value}{vs:List Value}(K:Below A base outer g)(F:Fr g L g₂ m)(R:RaisedK base (envX name scope L a cd cl::outer) e cls t vs news s'.heap)(hsm:g₂.UpToSlots s'.heap)
  (hQ:∀h',RaisedK base outer e cls t vs news h'→g.UpToSlots h'→Q () {s' with heap:=h'}):
  wpAny M (A.deeper (envX name scope L a cd cl)) («leaving» (envX name scope L a cd cl) (.ref e)) Q E s':=by
 obtain⟨⟨B,hB,hl,hfl,hnew⟩,htup⟩:=R
 exact wpAny_leaves_onW (Around.frames_deeper K.stack) rfl hfl fun h' x1 x2=>hQ h' ⟨⟨B,hB,hl,x1,hnew⟩,htup.of_slots x2⟩ ((Heap.UpToSlots.of_keeps F.keep).trans (hsm.trans x2))
end
section
variable{prog:Program}{w:World}{A₀ A:Around}{E:Value→Shared→Prop}{s:Shared}{base h₀:Heap}{outer:List Env}{L:Addr}{m:Str→Option Value}{env:Env}{news:BK}{K:Frag}
 {R:Result→Shared→Prop} {qual:Str} {body:List Stmt} {scope:Scope} {cdv:Value} {f:Addr} {binds:List (Str×Value)}
theorem Q1(B:Below A₀ base outer h₀)(F:Fr h₀ L s.heap m)(N:News h₀ L s.heap news)(hlim:h₀.NoLimit)(hA:A.frames=some (env::outer))(hf:env.frame=some L)(hke:env.scope.kind= .function)
  (hkind:∀n,∀x∈binds,scope.names.lookup x.1=some .local∨(scope.names.lookup x.1=some .cell∧((cellsFrom n scope.names []).lookup x.1).isSome=true))
  (hnd:((cellsFrom 0 scope.names []).map (·.1)).Nodup)
  (h:∀g L' h₁ tk cells,Fr h₀ L g m→Fr g L' h₁ (bindL (envOfC qual scope L' f cdv).kindOf binds fun _=>none)→News g L' h₁ (cells++news)→
   CellsAre (bindC (envOfC qual scope L' f cdv).kindOf binds fun _=>none) (cellsFrom (L'+1) scope.names []) cells→Below A base (env::outer) g→h₀.StaysIn g→(∀p∈news,p.1<L')→(∀p∈cells,L'<p.1)→
   wpAny (model prog w) (A.deeper (envOfC qual scope L' f cdv)) (execs body (envOfC qual scope L' f cdv))
    (fun fl s'=>LeaveK h₀ L m g R (um fl) s')
    (fun e s'=>wpAny (model prog w) (A.deeper (envOfC qual scope L' f cdv)) («leaving» (envOfC qual scope L' f cdv) e) (fun _ s''=>R (.error e) s'') (fun e' s''=>R (.error e') s'') s')
    {s with heap:=h₁,toks:=tk})
  (hk:scope.kind= .function):
  wpAny (model prog w) A.in1 (newFunctionEnv scope mainGlobals [] binds (qual++".<locals>.") (some f) cdv none builtinsNs) (fun env' s₂=>s₂.heap.NoLimit∧codeAny (model prog w) A (.func body env') R s₂) E s:=by
 obtain⟨FG,BG,st,lv⟩:=groundX (R:=R) B F N hA hf hke
 refine wpAny_newFunctionEnv_cells hk (hkind _) fun env' he s' x=> ?_
 subst he
 refine⟨(hlim.keeps F.keep).keeps x.toInCall.keep,codeAny_func ?_⟩
 obtain⟨h₁,tk,rfl,_⟩:=x.done
 have hk₁:=x.toInCall.keep
 obtain⟨cells,NC,Y⟩:=Cl.news (h₀:=s.heap) (Nat.le_refl _) fun n c hm=>⟨x.cell n c (lookup_of_mem_nodup (cellsFrom_names scope.names 0 (s.heap.objs.size+1) [] [] rfl▸hnd) hm),x.above n c hm⟩
 have above:∀{cs:List (Str×Addr)} {cells:BK} {cm:Str→Option Value},CellsAre cm cs cells→(∀n c,(n,c)∈cs→s.heap.objs.size<c)→∀p∈cells,s.heap.objs.size<p.1:=by
  intro cs cells cm y
  induction y with
  |nil=>intro _ p hp;cases hp
  |cons hd r ih=>
   intro hab p hp
   rcases List.mem_cons.mp hp with rfl|hp
   ·exact hab _ _ (.head _)
   ·exact ih (fun n c hm=>hab n c (.tail _ hm)) p hp
 refine wpAny_mono (h _ s.heap.objs.size h₁ tk cells FG ⟨x.toInCall.ns,fun b o e=>hk₁ b o (of_hideAll _ e),Nat.le_of_eq (hideAll_size _ _)⟩ (fun p hp=> ?_) Y BG st (fun p hp=>Heap.lt_size (N p hp).1) (above Y fun n c hm=>x.above n c hm)) (fun fl s' hl=>lv _ _ hl) fun _ _ y=>y
 rcases List.mem_append.mp hp with hp|hp
 ·refine⟨(NC p hp).1,(NC p hp).2.1,?_⟩
  cases q:(hideAll s.heap (news.map (·.1))).get? p.1 with
  |none=>rfl
  |some o=>have:=of_hideAll _ q;rw[(NC p hp).2.2] at this;cases this
 ·exact⟨hk₁ _ _ (N p hp).1,Nat.ne_of_lt (Heap.lt_size (N p hp).1),hideAll_none _ (List.mem_map_of_mem hp)⟩
end
noncomputable def RE(K:Frag):Value→Option (List V)
 | .none=>some []
 | .ref t=>(match K.lookup t with
  |some o=>(match o.data with| .seq xs _=>xs.toList.mapM JA|_=>none)
  |none=>none)
 |_=>none
noncomputable def Dc(sc:Scope)(x:Str):Bool:=sc.names.lookup x==some NameKind.local||(sc.names.lookup x==some NameKind.cell&&((cellsFrom 0 sc.names []).lookup x).isSome)
noncomputable def FJ(K:Frag)(fd:FuncData):Bool:=
 (fd.globals==mainGlobals&&(fd.builtins==builtinsNs&&(fd.closure.isEmpty&&codeIn K fd.code fd.qualname)))&&
 ((!fd.scope.isCoroutine&&(!fd.scope.isGenerator&&fd.scope.kind== .function))&&((fd.params.posonlyargs.isEmpty&&(fd.params.kwonlyargs.isEmpty&&fd.params.vararg.isNone))&&
 ((decide ((fd.params.args.map (·.arg)++(fd.params.kwarg.map (·.arg)).toList).Nodup)&&(fd.params.args.map (·.arg)++(fd.params.kwarg.map (·.arg)).toList).all (Dc fd.scope))&&decide (((cellsFrom 0 fd.scope.names []).map (·.1)).Nodup))))
noncomputable def Br(Q:VQ)(X:XQ):A5:={next:=fun _ C=>Q .none C,ret:=Q,exc:=fun c _ C=>X c C}
def A4(Γ:EC)(N:Nat)(f:Nat)(Vs:List V)(Kw:List (Str×V))(C:List AB)(Q:VQ)(X:XQ):Prop:=match Γ.K.lookup f with
 |some ⟨_,_,.func fd,_⟩=>(match fd.body with
  | .stmts body=>AD (FJ Γ.K fd&& !Γ.hd&& !Γ.tr&& !Γ.top)<|AF (RE Γ.K fd.defaults) fun dV=>AF (B8 (fd.params.args.map (·.arg)) dV fd.params.kwarg.isSome Vs Kw) fun r=>(match fd.params.kwarg with
   |none=>Av (Γ.sS fd.scope) N body r.1 C (Br Q X)
   |some a=>AD (decide ((r.2.map (·.1)).Nodup)&&decide (r.2.length≤900))<|Av (Γ.sS fd.scope) N body (r.1++[(a.arg,.obj C.length)]) (C++[.dict r.2]) (Br Q X))
  |_=>False)
 |_=>False
structure z6(K:Frag)(fd:FuncData):Prop where
 glo:fd.globals=mainGlobals
 blt:fd.builtins=builtinsNs
 clo:fd.closure=[]
 code:codeIn K fd.code fd.qualname=true
 co:fd.scope.isCoroutine=false
 gen:fd.scope.isGenerator=false
 kind:fd.scope.kind= .function
 po:fd.params.posonlyargs=[]
 ko:fd.params.kwonlyargs=[]
 va:fd.params.vararg=none
 nd:(fd.params.args.map (·.arg)++(fd.params.kwarg.map (·.arg)).toList).Nodup
 ok:(fd.params.args.map (·.arg)++(fd.params.kwarg.map (·.arg)).toList).all (Dc fd.scope)=true
 cells:((cellsFrom 0 fd.scope.names []).map (·.1)).Nodup
theorem FJ.ok{K:Frag}{fd:FuncData}(h:FJ K fd=true):z6 K fd:=
 have h:=AZ h
 have a:=AZ h.1
 have a2:=AZ a.2
 have a3:=AZ a2.2
 have b:=AZ h.2
 have c:=AZ b.1
 have c2:=AZ c.2
 have d:=AZ b.2
 have e:=AZ d.1
 have e2:=AZ e.2
 have i:=AZ d.2
 have j:=AZ i.1
 ⟨bE a.1,bE a2.1,List.isEmpty_iff.mp a3.1,a3.2,Bn c.1,Bn c2.1,bE c2.2,List.isEmpty_iff.mp e.1,List.isEmpty_iff.mp e2.1,Option.isNone_iff_eq_none.mp e2.2,of_decide_eq_true j.1,j.2,of_decide_eq_true i.2⟩
section
variable{σ:Lg}
theorem OO{l:List Value}:∀{lv:List V},l.mapM JA=some lv→BU σ lv l:=by
 induction l with
 |nil=>exact fun h=>oJ h▸.nil
 |cons x l ih=>
  intro lv h
  rw[List.mapM_cons] at h
  cases hx:JA x with
  |none=>rw[hx] at h;exact AM h
  |some v=>
   rw[hx] at h
   cases hl:l.mapM JA with
   |none=>rw[hl] at h;exact AM h
   |some lv'=>rw[hl] at h;exact oJ h▸.cons (GU hx) (ih hl)
section
variable{kindOf:Str→Option NameKind}{x:Str}
theorem M7{l:List (Str×Value)}:∀{m:Str→Option Value},(∀p∈l,p.1≠x)→bindL kindOf l m x=m x:=by
 induction l with
 |nil=>exact fun _=>rfl
 |cons p r ih=>
  intro m h
  show bindL kindOf r (if kindOf p.1=some .local then fun y=>if y=p.1 then some p.2 else m y else m) x=m x
  rw[ih fun q hq=>h q (.tail _ hq)]
  by_cases k:kindOf p.1=some .local
  ·rw[if_pos k];exact if_neg fun e=>h p (.head _) e.symm
  ·rw[if_neg k]
theorem M9{l:List (Str×Value)}:∀{m:Str→Option Value},(∀p∈l,p.1≠x)→bindC kindOf l m x=m x:=by
 induction l with
 |nil=>exact fun _=>rfl
 |cons p r ih=>
  intro m h
  show bindC kindOf r (if kindOf p.1=some .local then m else fun y=>if y=p.1 then some p.2 else m y) x=m x
  rw[ih fun q hq=>h q (.tail _ hq)]
  by_cases k:kindOf p.1=some .local
  ·rw[if_pos k]
  ·rw[if_neg k];exact if_neg fun e=>h p (.head _) e.symm
theorem CK.keys{l:List (Str×V)}{l':List (Str×Value)}(h:CK σ l l'):l.map (·.1)=l'.map (·.1):=by
 induction h with
 |nil=>rfl
 |cons _ _ ih=>exact congrArg (List.cons _) ih
theorem PD{v:V}{l:List (Str×V)}{l':List (Str×Value)}(h:CK σ l l'):∀{m c:Str→Option Value},(l'.map (·.1)).Nodup→AP l x=some v→∃y,VR σ v y∧(kindOf x=some .local→bindL kindOf l' m x=some y)∧(kindOf x≠some .local→bindC kindOf l' c x=some y):=by
 induction h with
 |nil=>exact fun _ h=>AM h
 |cons r b ih=>
  rename_i z v0 y0 l l'
  intro m c nd h
  have nd:=List.nodup_cons.mp nd
  change(if z=x then some v0 else AP l x)=some v at h
  by_cases q:z=x
  ·rw[if_pos q] at h
   obtain rfl:=oJ h
   subst q
   have out:∀p∈l',p.1≠z:=fun p hp e=>nd.1 (mM ⟨p,hp,e⟩)
   refine⟨y0,r,fun k=> ?_,fun k=> ?_⟩
   ·show bindL kindOf l' (if kindOf z=some .local then fun y=>if y=z then some y0 else m y else m) z=_
    rw[M7 out,if_pos k];exact if_pos rfl
   ·show bindC kindOf l' (if kindOf z=some .local then c else fun y=>if y=z then some y0 else c y) z=_
    rw[M9 out,if_neg k];exact if_pos rfl
  ·rw[if_neg q] at h
   exact ih nd.2 h
end
theorem H6{cm:Str→Option Value}{x:Str}{c:Addr}{cs:List (Str×Addr)}{cells:BK}(h:CellsAre cm cs cells):cs.lookup x=some c→∃o,(c,o)∈cells∧o.data= .cell (cm x):=by
 induction h with
 |nil=>exact AM
 |cons hd r ih=>
  rename_i n _ _ _ _
  intro h
  rw[List.lookup_cons] at h
  cases q:x==n with
  |true=>rw[q] at h;obtain rfl:=oJ h;rw[bE q];exact⟨_,.head _,hd⟩
  |false=>rw[q] at h;obtain⟨o,a,b⟩:=ih h;exact⟨o,.tail _ a,b⟩
theorem HM{cm:Str→Option Value}{cs:List (Str×Addr)}{cells:BK}(h:CellsAre cm cs cells):cs.map (·.2)=cells.map (·.1):=by
 induction h with
 |nil=>rfl
 |cons _ _ ih=>exact congrArg (List.cons _) ih
end
theorem Jc{α:Type}{x:Str}{c:α}{cs:List (Str×α)}:cs.lookup x=some c→(x,c)∈cs:=by
 induction cs with
 |nil=>exact AM
 |cons p r ih=>
  intro h
  rw[List.lookup_cons] at h
  cases q:x==p.1 with
  |true=>rw[q] at h;obtain rfl:=oJ h;rw[bE q];exact .head _
  |false=>rw[q] at h;exact .tail _ (ih h)
theorem Vt{cs:List (Str×Addr)}(nd:(cs.map (·.2)).Nodup):∀x y a,cs.lookup x=some a→cs.lookup y=some a→x=y:=fun x y a h1 h2=>by
 have m1:=Jc h1
 have m2:=Jc h2
 clear h1 h2
 induction cs with
 |nil=>exact nomatch m1
 |cons p r ih=>
  have nd:=List.nodup_cons.mp nd
  rcases List.mem_cons.mp m1 with e1|m1'<;>rcases List.mem_cons.mp m2 with e2|m2'
  ·exact congrArg Prod.fst (e1.trans e2.symm)
  ·exact absurd (mM ⟨_,m2',(congrArg Prod.snd e1:a=p.2)⟩) nd.1
  ·exact absurd (mM ⟨_,m1',(congrArg Prod.snd e2:a=p.2)⟩) nd.1
  ·exact ih nd.2 m1' m2'
theorem Mj{x:Str}{l:List (Str×Addr)}:∀{l':List (Str×Addr)},l.map (·.1)=l'.map (·.1)→(l.lookup x).isSome=(l'.lookup x).isSome:=by
 induction l with
 |nil=>intro l' h;cases l' with
  |nil=>rfl
  |cons _ _=>exact nomatch h
 |cons p l ih=>
  intro l' h
  cases l' with
  |nil=>exact nomatch h
  |cons q l'=>
   have h:=List.cons.inj h
   rw[List.lookup_cons,List.lookup_cons,show p.1=q.1 from h.1]
   cases x==q.1
   ·exact ih h.2
   ·rfl
theorem D3(names:List (Str×NameKind)):∀(n:Nat) (acc:List (Str×Addr)),(∀p∈acc,p.2<n)→(acc.map (·.2)).Nodup→((cellsFrom n names acc).map (·.2)).Nodup:=by
 induction names with
 |nil=>exact fun _ _ _ h=>h
 |cons q r ih=>
  obtain⟨x,k⟩:=q
  intro n acc hl h
  unfold cellsFrom
  split
  ·refine ih (n+1) _ (fun p hp=> ?_) (List.nodup_cons.mpr ⟨fun q=> ?_,h⟩)
   ·rcases List.mem_cons.mp hp with rfl|hp
    ·exact Nat.lt_succ_self _
    ·exact Nat.lt_succ_of_lt (hl p hp)
   ·obtain⟨p,hp,e⟩:=List.mem_map.mp q
    exact Nat.lt_irrefl _ (show n<n from(show p.2=n from e)▸hl p hp)
  ·exact ih n acc hl h
theorem KY{x:Str}{v:V}{m:AU}:AP m x=some v→x∈m.map (·.1):=by
 induction m with
 |nil=>exact AM
 |cons p m ih=>
  intro h
  change(if p.1=x then some p.2 else AP m x)=some v at h
  by_cases q:p.1=x
  ·exact mM ⟨p,.head _,q⟩
  ·rw[if_neg q] at h;exact .tail _ (ih h)
theorem CT{base:Heap}{l:List Env}{e t:Addr}{cls:Value}{vs:List Value}{news news':BK}{h:Heap}(R:RaisedK base l e cls t vs news h)(hs:news'⊆news):RaisedK base l e cls t vs news' h:=
 let⟨⟨B,hB,hl,hfl,hnew⟩,htup⟩:=R;⟨⟨B,hB,fun q hq=>hl q (hs hq),hfl,hnew⟩,htup⟩
end
section
section
variable{M:Model}{A:Around}{env:Env}{E E':Value→Shared→Prop}
theorem M3(h:∀e s,E e s→E' e s){e:Value}{s:Shared}(x:cameBackBy M A env E e s):cameBackBy M A env E' e s:=wpAny_mono x (fun _ s' q=>h e s' q) h
theorem KR(h:∀e s,E e s→E' e s){e:Value}{s:Shared}(x:notedBy M A env E e s):notedBy M A env E' e s:=wpAny_mono x (fun _ s' q=>h e s' q) h
end
section
variable{g:Gx}{x:Sx}{sc:Scope}{X:String→AU→List AB→Prop}{σ:Lg}
theorem EF{os zc z W:BK}:(os++(z++W)).Sublist (os++(zc++z++W)):=
 (List.Sublist.refl os).append (by rw[List.append_assoc];exact List.sublist_append_right ..)
theorem Ey.sub{b b':Bs}{C:List AB}{os:BK}{s:Shared}(k:Ey g b C σ os s)(h:(os++(b'.z++σ.W)).Sublist (os++(b.z++σ.W)))(e:b'.g=b.g∧b'.d=b.d∧b'.o=b.o):Ey g b' C σ os s:=
 ⟨k.c,k.nd.sublist (h.map _),k.g.trans e.1.symm,k.d.trans e.2.1.symm,k.o.trans e.2.2.symm⟩
theorem E6{A₁:Around}(eA:x.A=A₁.deeper (x.env sc))(B:Below A₁ x.base x.outer x.h₀)(hk:sc.kind= .function){ev:Value}{s':Shared}(h:Aq g x sc false X σ ev s'):
  wpAny g.M x.A («leaving» (x.env sc) ev) (fun _ s''=>HU g x X σ ev s'') (fun _ _=>False) s':=by
 rcases h with⟨e,cls,τ,C',os,hp,m',rfl,hr,F₂,ex,k,hl',na,q⟩|⟨_,q⟩
 case out=>exact q
 have k2:Ey g x.b C' τ.σ os s':=k.sub EF ⟨rfl,rfl,rfl⟩
 rw[eA]
 rcases hr with⟨t,vs,R,U⟩|⟨vs,_,hx,N₂⟩
 ·exact Ml B F₂ R U fun h'' R' U'=>⟨e,t,cls,vs,τ.σ,C',os,m',rfl,CT R' EF.subset,U',ex,⟨k2.c,k2.nd,k2.g,k2.d,k2.o⟩,na,q⟩
 ·exact IX B hx F₂ N₂ (fun h'' t R' U'=>⟨e,t,cls,vs,τ.σ,C',os,m',rfl,CT R' EF.subset,U',ex,⟨k2.c,k2.nd,k2.g,k2.d,k2.o⟩,na,q⟩) hk
theorem E5{A₁:Around}(eA:x.A=A₁.deeper (x.env sc))(B:Below A₁ x.base x.outer x.h₀)(hk:sc.kind= .function):PassesOwn g.M x.A (x.env sc) (Aq g x sc false X σ):=fun e s' h=>
 KR (fun e s h=>M3 (fun e s q=> .out rfl q) h) (PassesOwn.leaving e s' (E6 eA B hk h))
theorem Dx{p:Addr×Obj}{os zc z W:BK}:(os++(zc++z++W)).Sublist (os++(zc++(p::z)++W)):=
 (List.Sublist.refl os).append (((List.Sublist.refl zc).append (List.sublist_cons_self p z)).append (List.Sublist.refl W))
theorem Aq.zdrop{p:Addr×Obj}{tr:Bool}{ev:Value}{s':Shared}(h:Aq g (x.wz (p::x.b.z)) sc tr X σ ev s'):Aq g x sc tr X σ ev s':=by
 rcases h with⟨e,cls,τ,C',os,hp,m',rfl,hr,F₂,ex,k,hl',na,q⟩|⟨ht,q⟩
 ·refine .mk e cls τ C' os hp m' rfl ?_ F₂ ex (k.sub Dx ⟨rfl,rfl,rfl⟩) hl' na q
  rcases hr with⟨t,vs,R,U⟩|⟨vs,ht,hx,N₂⟩
  ·exact .call t vs (CT R Dx.subset) U
  ·exact .made vs ht hx fun y hy=>N₂ y (Dx.subset hy)
 ·refine .out ht (wpAny_mono q (fun _ s2 q=> ?_) fun _ _ f=>f)
  obtain⟨e,t,cls,vs,σ',C',os,m',rfl,R,U,ex,k,na,q2⟩:=q
  exact⟨e,t,cls,vs,σ',C',os,m',rfl,CT R (Dx (zc:=[])).subset,U,ex,k.sub (Dx (zc:=[])) ⟨rfl,rfl,rfl⟩,na,q2⟩
end
section
variable{g:Gx}{x:Sx}{Γ:EC}{d n:Nat}{m:AU}{C:List AB}{Q:A5}{τ:Tx}{s:Shared}{σ σ0:Lg}{E:Value→Shared→Prop}
inductive zo(g:Gx)(x:Sx)(sc:Scope)(σ0:Lg)(I:Nat→AU→List AB→Prop)(k:Nat)(s:Shared):Prop
 |mk:∀τ m C,Am σ0 τ.σ→SS g x sc C τ s→SL x sc τ m→I k m C→zo g x sc σ0 I k s
theorem NO(H:HS g x Γ d){t:Expr}{bd:List Stmt}{pos:Pos}
  (hE:PassesOwn g.M x.A (x.env Γ.sc) E) (hE2:∀ev s σ,Am τ.σ σ→Aq g x Γ.sc Γ.tr Q.exc σ ev s→E ev s)
  (h:LG Γ n t bd m C Q) (S:SS g x Γ.sc C τ s) (hl:SL x Γ.sc τ m):wpAny g.M x.A (exec (.While t bd [] pos) (x.env Γ.sc)) (As g x Γ.sc Q τ.σ) E s:=by
 obtain⟨I,k,hI,turn⟩:=h
 refine wpAny_While (codeAny_whileLoop (zo g x Γ.sc τ.σ I) (fun k s hI=> ?_) k ⟨τ,m,C,.refl,S,hl,hI⟩)
 obtain⟨τ1,m,C,e1,S,hl,hI⟩:=hI
 refine wpAny_passesOwn hE (wpAny_mono ((H.e τ1 n).t (turn k m C hI) S hl) (fun c s1 q=> ?_) fun ev s1 q=>hE2 _ _ τ1.σ e1 (q.up .refl hl))
 obtain⟨σ2,C2,e2,S2,h2⟩:=q
 have S2:SS g x Γ.sc C2 (τ1.wσ σ2) s1:=S2
 have hl2:SL x Γ.sc (τ1.wσ σ2) m:=hl.ext e2
 have e12:=e1.trans e2
 cases c with
 |true=>
  refine Eq.mpr (if_pos rfl) ?_
  refine wpAny_passesOwn hE (wpAny_mono ((GX n x Γ H).ss h2 S2 hl2) (fun fl s2 q=> ?_) fun ev s2 q=>hE2 _ _ σ2 e12 q)
  obtain⟨τ3,C3,e3,S3,q⟩:=q
  cases fl with
  |next=>obtain⟨m3,hl3,j,hj,q⟩:=q;exact⟨j,hj,τ3,m3,C3,e12.trans e3,S3,hl3,q⟩
  |cont=>obtain⟨m3,hl3,j,hj,q⟩:=q;exact⟨j,hj,τ3,m3,C3,e12.trans e3,S3,hl3,q⟩
  |brk=>exact⟨τ3,C3,e12.trans e3,S3,q⟩
  |ret v=>exact⟨τ3,C3,e12.trans e3,S3,q⟩
 |false=>
  refine Eq.mpr (if_neg Bool.false_ne_true) ?_
  exact wpAny_execs_nil ⟨τ1.wσ σ2,C2,e12,S2,m,hl2,h2⟩
theorem KQ{ts:Expr}{I:Addr}{v:Value}{o:Obj}{Q:Unit→Shared→Prop}{M:Model}{A:Around}(ho:s.heap.get? I=some o)(hn:∃n vs,o.cls= .type n∧o.data= .fields vs∧(["enumerate","zip","dict_itemiterator","dict_reverseitemiterator","odict_iterator","itertools.zip_longest","itertools.pairwise"]:List String).contains n=false)(h:Q () s):
  wpAny M A (letOwnedTupleGo ts (.ref I) v) Q E s:=by
 obtain⟨n,vs,h1,h2,h3⟩:=hn
 unfold letOwnedTupleGo
 split
 all_goals first|exact wpAny_pure h|skip
 all_goals
  cases v<;>first|exact wpAny_pure h|skip
  refine wpAny_bind (wpAny_load ho ?_)
  rw[h1,h2]
  dsimp only
  rw[h3]
  exact wpAny_pure h
theorem Er(v:V)(C:List AB):FD v C C:=by cases v<;>first|trivial|rfl
theorem Ls{xs:List V}{j:Nat}{y:V}(h:xs[j]? =some y):j<xs.length∧xs.drop j=y::xs.drop (j+1):=by
 obtain⟨hlt,e⟩:=List.getElem?_eq_some_iff.mp h
 exact⟨hlt,(List.drop_eq_getElem_cons hlt).trans (congrArg (·::_) e)⟩
theorem Hu{n j:Nat}(h:j<n):n+1 - (j+1)<n+1 - j:=Nat.sub_lt_sub_left (Nat.lt_succ_of_lt h) (Nat.lt_succ_self j)
inductive NI(g:Gx)(x:Sx)(Γ:EC)(n:Nat)(t:Expr)(bd:List Stmt)(Q:A5)(σ0:Lg){σ1:Lg}{kp:List AB→Prop}{xs:List V}(T:Ex g σ1 kp xs)(I:Addr)(k:Nat)(s:Shared):Prop
 |mk:∀j o τ m C,k=xs.length+1 - j→j≤xs.length→T.obj j o→Am σ0 τ.σ→Am σ1 τ.σ→SS g (x.wz ((I,o)::x.b.z)) Γ.sc C τ s→SL x Γ.sc τ m→kp C→Jp kp (Dd Γ n t bd Q) (xs.drop j) m C Q.next→NI g x Γ n t bd Q σ0 T I k s
theorem SS.in{sc:Scope}{p:Addr×Obj}(S:St g ((x.f sc τ).wz (p::(τ.zc++x.b.z))) C σ s):SS g (x.wz (p::x.b.z)) sc C (τ.wσ σ) s:=St.zperm (f:=x.f sc τ) (z:=p::(τ.zc++x.b.z)) (z':=τ.zc++(p::x.b.z)) S List.perm_middle.symm
theorem SS.out{sc:Scope}{p:Addr×Obj}(S:SS g (x.wz (p::x.b.z)) sc C τ s):St g ((x.f sc τ).wz (p::(τ.zc++x.b.z))) C τ.σ s:=St.zperm (f:=x.f sc τ) (z:=τ.zc++(p::x.b.z)) (z':=p::(τ.zc++x.b.z)) S List.perm_middle
theorem SS.drop{sc:Scope}{p:Addr×Obj}(S:SS g (x.wz (p::x.b.z)) sc C τ s):SS g x sc C τ s:=St.zdrop (f:=x.f sc τ) (SS.out S)
theorem HS.wz(H:HS g x Γ d)(z:BK):HS g (x.wz z) Γ d:=⟨H.hk,fun τ=>⟨by cases(H.Mf τ).fr with|mk A₀ env outer e1 e2 e3 B=>exact⟨A₀,env,outer,e1,e2,e3,B⟩,(H.Mf τ).hA,(H.Mf τ).X,(H.Mf τ).T,(H.Mf τ).room,(H.Mf τ).units,(H.Mf τ).hh⟩,H.hB,H.HF,H.HC,H.HA,H.HL,H.HLT,H.HT⟩
theorem Jo(H:HS g x Γ d){t:Expr}{bd:List Stmt}{σ1:Lg}{kp:List AB→Prop}{xs:List V}{T:Ex g σ1 kp xs}{I:Addr}{j:Nat}{o':Obj}
  (hE:PassesOwn g.M x.A (x.env Γ.sc) E) (hE2:∀ev s σ,Am σ0 σ→Aq g x Γ.sc Γ.tr Q.exc σ ev s→E ev s) (hlt:j<xs.length) (ho':T.obj (j+1) o') (e0:Am σ0 τ.σ) (e1:Am σ1 τ.σ)
  (hv:Av Γ n bd m C (Q.sL fun m C=>kp C∧Jp kp (Dd Γ n t bd Q) (xs.drop (j+1)) m C Q.next)) (S:SS g (x.wz ((I,o')::x.b.z)) Γ.sc C τ s) (hl:SL x Γ.sc τ m):
  wpAny g.M x.A (execs bd (x.env Γ.sc)) (fun f s₃=>match f with
      | .next| .cont=>∃m,m<xs.length+1 - j∧NI g x Γ n t bd Q σ0 T I m s₃
      | .brk=>As g x Γ.sc Q σ0 .next s₃
      | .ret v=>As g x Γ.sc Q σ0 (.ret v) s₃) (notedBy g.M x.A (x.env Γ.sc) fun e s'=>cameBackBy g.M x.A (x.env Γ.sc) E e s') s:=by
 refine wpAny_passesOwn hE (wpAny_mono ((GX n (x.wz ((I,o')::x.b.z)) Γ (H.wz _)).ss hv S hl) (fun fl s5 q=> ?_) fun ev s5 q=>hE2 _ _ τ.σ e0 (Aq.zdrop q))
 obtain⟨τ6,C6,e6,S6,q⟩:=q
 have again:∀m2,SL x Γ.sc τ6 m2→kp C6∧Jp kp (Dd Γ n t bd Q) (xs.drop (j+1)) m2 C6 Q.next→∃m,m<xs.length+1 - j∧NI g x Γ n t bd Q σ0 T I m s5:=fun m2 hl2 q=>⟨xs.length+1 - (j+1),Hu hlt,.mk (j+1) o' τ6 m2 C6 rfl hlt ho' (e0.trans e6) (e1.trans e6) S6 hl2 q.1 q.2⟩
 cases fl with
 |next=>obtain⟨m2,hl2,q⟩:=q;exact again m2 hl2 q
 |cont=>obtain⟨m2,hl2,q⟩:=q;exact again m2 hl2 q
 |brk=>obtain⟨m2,hl2,q⟩:=q;exact⟨τ6,C6,e0.trans e6,S6.drop,m2,hl2,q⟩
 |ret v=>exact⟨τ6,C6,e0.trans e6,S6.drop,q⟩
theorem Dw{it:Expr}{env:Env}{y:Value}:(h:Gp it=true)→foldedSetIterable it env y=pure y:=by cases it<;>first|exact fun _=>rfl|exact BQ
theorem TH{t:Expr}{G:Expr→Prop}{bd:List Stmt}{y:V}{K:AU→List AB→Prop}(k1:∀z p,(AD (Cz Γ z)<|Av Γ n bd (Ae m z y) C (Q.sL K))→G (.Name z p))
  (k2:∀ts k p,(AD (ts.all Az)<|AF (IH y) fun l=>AD (l.length==ts.length)<|FT Γ n ts l m C (Q.sN fun m C=>Av Γ n bd m C (Q.sL K)))→G (.Tuple ts k p)):(h:Dd Γ n t bd Q y m C K)→G t:=by
 cases t with
 |Name z p=>exact k1 z p
 |Tuple ts k p=>exact k2 ts k p
 |_=>exact fE
theorem Oq(H:HS g x Γ d){t:Expr}{bd:List Stmt}{σ1:Lg}{kp:List AB→Prop}{xs:List V}{T:Ex g σ1 kp xs}{I:Addr}{j:Nat}{o':Obj}{z:Str}{p:Pos}{y:V}{v:Value}
  (hE:PassesOwn g.M x.A (x.env Γ.sc) E) (hE2:∀ev s σ,Am σ0 σ→Aq g x Γ.sc Γ.tr Q.exc σ ev s→E ev s) (hlt:j<xs.length) (ho':T.obj (j+1) o') (e0:Am σ0 τ.σ) (e1:Am σ1 τ.σ)
  (hf:AD (Cz Γ z)<|Av Γ n bd (Ae m z y) C (Q.sL fun m C=>kp C∧Jp kp (Dd Γ n t bd Q) (xs.drop (j+1)) m C Q.next)) (S:SS g (x.wz ((I,o')::x.b.z)) Γ.sc C τ s) (hl:SL x Γ.sc τ m) (rx:VR τ.σ y v):
  wpAny g.M x.A (assign (.Name z p) (x.env Γ.sc) v) (fun _ s=>wpAny g.M x.A (execs bd (x.env Γ.sc)) (fun f s₃=>match f with
      | .next| .cont=>∃m,m<xs.length+1 - j∧NI g x Γ n t bd Q σ0 T I m s₃
      | .brk=>As g x Γ.sc Q σ0 .next s₃
      | .ret v=>As g x Γ.sc Q σ0 (.ret v) s₃) (notedBy g.M x.A (x.env Γ.sc) fun e s'=>cameBackBy g.M x.A (x.env Γ.sc) E e s') s) (notedBy g.M x.A (x.env Γ.sc) fun e s'=>cameBackBy g.M x.A (x.env Γ.sc) E e s') s:=by
 obtain⟨hx,hf⟩:=AD.ok hf
 exact PyProof.Rows.assign_Name (IL (x:=x.wz ((I,o')::x.b.z)) H.hk hx S hl rx e0 fun τ3 s4 e3 d3 S5 hl5=>Jo H hE hE2 hlt ho' e3 (e1.trans d3) hf S5 hl5)
theorem Q2(H:HS g x Γ d)(hh:x.A.handled=none){t:Expr}{bd:List Stmt}{σ1:Lg}{kp:List AB→Prop}{xs:List V}{T:Ex g σ1 kp xs}{I:Addr}{j:Nat}{o':Obj}{ts:List Expr}{k:Nat}{p:Pos}{y:V}{v:Value}
  (hE:PassesOwn g.M x.A (x.env Γ.sc) E) (hE2:∀ev s σ,Am σ0 σ→Aq g x Γ.sc Γ.tr Q.exc σ ev s→E ev s) (hlt:j<xs.length) (ho':T.obj (j+1) o') (e0:Am σ0 τ.σ) (e1:Am σ1 τ.σ)
  (hf:AD (ts.all Az)<|AF (IH y) fun l=>AD (l.length==ts.length)<|FT Γ n ts l m C (Q.sN fun m C=>Av Γ n bd m C (Q.sL fun m C=>kp C∧Jp kp (Dd Γ n t bd Q) (xs.drop (j+1)) m C Q.next))) (S:SS g (x.wz ((I,o')::x.b.z)) Γ.sc C τ s) (hl:SL x Γ.sc τ m) (rx:VR τ.σ y v):
  wpAny g.M x.A (assign (.Tuple ts k p) (x.env Γ.sc) v) (fun _ s=>wpAny g.M x.A (execs bd (x.env Γ.sc)) (fun f s₃=>match f with
      | .next| .cont=>∃m,m<xs.length+1 - j∧NI g x Γ n t bd Q σ0 T I m s₃
      | .brk=>As g x Γ.sc Q σ0 .next s₃
      | .ret v=>As g x Γ.sc Q σ0 (.ret v) s₃) (notedBy g.M x.A (x.env Γ.sc) fun e s'=>cameBackBy g.M x.A (x.env Γ.sc) E e s') s) (notedBy g.M x.A (x.env Γ.sc) fun e s'=>cameBackBy g.M x.A (x.env Γ.sc) E e s') s:=by
 refine uf fun G hG=> ?_
 obtain⟨hpl,hf⟩:=AD.ok hf
 obtain⟨l,hl',hf⟩:=AF.ok hf
 obtain⟨hz,hf⟩:=AD.ok hf
 obtain⟨ad,vs,n0,e,hm,hz',rs⟩:=NX rx hz hl'
 have itp:=SS.tup S hm
 cases S with|mk os F N q=>
 refine hG ?_
 rw[e]
 refine unpackN_ F N itp hh ?_ ?_ fun h' F' N'=> ?_
 ·rw[CG hpl,List.length_map]
  exact hz'.symm
 ·rw[CG hpl];exact HB
 ·rw[CG hpl,List.map_map]
  refine wpAny_passesOwn hE (wpAny_mono ((GX n (x.wz ((I,o')::x.b.z)) Γ (H.wz _)).ts hf (show SS g (x.wz ((I,o')::x.b.z)) Γ.sc C τ _ from⟨os,F',N',q.c,q.nd,q.g,q.d,q.o⟩) hl rs) (fun _ s5 q=> ?_) fun ev s5 q=>hE2 _ _ τ.σ e0 (Aq.zdrop q))
  obtain⟨τ6,C6,e6,S6,m6,hl6,q⟩:=q
  exact Jo H hE hE2 hlt ho' (e0.trans e6) (e1.trans e6) q S6 hl6
theorem V7(H:HS g x Γ d){t it:Expr}{bd:List Stmt}{pos:Pos}
  (hE:PassesOwn g.M x.A (x.env Γ.sc) E) (hE2:∀ev s σ,Am τ.σ σ→Aq g x Γ.sc Γ.tr Q.exc σ ev s→E ev s)
  (h:R8 Γ n t it bd m C Q) (S:SS g x Γ.sc C τ s) (hl:SL x Γ.sc τ m):wpAny g.M x.A (exec (.For t it bd [] pos) (x.env Γ.sc)) (As g x Γ.sc Q τ.σ) E s:=by
 obtain⟨hg,h⟩:=AD.ok h
 have hg:=AZ hg
 have hh:=(H.Mf τ).hh (Bn hg.2)
 refine wpAny_For (wpAny_mono ((H.e τ n).e h S hl) (fun y s1 q=> ?_) fun ev s1 q=>hE2 _ _ τ.σ .refl (q.up .refl hl)) (fun y=>Dw hg.1)
 obtain⟨σ1,V1,C1,e1,S1,r1,hok,h1⟩:=q
 obtain⟨xs,hxs,h2⟩:=AF.ok h1
 refine wpAny_mono (Ng S1 r1 hxs hok) (fun itv s2 q=> ?_) fun _ _ e=>e
 obtain⟨I,o,T,rfl,ho,S2⟩:=q
 refine codeAny_forLoop_any (NI g x Γ n t bd Q τ.σ T I) (fun k s hJ=> ?_) (xs.length+1) ⟨0,o,τ.wσ σ1,m,C1,rfl,Nat.zero_le _,ho,e1,.refl,SS.in S2,hl.ext e1,Er V1 C1,h2⟩
 obtain⟨j,o,τ2,m,C',rfl,hj,ho,ex,ex1,S,hl,hkp,hf⟩:=hJ
 refine wpAny_mono (T.next j x.A _ (x.f Γ.sc τ2) s C' τ2.σ I o (τ2.zc++x.b.z) hh ex1 hkp S.out ho hj) (fun r s3 q=> ?_) fun _ _ e=>e
 cases r with
 |none=>
  obtain⟨rfl,S3⟩:=q
  rw[List.drop_length] at hf
  exact wpAny_execs_nil ⟨τ2,C',ex,S3,m,hl,hf⟩
 |some v=>
  obtain⟨y,o',hx,rx,ho',S3⟩:=q
  obtain⟨hlt,hdrop⟩:=Ls hx
  rw[hdrop] at hf
  have S4:SS g (x.wz ((I,o')::x.b.z)) Γ.sc C' τ2 s3:=SS.in S3
  refine KQ (St.zmem S3 (p:=(I,o')) (.head _)).1 (T.cls _ _ ho') ?_
  exact TH (G:=fun t'=>wpAny g.M x.A (assign t' (x.env Γ.sc) v) _ _ s3) (fun z p hf=>Oq H hE hE2 hlt ho' ex ex1 hf S4 hl rx) (fun ts k p hf=>Q2 H hh hE hE2 hlt ho' ex ex1 hf S4 hl rx) hf
end
end
section
noncomputable def Fx.call(f:Fx)(A:Around)(fd:FuncData)(a:Addr)(h:Heap)(L:Addr)(cl:List (Str×Addr)):Sx:=⟨A.deeper (envX fd.qualname fd.scope L a fd.code cl),f.base,f.fs,h,L,f.b,fd.qualname,a,fd.code,cl⟩
section
variable{g:Gx}{f:Fx}{A:Around}{K:Frag}{d:Nat}{σ σ0:Lg}{s:Shared}{C:List AB}{Q:VQ}{X:XQ}
theorem Ep{sc:Scope}{n:Nat}{y:Str}(h:Dc sc y=true):sc.names.lookup y=some .local∨(sc.names.lookup y=some .cell∧((cellsFrom n sc.names []).lookup y).isSome=true):=by
 rcases Bool.or_eq_true_iff.mp h with q|q
 ·exact .inl (bE q)
 ·have q:=AZ q
  exact .inr ⟨bE q.1,by rw[Mj (cellsFrom_names sc.names n 0 [] [] rfl)];exact q.2⟩
theorem Ht{fd:FuncData}{a L:Addr}{binds:List (Str×Value)}{m:AU}{cells:BK}(hm:CK σ m binds)(hn:(binds.map (·.1)).Nodup)(hk:∀x∈binds,Dc fd.scope x.1=true)(Y:CellsAre (bindC (envOfC fd.qualname fd.scope L a fd.code).kindOf binds fun _=>none) (cellsFrom (L+1) fd.scope.names []) cells):
  A2 ⟨fd.scope,cellsFrom (L+1) fd.scope.names [],cells,bindL (envOfC fd.qualname fd.scope L a fd.code).kindOf binds fun _=>none⟩ σ m:=by
 refine⟨fun x v hx=> ?_,fun x hx=> ?_,Vt (D3 _ _ _ (fun p hp=>nomatch hp) .nil)⟩
 ·obtain⟨y,r,h1,h2⟩:=PD (kindOf:=(envOfC fd.qualname fd.scope L a fd.code).kindOf) (m:=fun _=>none) (c:=fun _=>none) hm hn hx
  refine⟨fun k=>⟨y,h1 k,r⟩,fun k=> ?_⟩
  have nl:fd.scope.names.lookup x≠some .local:=fun q=>by
   rcases k with k|k<;>exact(nomatch oJ (q.symm.trans k))
  obtain⟨pp,hpp,e⟩:=List.mem_map.mp (show x∈binds.map (·.1) from hm.keys▸KY hx)
  rcases Ep (n:=L+1) (e▸hk pp hpp:Dc fd.scope x=true) with q|⟨q,r'⟩
  ·exact absurd q nl
  ·obtain⟨c,hcl⟩:=Option.isSome_iff_exists.mp r'
   obtain⟨o,ho,hd⟩:=H6 Y hcl
   exact⟨c,o,y,hcl,ho,by rw[hd,h2 nl],r⟩
 ·obtain⟨c,hcl⟩:=Option.isSome_iff_exists.mp (cellsFrom_some (x:=x) fd.scope.names (L+1) [] (.inl hx))
  obtain⟨o,ho,hd⟩:=H6 Y hcl
  exact⟨c,o,_,hcl,ho,hd⟩
theorem Nl{fd:FuncData}{a L':Addr}{gh:Heap}{cl:List (Str×Addr)}{fl:Flow}{s':Shared}(q:As g (f.call A fd a gh L' cl) fd.scope (Br Q X) σ fl s'):LeaveK f.h₀ f.L f.μ gh (CX g f Q X σ) (um fl) s':=by
 obtain⟨τ,C,e,S,q⟩:=q
 have q:∃V,VR τ.σ V (um fl)∧Q V C:=by
  cases fl with
  |next=>obtain⟨m',_,q⟩:=q;exact⟨.none,.none,q⟩
  |ret v=>exact q
  |_=>obtain⟨m',_,q⟩:=q;exact fE q
 obtain⟨V,r,q⟩:=q
 cases S with|mk os F N k=>
 exact leaveK_ F N fun F₂ N₂=>⟨τ.σ,V,C,e,⟨os,F₂,fun y hy=>N₂ y (EF.subset hy),(k.sub (b':=f.b) EF ⟨rfl,rfl,rfl⟩).c,(k.sub (b':=f.b) EF ⟨rfl,rfl,rfl⟩).nd,k.g,k.d,k.o⟩,r,q⟩
theorem Ou{x:Sx}{ev:Value}{s':Shared}(FG:Fr f.h₀ f.L x.h₀ f.μ)(hb:x.b=f.b)(he:x.base=f.base)(ho:x.outer=f.fs)(q:HU g x (fun c _ C=>X c C) σ ev s'):Ab g f X σ ev s':=by
 obtain⟨e,t,cls,vs,σ',C',os,m',rfl,R,U,ex,k,na,q⟩:=q
 rw[hb] at R k
 rw[he,ho] at R
 exact⟨e,t,cls,vs,σ',C',os,x.h₀,rfl,R,FG,U,ex,k,na,q⟩
theorem Sb{fd:FuncData}{body:List Stmt}{a:Addr}{binds:List (Str×Value)}{m:AU}(M:Fm g K false (d+1) f A)(S:St g f C σ s)(hc:z6 K fd)(hm:CK σ m binds)(hn:(binds.map (·.1)).Nodup)(hk:∀x∈binds,Dc fd.scope x.1=true)
  (h:∀(gh:Heap) (L':Addr) (cl:List (Str×Addr)) (τ:Tx) (s₁:Shared),τ.σ=σ→(∀τ,Fm g K false d ((f.call A fd a gh L' cl).f fd.scope τ) (f.call A fd a gh L' cl).A)→Below A f.base f.fs gh→
   SS g (f.call A fd a gh L' cl) fd.scope C τ s₁→SL (f.call A fd a gh L' cl) fd.scope τ m→
   wpAny g.M (f.call A fd a gh L' cl).A (execs body ((f.call A fd a gh L' cl).env fd.scope)) (As g (f.call A fd a gh L' cl) fd.scope (Br Q X) τ.σ) (Aq g (f.call A fd a gh L' cl) fd.scope false (fun c _ C=>X c C) τ.σ) s₁):
  wpAny g.M A.in1 (newFunctionEnv fd.scope fd.globals fd.closure binds (fd.qualname++".<locals>.") (some a) fd.code none fd.builtins) (fun env' s₂=>s₂.heap.NoLimit∧codeAny g.M A (.func body env') (CX g f Q X σ) s₂) (fun e s'=>Ab g f X σ e s') s:=by
 rw[hc.glo,hc.blt,hc.clo]
 refine uf fun G hG=> ?_
 obtain⟨A₀,env,outer,efs,hf,hke,B⟩:=M.fr
 cases S with|mk os F N k=>
 refine hG (Q1 B F N M.T.nolimit (efs▸M.hA) hf hke (fun n x hx=>Ep (hk x hx)) hc.cells (fun gh L' h₁ tk cells FG F' N' Y B' st hlt hgt=> ?_) hc.kind)
 have pm:(cells++(os++(f.b.z++σ.W))).Perm (os++(cells++f.b.z++σ.W)):=(List.perm_append_comm_assoc ..).trans (List.Perm.of_eq (by rw[List.append_assoc cells]))
 have nd':((cells++(os++(f.b.z++σ.W))).map (·.1)).Nodup:=by
  rw[List.map_append,List.nodup_append]
  refine⟨by rw[←HM Y];exact D3 _ _ _ (fun p hp=>nomatch hp) .nil,k.nd,fun x hx y hy e=> ?_⟩
  obtain⟨p,hp,rfl⟩:=List.mem_map.mp hx
  obtain⟨q,hq,rfl⟩:=List.mem_map.mp hy
  exact Nat.lt_irrefl _ (Nat.lt_trans (hgt p hp) (e▸hlt q hq))
 rw[←efs] at B'
 have q:=h gh L' (cellsFrom (L'+1) fd.scope.names []) ⟨cells,_,σ⟩ {s with heap:=h₁,toks:=tk} rfl (fun τ=>⟨⟨A,_,_,rfl,rfl,hc.kind,B'⟩,Around.frames_deeper M.hA,M.X.keeps st,M.T.keeps st,(show A.depth+1+4*d≤900 from AK [_,_] [] [.nl (.a AA (.m 4 (.a v1 AO))) (.k 900)] (.nl (.a (.a AA AO) (.m 4 v1)) (.k 900)) [1,1] rfl M.room),(show A.units+3+16*d≤9000 from AK [_,_] [] [.nl (.a AA (.m 16 (.a v1 AO))) (.k 9000)] (.nl (.a (.a AA (.k 3)) (.m 16 v1)) (.k 9000)) [1,1] rfl M.units),M.hh⟩) B'
  ⟨os,F',BO N' pm,k.c,A0 nd' pm,k.g,k.d,k.o⟩ (Ht hm hn hk Y)
 exact wpAny_mono q (fun fl s' q=>Nl q) fun ev s' q=>wpAny_mono (E6 rfl B' hc.kind q) (fun _ _ q=>Ou FG rfl rfl rfl q) fun _ _ f=>f.elim
theorem CK.ext{σ':Lg}(e:Am σ σ'){l:List (Str×V)}{l':List (Str×Value)}(h:CK σ l l'):CK σ' l l':=by
 induction h with
 |nil=>exact .nil
 |cons r _ ih=>exact .cons (r.ext e) ih
def Bw(g:Gx)(K:Frag)(d:Nat)(a:Nat)(S:List V→List (Str×V)→List AB→VQ→XQ→Prop):Prop:=
 ∀(f:Fx) (A:Around),Fm g K false d f A→∀(C:List AB) (σ:Lg) (s:Shared),St g f C σ s→
   ∀(Vs:List V) (vs:List Value) (Kw:List (Str×V)) (kws:List (Str×Value)),BU σ Vs vs→IF σ Kw kws→∀(Q:VQ) (X:XQ),S Vs Kw C Q X→
    codeAny g.M A (.call (.ref a) ⟨vs,kws⟩) (CX g f Q X σ) s
theorem RD{v:Value}{dV:List V}{M:Model}{E:Value→Shared→Prop}(h:RE K v=some dV)(X:K.In s.heap):∃dv,BU σ dV dv∧∀(Q:Option (Array Value)→Shared→Prop),(∀o,(o.getD #[]).toList=dv→Q o s)→wpAny M A (seqItems? v) Q E s:=by
 revert h
 cases v with
 |none=>exact fun h=>oJ h▸⟨[],.nil,fun Q hq=>wpAny_pure (hq none rfl)⟩
 |ref t=>
  intro h
  change(match K.lookup t with
   |some o=>(match o.data with| .seq xs _=>xs.toList.mapM JA|_=>none)
   |none=>none)=some dV at h
  cases ho:K.lookup t with
  |none=>rw[ho] at h;exact AM h
  |some o=>
   rw[ho] at h
   dsimp only at h
   split at h
   ·rename_i xs n hd
    exact⟨xs.toList,OO h,fun Q hq=>wpAny_seqItems (X _ _ ho) hd (hq (some xs) rfl)⟩
   ·exact AM h
 |_=>exact AM
theorem PI{l:List (Str×V)}{l':List (Str×Value)}(h:CK σ l l'):∀t:Nat,Dk g σ l (kwEs g.w.params t l'):=by
 induction h with
 |nil=>exact fun _=> .nil
 |cons r _ ih=>exact fun t=> .cons r (ih (t+1))
theorem KN{α:Type}{s:EQ α}{names:List Str}:((E7 s names).map (·.1)).Sublist names:=by
 induction names with
 |nil=>exact .slnil
 |cons x l ih=>
  unfold E7
  rw[List.filterMap_cons]
  cases s.lookup x with
  |none=>exact .cons _ ih
  |some v=>exact .cons₂ _ ih
theorem Kt{α:Type}{names:List Str}{dv:List α}{kw:Bool}{vs:List α}{kws m ex:EQ α}(h:B8 names dv kw vs kws=some (m,ex)):(m.map (·.1)).Sublist names:=by
 obtain⟨_,_,_,_,rfl⟩:=B8.ok h
 exact KN
structure ua(Γ:EC)(N:Nat)(fd:FuncData)(body:List Stmt)(Vs:List V)(Kw:List (Str×V))(C:List AB)(Q:VQ)(X:XQ)(dV:List V)(m ex:AU):Prop where
 hb:fd.body= .stmts body
 hc:FJ Γ.K fd=true
 hd:Γ.hd=false
 tr:Γ.tr=false
 top:Γ.top=false
 dv:RE Γ.K fd.defaults=some dV
 bind:B8 (fd.params.args.map (·.arg)) dV fd.params.kwarg.isSome Vs Kw=some (m,ex)
 h:match fd.params.kwarg with
   |none=>Av (Γ.sS fd.scope) N body m C (Br Q X)
   |some a=>AD (decide ((ex.map (·.1)).Nodup)&&decide (ex.length≤900))<|Av (Γ.sS fd.scope) N body (m++[(a.arg,.obj C.length)]) (C++[.dict ex]) (Br Q X)
theorem A4.ok{Γ:EC}{N:Nat}{a:Nat}{Vs:List V}{Kw:List (Str×V)}(h:A4 Γ N a Vs Kw C Q X):∃c t fd sl body dV m ex,Γ.K.lookup a=some ⟨c,t,.func fd,sl⟩∧ua Γ N fd body Vs Kw C Q X dV m ex:=by
 unfold A4 at h
 split at h
 ·rename_i oc od fd osl ho
  split at h
  ·rename_i body hbody
   obtain⟨hc,h⟩:=AD.ok h
   have hc:=AZ hc
   have hc1:=AZ hc.1
   have hc2:=AZ hc1.1
   obtain⟨dV,Pr,h⟩:=AF.ok h
   obtain⟨r,hr,h⟩:=AF.ok h
   exact⟨oc,od,fd,osl,body,dV,r.1,r.2,ho,hbody,hc2.1,Bn hc2.2,Bn hc1.2,Bn hc.2,Pr,hr,h⟩
  ·exact h.elim
 ·exact h.elim
theorem Qw{binds ex':List (Str×Value)}{ex:AU}{E:Value→Shared→Prop}{ka:Arg}{G:List (Str×Value)→Shared→Prop}(S:St g f C σ s)(rex:CK σ ex ex')(hx1:(ex.map (·.1)).Nodup)(hx2:ex.length≤900)
  (k:∀p h' t,Am σ ⟨σ.W,σ.ρ++[p]⟩→St g f (C++[.dict ex]) ⟨σ.W,σ.ρ++[p]⟩ {s with heap:=h',toks:=t}→VR ⟨σ.W,σ.ρ++[p]⟩ (.obj C.length) (.ref p.1)→G (binds++[(ka.arg,.ref p.1)]) {s with heap:=h',toks:=t}):wpAny g.M A (D5 (some ka) binds ex') G E s:=by
 have exl:ex'.length=ex.length:=by have:=congrArg List.length rex.keys;rw[List.length_map,List.length_map] at this;exact this.symm
 have hnd:(ex'.map (·.1)).Nodup:=by rw[←rex.keys];exact hx1
 cases S with|mk os F N c=>
 unfold D5
 dsimp only
 refine CC (if_neg (by rw[exl,sizeLine_eq];exact fun q=>Nat.not_le.mpr q (Nat.le_trans hx2 (by decide)))) (wpAny_bind (wpAny_alloc ?_))
 refine wpAny_bind (kp_fill ex' {s with heap:=s.heap.push {cls:= .type "dict",data:= .dict #[]}} [] 0 (F.push _) (N.push F _) (fun q hq=>Nat.ne_of_lt (Heap.lt_size (N q hq).1)) (fun _ he=>nomatch he) (fun _ he=>nomatch he) hnd fun h'' F'' N''=>wpAny_pure ?_)
 have ex0:Am σ ⟨σ.W,σ.ρ++[(s.heap.objs.size,s.heap.objs.size)]⟩:=Am.snoc
 exact k (s.heap.objs.size,s.heap.objs.size) h'' _ ex0 ((St.grow (p:=(s.heap.objs.size,s.heap.objs.size)) (.dict (PI (CK.ext ex0 rex) _)) c F'' N'' (nodup_cons c.nd fun q hq=>Nat.ne_of_lt (Heap.lt_size (N q hq).1))).toks _) (VR.last (c:= .dead) c)
theorem SY{Γ:EC}{N:Nat}{a:Nat}(HF:BI g Γ.K d Γ.fn)(HC:∀sc,ER g Γ.K (d+1) Γ.cp∧LE g Γ.K (d+1) Γ.cp∧Ew g Γ.K (d+1) sc false Γ.lp∧Ew g Γ.K (d+1) sc true Γ.lpT):
  Bw g Γ.K (d+2) a (fun Vs Kw C Q X=>A4 Γ N a Vs Kw C Q X):=by
 intro f A M C σ s S Vs vs Kw kws rv rk Q X h
 obtain⟨oc,od,fd,osl,body,dV,m,ex,ho,D⟩:=A4.ok h
 clear h
 have X0:=M.X.keeps S.F.keep
 have hc:=FJ.ok D.hc
 obtain⟨dv,rdv,hseq⟩:=RD (σ:=σ) (M:=g.M) (A:=A.in1) (E:=fun e s'=>Ab g f X σ e s') D.dv X0
 obtain⟨binds,ex',hb',rm,rex⟩:=M8 rdv rv (CK.of rk) D.bind
 have k1:=Kt hb'
 refine codeAny_call_function (Nat.lt_of_le_of_lt (Nat.le_trans (Nat.le_add_right _ _) M.room) (by decide)) (X0 _ _ ho) rfl hc.co hc.gen D.hb (codeRec_of X0 hc.code) ?_
 refine J0 hc.po hc.ko hc.va hseq hb' ?_
 have body_ok:∀{m:AU} {C:List AB} {σ:Lg},Av (Γ.sS fd.scope) N body m C (Br Q X)→∀(gh:Heap) (L':Addr) (cl:List (Str×Addr)) (τ:Tx) (s₁:Shared),τ.σ=σ→(∀τ,Fm g Γ.K false (d+1) ((f.call A fd a gh L' cl).f fd.scope τ) (f.call A fd a gh L' cl).A)→Below A f.base f.fs gh→
   SS g (f.call A fd a gh L' cl) fd.scope C τ s₁→SL (f.call A fd a gh L' cl) fd.scope τ m→
   wpAny g.M (f.call A fd a gh L' cl).A (execs body ((f.call A fd a gh L' cl).env fd.scope)) (As g (f.call A fd a gh L' cl) fd.scope (Br Q X) τ.σ) (Aq g (f.call A fd a gh L' cl) fd.scope false (fun c _ C=>X c C) τ.σ) s₁:=fun hv gh L' cl τ s₁ _ Mg Bg S1 hl=>by
  obtain⟨C1,C2,C3,C4⟩:=HC fd.scope
  have H:HS g (f.call A fd a gh L' cl) (Γ.sS fd.scope) d:=⟨hc.kind,fun τ=>by show Fm g Γ.K Γ.hd _ _ _;rw[D.hd];exact Mg τ,fun _=>⟨A,rfl,Bg⟩,HF,C1,C2,by show Ew g Γ.K _ _ Γ.tr _;rw[D.tr];exact C3,C4,fun z=>by have z:Γ.top=true:=z;rw[D.top] at z;exact BQ z⟩
  have q:=(GX N _ _ H).ss hv S1 hl
  have e:(Γ.sS fd.scope).tr=false:=D.tr
  rw[e] at q
  exact q
 have hh:=D.h
 have nd:=hc.nd
 have ok:=hc.ok
 cases hkw:fd.params.kwarg with
 |none=>
  rw[hkw] at hh nd ok
  rw[show((none:Option Arg).map (·.arg)).toList=[] from rfl,List.append_nil] at nd ok
  exact wpAny_pure (Sb M S hc rm (nd.sublist k1) (fun x hx=>List.all_eq_true.mp ok _ (k1.subset (mM ⟨x,hx,rfl⟩))) (body_ok hh))
 |some ka=>
  rw[hkw] at hh nd ok
  obtain⟨hx,hh⟩:=AD.ok hh
  have hx:=AZ hx
  refine Qw S rex (of_decide_eq_true hx.1) (of_decide_eq_true hx.2) fun p h' t ex0 S' ro=> ?_
  have nd2:=List.nodup_append.mp nd
  have hn:((binds++[(ka.arg,Value.ref p.1)]).map (·.1)).Nodup:=by
   rw[List.map_append]
   exact(nd.sublist (k1.append (List.Sublist.refl _)))
  refine wpAny_mono (Sb M S' hc ((CK.ext ex0 rm).one ro) hn (fun x hx=> ?_) (body_ok hh)) (fun env' s2 q=>⟨q.1,O4 ex0 q.2⟩) fun ev s2 q=>Ab.ext ex0 q
  rcases List.mem_append.mp hx with hx|hx
  ·exact List.all_eq_true.mp ok _ (List.mem_append_left _ (k1.subset (mM ⟨x,hx,rfl⟩)))
  ·rw[List.mem_singleton.mp hx]
   exact List.all_eq_true.mp ok _ (List.mem_append_right _ (.head _))
end
end
section
mutual
noncomputable def Cd(f:Nat→Option Nat):V→Option V
 | .obj i=>(match f i with|some j=>some (.obj j)|none=>none)
 | .tup l=>(match Be f l with|some l=>some (.tup l)|none=>none)
 | .lst l=>(match Be f l with|some l=>some (.lst l)|none=>none)
 | .none=>some .none
 | .bool b=>some (.bool b)
 | .int i=>some (.int i)
 | .str s=>some (.str s)
 | .bytes b=>some (.bytes b)
 | .typ n=>some (.typ n)
 | .blt n=>some (.blt n)
 | .glob a=>some (.glob a)
 | .ti l=>some (.ti l)
 | .li l=>some (.li l)
 | .rng a b c=>some (.rng a b c)
noncomputable def Be(f:Nat→Option Nat):List V→Option (List V)
 |[]=>some []
 |v::r=>(match Cd f v with
  |some v=>(match Be f r with|some r=>some (v::r)|none=>none)
  |none=>none)
end
mutual
noncomputable def Pr(k:Nat→Bool):V→Option Nat
 | .obj i=>(match k i with|true=>some i|false=>none)
 | .tup l=>Mv k l
 | .lst l=>Mv k l
 |_=>none
noncomputable def Mv(k:Nat→Bool):List V→Option Nat
 |[]=>none
 |v::r=>(match Pr k v with|some i=>some i|none=>Mv k r)
end
def B4(f:Nat→Option Nat):List (Str×V)→Option (List (Str×V))
 |[]=>some []
 |(x,v)::r=>(match Cd f v with
  |some v=>(match B4 f r with|some r=>some ((x,v)::r)|none=>none)
  |none=>none)
def Bp(f:Nat→Option Nat):AB→Option AB
 | .inst c at_=>(match B4 f at_ with|some at_=>some (.inst c at_)|none=>none)
 | .list l=>(match Be f l with|some l=>some (.list l)|none=>none)
 | .dict at_=>(match B4 f at_ with|some at_=>some (.dict at_)|none=>none)
 | .map l=>some (.map l)
 | .dead=>some .dead
def EO(o:Option Nat)(C:List AB)(Q:VQ)(v:V)(C':List AB):Prop:=
 match o with
 |none=>(match Pr (fun _=>true) v with
  |none=>AF (Cd (fun _=>none) v) fun v=>Q v C
  |some k=>AF C'[k]? fun c=>let f:=fun j=>if j=k then some C.length else none;AF (Bp f c) fun c=>AF (Cd f v) fun v=>Q v (C++[c]))
 |some i=>(match C' with
  |[]=>False
  |c'::_=>(match Pr (fun j=> !(j==0)) v with
   |none=>let f:=fun j=>if j=0 then some i else none;AF (Bp f c') fun c'=>AF (Cd f v) fun v=>Q v (C.set i c')
   |some k=>AD (!(k==0))<|AF C'[k]? fun c=>let f:=fun j=>if j=0 then some i else if j=k then some C.length else none;AF (Bp f c') fun c'=>AF (Bp f c) fun c=>AF (Cd f v) fun v=>Q v (C.set i c'++[c])))
def Hf(o:Option Nat)(C:List AB)(X:XQ)(cls:String)(C':List AB):Prop:=
 match o with
 |none=>X cls C
 |some i=>(match C' with
  |[]=>False
  |c'::_=>AF (Bp (fun j=>if j=0 then some i else none) c') fun c'=>X cls (C.set i c'))
abbrev FS:=List V→List (Str×V)→List AB→VQ→XQ→Prop
def AL(S:FS):FS:=fun vs kvs C Q X=>
 match Mv (fun _=>true) (vs++kvs.map (·.2)) with
 |none=>AF (Be (fun _=>none) vs) fun vs=>AF (B4 (fun _=>none) kvs) fun kvs=>S vs kvs [] (EO none C Q) (Hf none C X)
 |some i=>AF C[i]? fun c=>let f:=fun j=>if j=i then some 0 else none;AF (Bp f c) fun c=>AF (Be f vs) fun vs=>AF (B4 f kvs) fun kvs=>S vs kvs [c] (EO (some i) C Q) (Hf (some i) C X)
section
variable{f:Nat→Option Nat}{σ σ':Lg}{g:Gx}
def NH(f:Nat→Option Nat)(σ σ':Lg):Prop:=(∀p∈σ.W,p∈σ'.W)∧∀(i j:Nat) (p:Addr×Addr),f i=some j→σ.ρ[i]? =some p→σ'.ρ[j]? =some p
theorem XH{α β:Type}{o:Option α}{k:α→β}{y:β}(h:(match o with|some v=>some (k v)|none=>none)=some y):∃v,o=some v∧k v=y:=by
 cases o with
 |none=>exact AM h
 |some v=>exact⟨v,rfl,oJ h⟩
theorem Be.cons{v:V}{l l':List V}(h:Be f (v::l)=some l'):∃v' r',Cd f v=some v'∧Be f l=some r'∧l'=v'::r':=by
 unfold Be at h
 cases hv:Cd f v with
 |none=>rw[hv] at h;exact AM h
 |some v'=>
  rw[hv] at h
  cases hr:Be f l with
  |none=>rw[hr] at h;exact AM h
  |some r'=>rw[hr] at h;exact⟨v',r',rfl,rfl,(oJ h).symm⟩
theorem VR.ren(hf:NH f σ σ'){v:V}{y:Value}(r:VR σ v y):∀{v':V},Cd f v=some v'→VR σ' v' y:=
 @VR.rec σ (fun v y _=>∀{v':V},Cd f v=some v'→VR σ' v' y) (fun l ys _=>∀{l':List V},Be f l=some l'→BU σ' l' ys)
  (fun h=>oJ h▸.none) (fun _ _ h=>oJ h▸.bool _) (fun _ _ _ h=>oJ h▸.int _ _) (fun _ _ _ h=>oJ h▸.str _ _) (fun _ _ _ h=>oJ h▸.bytes _ _) (fun _ _ h=>oJ h▸.typ _) (fun _ _ h=>oJ h▸.blt _) (fun _ _ h=>oJ h▸.glob _)
  (fun hm i _ h=>oJ h▸.ti (hf.1 _ hm) i) (fun hm i _ h=>oJ h▸.li (hf.1 _ hm) i) (fun hm _ h=>oJ h▸.rng (hf.1 _ hm))
  (fun{i} _ hi _ h=>by
   unfold Cd at h
   cases q:f i with
   |none=>rw[q] at h;exact AM h
   |some j=>rw[q] at h;exact oJ h▸.obj (hf.2 _ _ _ q hi))
  (fun{l} _ _ _ hm _ ih _ h=>by
   unfold Cd at h
   cases q:Be f l with
   |none=>rw[q] at h;exact AM h
   |some l'=>rw[q] at h;exact oJ h▸.tup (hf.1 _ hm) (ih q))
  (fun{l} _ _ _ hm _ ih _ h=>by
   unfold Cd at h
   cases q:Be f l with
   |none=>rw[q] at h;exact AM h
   |some l'=>rw[q] at h;exact oJ h▸.lst (hf.1 _ hm) (ih q))
  (fun h=>by cases h;exact .nil)
  (fun _ _ ih1 ih2 _ h=>by obtain⟨v',r',h1,h2,rfl⟩:=Be.cons h;exact .cons (ih1 h1) (ih2 h2)) v y r
theorem BU.ren(hf:NH f σ σ'){l:List V}:∀{l':List V} {ys:List Value},BU σ l ys→Be f l=some l'→BU σ' l' ys:=by
 induction l with
 |nil=>exact fun r h=>r.g0 (by cases h;exact .nil)
 |cons v l ih=>exact fun r h=>r.g1 fun y ys a b=>by obtain⟨v',r',h1,h2,rfl⟩:=Be.cons h;exact .cons (a.ren hf h1) (ih b h2)
theorem B4.cons{x:Str}{v:V}{l l':AU}(h:B4 f ((x,v)::l)=some l'):∃v' r',Cd f v=some v'∧B4 f l=some r'∧l'=(x,v')::r':=by
 unfold B4 at h
 cases hv:Cd f v with
 |none=>rw[hv] at h;exact AM h
 |some v'=>
  rw[hv] at h
  cases hr:B4 f l with
  |none=>rw[hr] at h;exact AM h
  |some r'=>rw[hr] at h;exact⟨v',r',rfl,rfl,(oJ h).symm⟩
theorem Dk.ren(hf:NH f σ σ'){l:AU}{es:List DictEntry}(r:Dk g σ l es):∀{l':AU},B4 f l=some l'→Dk g σ' l' es:=by
 induction r with
 |nil=>exact fun h=>by cases h;exact .nil
 |cons r _ ih=>exact fun h=>by obtain⟨v',r',h1,h2,rfl⟩:=B4.cons h;exact .cons (r.ren hf h1) (ih h2)
theorem BZ.ren(hf:NH f σ σ'){c c':AB}{p:Addr×Addr}{o:BK}(r:BZ g σ c p o):(h:Bp f c=some c')→BZ g σ' c' p o:=by
 induction r with
 |inst a=>rename_i C at_ _ _ _ _;intro h;unfold Bp at h;dsimp only at h;cases q:B4 f at_ with
  |none=>rw[q] at h;exact AM h
  |some l=>rw[q] at h;exact oJ h▸.inst (a.ren hf q)
 |list a=>rename_i l _ _ _;intro h;unfold Bp at h;dsimp only at h;cases q:Be f l with
  |none=>rw[q] at h;exact AM h
  |some l=>rw[q] at h;exact oJ h▸.list (a.ren hf q)
 |dict a=>rename_i l _ _ _;intro h;unfold Bp at h;dsimp only at h;cases q:B4 f l with
  |none=>rw[q] at h;exact AM h
  |some l=>rw[q] at h;exact oJ h▸.dict (a.ren hf q)
 |map hm hi=>exact fun h=>oJ h▸.map (hf.1 _ hm) hi
 |dead=>exact fun h=>oJ h▸.dead
theorem JJ(hf:NH f σ σ'){l:AU}:∀{l':AU} {ys:List Value},BU σ (l.map (·.2)) ys→B4 f l=some l'→l'.map (·.1)=l.map (·.1)∧BU σ' (l'.map (·.2)) ys:=by
 induction l with
 |nil=>exact fun r h=>r.g0 (by cases h;exact⟨rfl,.nil⟩)
 |cons p l ih=>
  obtain⟨x,v⟩:=p
  intro l' ys r h
  obtain⟨v',r',h1,h2,rfl⟩:=B4.cons h
  exact r.g1 fun y ys a b=>⟨congrArg (List.cons x) (ih b h2).1,.cons (a.ren hf h1) (ih b h2).2⟩
theorem IF.ren(hf:NH f σ σ'){l l':AU}{kws:List (Str×Value)}(r:IF σ l kws)(h:B4 f l=some l'):IF σ' l' kws:=
 ⟨(JJ hf r.2 h).1.trans r.1,(JJ hf r.2 h).2⟩
theorem Ah.app{C₂:List AB}{as₂:I7}{os₂:BK}(b:Ah g σ C₂ as₂ os₂){C:List AB}{as:I7}{os:BK}(h:Ah g σ C as os):Ah g σ (C++C₂) (as++as₂) (os++os₂):=by
 induction h with
 |nil=>exact b
 |cons a _ ih=>rw[List.append_assoc];exact .cons a ih
end
theorem Jh{l l' m:BK}(s:m.Sublist l)(p:m.Perm l')(nd:(l.map (·.1)).Nodup):(l'.map (·.1)).Nodup:=A0 ((s.map _).nodup nd) p
section
variable{g:Gx}{f:Fx}{σ σ':Lg}{s s':Shared}{C C':List AB}
theorem St.re{z:BK}{ρ:I7}{os os' m:BK}(F:Fr f.h₀ f.L s.heap f.μ)(N:News f.h₀ f.L s.heap (os'++(z++σ'.W)))(k:Ey g (f.wz z).b C' σ' os' s)(hc:Ah g ⟨σ'.W,ρ⟩ C ρ os)(h1:m.Sublist (os'++(z++σ'.W)))(h2:m.Perm (os++(f.b.z++σ'.W))):St g f C ⟨σ'.W,ρ⟩ s:=
 ⟨os,F,fun q hq=>N q (h1.subset (h2.mem_iff.mpr hq)),hc,Jh h1 h2 k.nd,k.g,k.d,k.o⟩
theorem Ab.re{z:BK}{X X':XQ}{σ1:Lg}{ev:Value}(h:Ab g (f.wz z) X' σ1 ev s')(hw:∀p∈σ.W,p∈σ1.W)
  (hsub:∀σ' C' os' cls,Am σ1 σ'→Ah g σ' C' σ'.ρ os'→X' cls C'→∃C1 os m,Ah g ⟨σ'.W,σ.ρ⟩ C1 σ.ρ os∧X cls C1∧List.Sublist m (os'++(z++σ'.W))∧List.Perm m (os++(f.b.z++σ'.W))):Ab g f X σ ev s':=by
 obtain⟨e,t,cls,vs,σ',C',os',hh,a,R,F,U,x,k,na,q⟩:=h
 obtain⟨C1,os,m,hc,q1,h1,h2⟩:=hsub σ' C' os' cls x k.c q
 exact⟨e,t,cls,vs,⟨σ'.W,σ.ρ⟩,C1,os,hh,a,CT R fun q hq=>h1.subset (h2.mem_iff.mpr hq),F,U,⟨fun p hp=>x.w p (hw p hp),fun _ _ q=>q⟩,⟨hc,Jh h1 h2 k.nd,k.g,k.d,k.o⟩,na,q1⟩
inductive PR(g:Gx)(σ:Lg)(C:List AB)(as:I7)(os:BK)(i:Nat)(c:AB):Prop
 |mk:∀CA CB aA p aB oA o oB,C=CA++c::CB→CA.length=i→as=aA++p::aB→aA.length=i→os=oA++(o++oB)→Ah g σ CA aA oA→BZ g σ c p o→Ah g σ CB aB oB→PR g σ C as os i c
theorem Ah.split{as:I7}{os:BK}{i:Nat}{c:AB}(r:Ah g σ C as os):C[i]? =some c→PR g σ C as os i c:=by
 induction r generalizing i with
 |nil=>exact AM
 |cons a r ih=>
  rename_i c0 p0 o0 C as os
  intro h
  cases i with
  |zero=>cases h;exact⟨[],_,[],_,_,[],_,os,rfl,rfl,rfl,rfl,rfl,.nil,a,r⟩
  |succ i=>
   obtain⟨CA,CB,aA,p,aB,oA,o2,oB,rfl,e2,rfl,e4,rfl,h1,h2,h3⟩:=ih h
   exact⟨_::CA,CB,_::aA,p,aB,o0++oA,o2,oB,rfl,congrArg (·+1) e2,rfl,congrArg (·+1) e4,(List.append_assoc ..).symm,.cons a h1,h2,h3⟩
theorem Kv{α:Type}{l r:List α}{x:α}{i:Nat}(h:l.length=i):(l++x::r)[i]? =some x:=by
 subst h;rw[List.getElem?_append_right (Nat.le_refl _),Nat.sub_self];rfl
theorem IJ{α:Type}{l r:List α}{x y:α}{i:Nat}(h:l.length=i):(l++x::r).set i y=l++y::r:=by
 subst h;rw[List.set_append_right _ _ (Nat.le_refl _),Nat.sub_self];rfl
theorem KO{α:Type}{a b c z w:List α}:(c++((a++b++z)++w)).Perm ((a++(c++b))++(z++w)):=by
 simp only[List.append_assoc];exact List.perm_append_comm_assoc ..
theorem Tj{α:Type}{a b c e z w:List α}:(c++(e++((a++b++z)++w))).Perm (((a++(c++b))++e)++(z++w)):=by
 simp only[List.append_assoc]
 exact((List.perm_append_comm_assoc e a _).append_left c).trans ((List.perm_append_comm_assoc c a _).trans (((List.perm_append_comm_assoc e b _).append_left c).append_left a))
theorem JD{α:Type}{a b c w:List α}:(b++(c++w)).Sublist (a++((b++c)++w)):=by
 rw[←List.append_assoc b];exact List.sublist_append_right ..
theorem Fm.wz{K:Frag}{d:Nat}{A:Around}{z:BK}(M:Fm g K false d f A):Fm g K false d (f.wz z) A:=
 ⟨by cases M.fr with|mk A₀ env outer e1 e2 e3 B=>exact⟨A₀,env,outer,e1,e2,e3,B⟩,M.hA,M.X,M.T,M.room,M.units,M.hh⟩
inductive W5(C:List AB)(Q:VQ)(v:V)(C':List AB):Prop
 |old:∀v',Cd (fun _=>none) v=some v'→Q v' C→W5 C Q v C'
 |new:∀k c c' v',C'[k]? =some c→Bp (fun j=>if j=k then some C.length else none) c=some c'→Cd (fun j=>if j=k then some C.length else none) v=some v'→Q v' (C++[c'])→W5 C Q v C'
theorem xY{Q:VQ}{v:V}(h:EO none C Q v C'):W5 C Q v C':=by
 unfold EO at h
 dsimp only at h
 cases hk:Pr (fun _=>true) v with
 |none=>
  rw[hk] at h
  obtain⟨v',h1,h⟩:=AF.ok h
  exact .old v' h1 h
 |some k=>
  rw[hk] at h
  obtain⟨c,hc,h⟩:=AF.ok h
  obtain⟨c',hc',h⟩:=AF.ok h
  obtain⟨v',h1,h⟩:=AF.ok h
  exact .new k c c' v' hc hc' h1 h
theorem Dv{j n a b:Nat}(h:(if a=j then some n else none)=some b):a=j∧n=b:=by
 by_cases e:a=j
 ·rw[if_pos e] at h;exact⟨e,oJ h⟩
 ·rw[if_neg e] at h;exact AM h
theorem Am.keep{W:BK}(h:∀p∈σ.W,p∈W):Am σ ⟨W,σ.ρ⟩:=⟨h,fun _ _ q=>q⟩
theorem Am.keep1{W:BK}{p:Addr×Addr}(h:∀p∈σ.W,p∈W):Am σ ⟨W,σ.ρ++[p]⟩:=⟨h,(Am.snoc (W:=σ.W)).r⟩
theorem JH{ρ:I7}{W:BK}(hw:∀p∈σ.W,p∈W):NH (fun _=>none) σ ⟨W,ρ⟩:=⟨hw,fun _ _ _ h=>AM h⟩
theorem Kj{K:Frag}{d a:Nat}{S:FS}{A:Around}{Q:VQ}{X:XQ}{Vs:List V}{vs:List Value}{Kw:AU}{kws:List (Str×Value)}(h:Bw g K d a S)(Mf:Fm g K false d f A)(S0:St g f C σ s)(rv:BU σ Vs vs)(rk:IF σ Kw kws)
  (hq:AF (Be (fun _=>none) Vs) fun vs=>AF (B4 (fun _=>none) Kw) fun kvs=>S vs kvs [] (EO none C Q) (Hf none C X)):codeAny g.M A (.call (.ref a) ⟨vs,kws⟩) (CX g f Q X σ) s:=by
 obtain⟨Vs',hv,hq⟩:=AF.ok hq
 obtain⟨Kw',hk,hq⟩:=AF.ok hq
 cases S0 with|mk os F N k=>
 have S0:St g (f.wz (os++f.b.z)) [] ⟨σ.W,[]⟩ s:=⟨[],F,fun q hq=>N q (by rw[←List.append_assoc];exact hq),.nil,by have:=k.nd;rw[←List.append_assoc] at this;exact this,k.g,k.d,k.o⟩
 have rn:NH (fun _=>none) σ ⟨σ.W,[]⟩:=JH fun _ h=>h
 refine codeAny_mono (h _ A Mf.wz _ _ _ S0 _ _ _ _ (rv.ren rn hv) (rk.ren rn hk) _ _ hq) fun r s' q=>CX.el (G:=fun r=>CX g f Q X σ r s') q (fun v q=> ?_) fun ev q=> ?_
 ·obtain⟨σ1,V,C',ex,S',r',q⟩:=q
  cases S' with|mk os' F' N' k'=>
  rcases xY q with⟨v',h1,q5⟩|⟨j,c,c',v',hc,hc',h1,q5⟩
  ·exact⟨⟨σ1.W,σ.ρ⟩,v',C,Am.keep (σ:=σ) ex.w,St.re F' N' k' (k.c.ext (Am.keep (σ:=σ) ex.w)) JD (List.Perm.refl _),r'.ren (JH fun _ h=>h) h1,q5⟩
  ·obtain⟨CA,CB,aA,p,aB,oA,o,oB,rfl,e2,e3,e4,rfl,h4,h5,h6⟩:=k'.c.split hc
   have rn2:NH (fun i=>if i=j then some C.length else none) σ1 ⟨σ1.W,σ.ρ++[p]⟩:=⟨fun _ h=>h,fun a b q ha hz=>by
    obtain⟨rfl,rfl⟩:=Dv ha
    have e:p=_:=oJ ((Kv e4).symm.trans (e3▸hz))
    rw[←k.c.len,←e]
    exact List.getElem?_concat_length⟩
   refine⟨⟨σ1.W,σ.ρ++[p]⟩,v',C++[c'],Am.keep1 (σ:=σ) ex.w,St.re F' N' k' (Ah.snoc (h5.ren rn2 hc') (k.c.ext (Am.keep1 (σ:=σ) ex.w))) (m:=o++((os++f.b.z)++σ1.W)) ?_ ?_,r'.ren rn2 h1,q5⟩
   ·exact List.Sublist.append ((List.sublist_append_left o oB).trans (List.sublist_append_right oA _)) (List.Sublist.refl _)
   ·simp only[List.append_assoc];exact List.perm_append_comm_assoc ..
 ·exact Ab.re q (fun _ h=>h) fun σ1 C' os' cls ex hc' q=>⟨C,os,_,k.c.ext (Am.keep (σ:=σ) ex.w),q,JD,List.Perm.refl _⟩
inductive W4(i:Nat)(C:List AB)(Q:VQ)(v:V)(C':List AB):Prop
 |old:∀c' N c1 v',C'=c'::N→Bp (fun j=>if j=0 then some i else none) c'=some c1→Cd (fun j=>if j=0 then some i else none) v=some v'→Q v' (C.set i c1)→W4 i C Q v C'
 |new:∀c' N k c2 c1 c3 v',C'=c'::N→N[k]? =some c2→Bp (fun j=>if j=0 then some i else if j=k+1 then some C.length else none) c'=some c1→Bp (fun j=>if j=0 then some i else if j=k+1 then some C.length else none) c2=some c3→Cd (fun j=>if j=0 then some i else if j=k+1 then some C.length else none) v=some v'→Q v' (C.set i c1++[c3])→W4 i C Q v C'
theorem xX{i:Nat}{Q:VQ}{v:V}(h:EO (some i) C Q v C'):W4 i C Q v C':=by
 unfold EO at h
 dsimp only at h
 cases C' with
 |nil=>exact h.elim
 |cons c' N=>
  dsimp only at h
  cases hk:Pr (fun j=> !(j==0)) v with
  |none=>
   rw[hk] at h
   obtain⟨c1,h1,h⟩:=AF.ok h
   obtain⟨v',h2,h⟩:=AF.ok h
   exact .old c' N c1 v' rfl h1 h2 h
  |some k=>
   rw[hk] at h
   obtain⟨h0,h⟩:=AD.ok h
   cases k with
   |zero=>exact BQ h0
   |succ k=>
    obtain⟨c2,h1,h⟩:=AF.ok h
    obtain⟨c1,h2,h⟩:=AF.ok h
    obtain⟨c3,h3,h⟩:=AF.ok h
    obtain⟨v',h4,h⟩:=AF.ok h
    exact .new c' N k c2 c1 c3 v' rfl h1 h2 h3 h4 h
inductive Ss(g:Gx)(σ:Lg)(c:AB)(N:List AB)(as:I7)(os:BK):Prop
 |mk:∀p o aN oN,as=p::aN→os=o++oN→BZ g σ c p o→Ah g σ N aN oN→Ss g σ c N as os
theorem Ah.head{c:AB}{N:List AB}{as:I7}{os:BK}(r:Ah g σ (c::N) as os):Ss g σ c N as os:=by cases r with|cons a r=>exact⟨_,_,_,_,rfl,rfl,a,r⟩
theorem HP{p p':Addr×Addr}{aN ρ:I7}(h:ρ=p'::aN)(e:ρ[0]? =some p):p'=p:=by subst h;exact oJ e
theorem Ki{K:Frag}{d a i:Nat}{S:FS}{A:Around}{Q:VQ}{X:XQ}{Vs:List V}{vs:List Value}{Kw:AU}{kws:List (Str×Value)}(h:Bw g K d a S)(Mf:Fm g K false d f A)(S0:St g f C σ s)(rv:BU σ Vs vs)(rk:IF σ Kw kws)
  (hq:AF C[i]? fun c=>let f:=fun j=>if j=i then some 0 else none;AF (Bp f c) fun c=>AF (Be f Vs) fun vs=>AF (B4 f Kw) fun kvs=>S vs kvs [c] (EO (some i) C Q) (Hf (some i) C X)):codeAny g.M A (.call (.ref a) ⟨vs,kws⟩) (CX g f Q X σ) s:=by
 obtain⟨c,hci,hq⟩:=AF.ok hq
 obtain⟨c0,hc0,hq⟩:=AF.ok hq
 obtain⟨Vs',hv,hq⟩:=AF.ok hq
 obtain⟨Kw',hk,hq⟩:=AF.ok hq
 cases S0 with|mk os F N k=>
 obtain⟨CA,CB,aA,p0,aB,oA,o,oB,eC,lA,eρ,la,rfl,hA,hC,hB⟩:=k.c.split hci
 have hρi:σ.ρ[i]? =some p0:=eρ▸Kv la
 have rn:NH (fun j=>if j=i then some 0 else none) σ ⟨σ.W,[p0]⟩:=⟨fun _ h=>h,fun a b q ha hz=>by
  obtain⟨rfl,rfl⟩:=Dv ha
  exact hρi.symm.trans hz⟩
 have pin:(o++((oA++oB++f.b.z)++σ.W)).Perm ((oA++(o++oB))++(f.b.z++σ.W)):=KO
 have S0:St g (f.wz (oA++oB++f.b.z)) [c0] ⟨σ.W,[p0]⟩ s:=⟨o,F,BO N pin.symm,by have:=Ah.cons (hC.ren rn hc0) (.nil (g:=g) (σ:=⟨σ.W,[p0]⟩));rw[List.append_nil] at this;exact this,A0 k.nd pin.symm,k.g,k.d,k.o⟩
 refine codeAny_mono (h _ A Mf.wz _ _ _ S0 _ _ _ _ (rv.ren rn hv) (rk.ren rn hk) _ _ hq) fun r s' q=>CX.el (G:=fun r=>CX g f Q X σ r s') q (fun v q=> ?_) fun ev q=> ?_
 ·obtain⟨σ1,V,C',ex,S',r',q⟩:=q
  cases S' with|mk os' F' N' k'=>
  have hp0:σ1.ρ[0]? =some p0:=ex.r 0 p0 rfl
  rcases xX q with⟨c',Nn,c1,v',rfl,h1,h2,q5⟩|⟨c',Nn,j,c2,c1,c3,v',rfl,hc2,h1,h2,h3,q5⟩
  ·obtain⟨p',o',aN,oN,e1,rfl,ra,rr⟩:=k'.c.head
   have rn2:NH (fun j=>if j=0 then some i else none) σ1 ⟨σ1.W,σ.ρ⟩:=⟨fun _ h=>h,fun a b q ha hz=>by
    obtain⟨rfl,rfl⟩:=Dv ha
    exact hρi.trans (hp0.symm.trans hz)⟩
   have hcc:Ah g ⟨σ1.W,σ.ρ⟩ (C.set i c1) σ.ρ (oA++(o'++oB)):=by
    have:=Ah.app (Ah.cons (ra.ren rn2 h1) (hB.ext (Am.keep (σ:=σ) ex.w))) (hA.ext (Am.keep (σ:=σ) ex.w))
    rw[HP e1 hp0,←eρ] at this
    rw[eC,IJ lA]
    exact this
   exact⟨⟨σ1.W,σ.ρ⟩,v',C.set i c1,Am.keep (σ:=σ) ex.w,St.re F' N' k' hcc ((List.sublist_append_left o' oN).append (List.Sublist.refl _)) KO,r'.ren rn2 h2,q5⟩
  ·obtain⟨p',o',aN,oN,e1,rfl,ra,rr⟩:=k'.c.head
   obtain⟨NA,NB,bA,p2,bB,nA,o2,nB,e3,e4,e5,e6,rfl,g1,g2,g3⟩:=rr.split hc2
   have hp2:σ1.ρ[j+1]? =some p2:=by rw[e1,e5];exact Kv (l:=p'::bA) (congrArg (·+1) e6)
   have rn2:NH (fun a=>if a=0 then some i else if a=j+1 then some C.length else none) σ1 ⟨σ1.W,σ.ρ++[p2]⟩:=⟨fun _ h=>h,fun a b q ha hz=>by
    by_cases e:a=0
    ·subst e
     obtain rfl:=oJ ha
     exact(Am.snoc (W:=σ.W)).r _ _ (hρi.trans (hp0.symm.trans hz))
    ·have ha:(if a=j+1 then some C.length else none)=some b:=(if_neg e).symm.trans ha
     obtain⟨rfl,rfl⟩:=Dv ha
     rw[←k.c.len,←oJ (hp2.symm.trans hz)]
     exact List.getElem?_concat_length⟩
   have hcc:Ah g ⟨σ1.W,σ.ρ++[p2]⟩ (C.set i c1) σ.ρ (oA++(o'++oB)):=by
    have:=Ah.app (Ah.cons (ra.ren rn2 h1) (hB.ext (Am.keep1 (σ:=σ) ex.w))) (hA.ext (Am.keep1 (σ:=σ) ex.w))
    rw[HP e1 hp0,←eρ] at this
    rw[eC,IJ lA]
    exact this
   exact⟨⟨σ1.W,σ.ρ++[p2]⟩,v',C.set i c1++[c3],Am.keep1 (σ:=σ) ex.w,St.re F' N' k' (Ah.snoc (g2.ren rn2 h2) hcc) (m:=o'++(o2++((oA++oB++f.b.z)++σ1.W))) (by
    show List.Sublist _ ((o'++(nA++(o2++nB)))++((oA++oB++f.b.z)++σ1.W))
    rw[List.append_assoc o']
    exact(List.Sublist.refl o').append (((List.sublist_append_left o2 nB).trans (List.sublist_append_right nA _)).append (List.Sublist.refl _))) Tj,r'.ren rn2 h3,q5⟩
 ·refine Ab.re q (fun _ h=>h) fun σ1 C' os' cls ex hc' q=> ?_
  cases C' with
  |nil=>exact fE q
  |cons c' Nn=>
   obtain⟨c1,h1,q⟩:=AF.ok q
   have hp0:σ1.ρ[0]? =some p0:=ex.r 0 p0 rfl
   obtain⟨p',o',aN,oN,e1,rfl,ra,rr⟩:=hc'.head
   have rn2:NH (fun j=>if j=0 then some i else none) σ1 ⟨σ1.W,σ.ρ⟩:=⟨fun _ h=>h,fun a b q ha hz=>by
    obtain⟨rfl,rfl⟩:=Dv ha
    exact hρi.trans (hp0.symm.trans hz)⟩
   refine⟨C.set i c1,oA++(o'++oB),o'++((oA++oB++f.b.z)++σ1.W),?_,q,(List.sublist_append_left o' oN).append (List.Sublist.refl _),KO⟩
   have:=Ah.app (Ah.cons (ra.ren rn2 h1) (hB.ext (Am.keep (σ:=σ) ex.w))) (hA.ext (Am.keep (σ:=σ) ex.w))
   rw[HP e1 hp0,←eρ] at this
   rw[eC,IJ lA]
   exact this
theorem FH{K:Frag}{d a:Nat}{S:FS}(h:Bw g K d a S):Bw g K d a (AL S):=by
 intro f A Mf C σ s S0 Vs vs Kw kws rv rk Q X hq
 unfold AL at hq
 cases hi:Mv (fun _=>true) (Vs++Kw.map (·.2)) with
 |none=>rw[hi] at hq;exact Kj h Mf S0 rv rk hq
 |some i=>rw[hi] at hq;exact Ki h Mf S0 rv rk hq
end
end
section
theorem A2.sub{N:Nm}{σ:Lg}{m m':AU}(h:A2 N σ m')(hs:∀y v,AP m y=some v→AP m' y=some v):A2 N σ m:=
 ⟨fun x v e=>h.loc x v (hs x v e),h.cel,h.inj⟩
theorem Jd{m:AU}{x:Str}{v:V}(hx:(AP m x).isNone=true):∀y u,AP m y=some u→AP (Ae m x v) y=some u:=fun y u e=>by
 rw[En]
 by_cases q:y=x
 ·rw[q] at e;rw[e] at hx;exact BQ hx
 ·exact(if_neg q).trans e
structure Cx where
 f:Fx
 rs:Scope
 cl:List (Str×Addr)
 zc:BK
 D:Addr
 Cn:Addr
inductive CS(g:Gx)(k:Cx)(its:BK)(m:AU)(acc:List V)(C:List AB)(σ:Lg)(s:Shared):Prop where
 |mk:∀vs n nso oc μx,St g (k.f.wz (its++((k.D,Ag "list" vs n)::(k.Cn,nso)::(oc++k.f.b.z)))) C σ s→(∀h:Heap,h.get? k.Cn=some nso→h.Ns k.Cn μx)→A2 ⟨k.rs,k.cl,oc++k.zc,μx⟩ σ m→BU σ acc vs→CS g k its m acc C σ s
inductive Sw(g:Gx)(k:Cx)(its:BK)(m:AU)(acc:List V)(Q:VQ)(σ:Lg)(v:Value)(s':Shared):Prop where
 |mk:∀σ' V C',Am σ σ'→CS g k its m acc C' σ' s'→VR σ' V v→Q V C'→Sw g k its m acc Q σ v s'
theorem VW{h:Heap}{a:Addr}{m:Str→Option Value}(x:h.Ns a m):∃o,h.get? a=some o∧∀h2:Heap,h2.get? a=some o→h2.Ns a m:=by
 obtain⟨o,es,ep,ho,r⟩:=x
 exact⟨o,ho,fun h2 h3=>⟨o,es,ep,h3,r⟩⟩
theorem QH{a b z:BK}{c:Addr}{o o₀:Obj}(nd:((a++(b++z)).map (·.1)).Nodup)(h:(c,o₀)∈b):IN c o (a++(b++z))=a++(IN c o b++z):=by
 rw[List.map_append,List.nodup_append,List.map_append,List.nodup_append] at nd
 have hc:c∈b.map (·.1):=mM ⟨_,h,rfl⟩
 rw[D8,D8,FZ (l:=a) fun p hp e=>nd.2.2 p.1 (mM ⟨p,hp,rfl⟩) c (List.mem_append_left _ hc) e,FZ (l:=z) fun p hp e=>nd.2.1.2.2 c hc p.1 (mM ⟨p,hp,rfl⟩) e.symm]
structure NJ(k:Cx)(cenv:Env):Prop where
 sc:cenv.scope=k.rs
 kind:k.rs.kind= .function
 glo:cenv.globals=mainGlobals
 blt:cenv.builtins=builtinsNs
 cells:cenv.cells=k.cl
 fr:cenv.frame=some k.f.L
 ns:cenv.locals=k.Cn
 hz:∀p∈k.zc,p∈k.f.b.z
section
variable{g:Gx}{f:Fx}{k:Cx}{its:BK}{m:AU}{acc:List V}{C:List AB}{σ:Lg}{s:Shared}{A:Around}{E:Value→Shared→Prop}{cenv:Env}
theorem St.zmid{l r:BK}{c:Addr}{o o':Obj}{h':Heap}{t:Nat}(S:St g (f.wz (l++(c,o)::r)) C σ s)(hs:Heap.SameBut c s.heap h')(ho:h'.get? c=some o'):St g (f.wz (l++(c,o')::r)) C σ {s with heap:=h',toks:=t}:=
 ((S.zperm List.perm_middle).zset hs ho).zperm List.perm_middle.symm
theorem O6(H:NJ k cenv){x:Str}{V:V}{v:Value}(hx:k.rs.names.lookup x=some .local)(S:CS g k its m acc C σ s)(r:VR σ V v):
  wpAny g.M A (storeName cenv x v) (fun _ s'=>CS g k its (Ae m x V) acc C σ s') E s:=by
 cases S with|mk vs n nso oc μx S hn hl ra=>
 have S1:St g (k.f.wz ((its++[(k.D,Ag "list" vs n)])++(k.Cn,nso)::(oc++k.f.b.z))) C σ s:=by rw[List.append_assoc];exact S
 have hns:s.heap.Ns cenv.locals μx:=by rw[H.ns];exact hn _ (S1.zmem (List.mem_append_right _ (.head _))).1
 refine wpAny_storeName_local ((congrArg (fun sc=>sc.names.lookup x) H.sc).trans hx) hns (fun h' hn' hs=> ?_) (by rw[H.sc,H.kind];rfl)
 rw[H.ns] at hn' hs
 obtain⟨o',ho',hn2⟩:=VW hn'
 have S2:=S1.zmid (t:=s.toks+1) hs ho'
 rw[List.append_assoc] at S2
 exact⟨vs,n,o',oc,_,S2,hn2,A2.setL (N:=⟨k.rs,k.cl,oc++k.zc,μx⟩) hx hl r,ra⟩
theorem O7(H:NJ k cenv){x:Str}{V:V}{v:Value}(hx:k.rs.names.lookup x=some .cell)(S:CS g k its m acc C σ s)(r:VR σ V v)(hfree:∀c,k.rs.names.lookup x=some .cell→k.cl.lookup x=some c→∀p∈k.zc,p.1≠c):
  wpAny g.M A (storeName cenv x v) (fun _ s'=>CS g k its (Ae m x V) acc C σ s') E s:=by
 cases S with|mk vs n nso oc μx S hn hl ra=>
 obtain⟨c,o₀,v₀,hc,hm,hd⟩:=hl.cel x hx
 have hmo:(c,o₀)∈oc:=(List.mem_append.mp hm).elim id fun h=>absurd rfl (hfree c hx hc _ h)
 have S1:St g (k.f.wz ((its++[(k.D,Ag "list" vs n),(k.Cn,nso)])++(oc++k.f.b.z))) C σ s:=by rw[List.append_assoc];exact S
 have hmem:(c,o₀)∈(its++[(k.D,Ag "list" vs n),(k.Cn,nso)])++(oc++k.f.b.z):=List.mem_append_right _ (List.mem_append_left _ hmo)
 refine wpAny_storeName_cell (by rw[H.sc];exact H.kind) ((congrArg (fun sc=>sc.names.lookup x) H.sc).trans hx) (by rw[H.cells];exact hc) ⟨o₀,(S1.zmem hmem).1,hd⟩ fun h' hv hs=> ?_
 obtain⟨o',ho',hd'⟩:=hv
 have S2:=S1.zrep (k:=s.toks) (o':=o') hmem hs ho'
 rw[QH S1.zdup hmo,List.append_assoc] at S2
 have hl':=A2.setC (N:=⟨k.rs,k.cl,oc++k.zc,μx⟩) hx hc hd' hl r
 rw[D8,FZ (l:=k.zc) fun p hp=>hfree c hx hc p hp] at hl'
 exact⟨vs,n,nso,IN c o' oc,μx,S2,hn,hl',ra⟩
theorem WJ(H:NJ k cenv){x:Str}{px:Pos}{V:V}{v:Value}(hx:Cm k.rs x=true)(hfree:∀c,k.rs.names.lookup x=some .cell→k.cl.lookup x=some c→∀p∈k.zc,p.1≠c)(S:CS g k its m acc C σ s)(r:VR σ V v):
  wpAny g.M A (assign (.Name x px) cenv v) (fun _ s'=>CS g k its (Ae m x V) acc C σ s') E s:=
 PyProof.Rows.assign_Name ((Bool.or_eq_true_iff.mp hx).elim (fun hx=>O6 H (bE hx) S r) fun hx=>O7 H (bE hx) S r hfree)
theorem CS.sub{m':AU}(S:CS g k its m' acc C σ s)(hs:∀y v,AP m y=some v→AP m' y=some v):CS g k its m acc C σ s:=by
 cases S with|mk vs n nso oc μx S hn hl ra=>exact⟨vs,n,nso,oc,μx,S,hn,hl.sub hs,ra⟩
theorem RM{V:V}{v:Value}(S:CS g k its m acc C σ s)(r:VR σ V v)(hz:acc.length≤100000):
  wpAny g.M A (call (.builtin "list.append") [.ref k.D,v]) (fun _ s'=>CS g k its m (acc++[V]) C σ s') E s:=by
 cases S with|mk vs n nso oc μx S hn hl ra=>
 refine wpAny_list_append_plain (hsz:=Nat.le_trans (Nat.le_of_eq (ra.len.trans rfl)) (Nat.le_trans hz (by decide))) ⟨n,(S.zmem (List.mem_append_right _ (.head _))).1⟩ fun h' hl' hs=> ?_
 obtain⟨n',ho'⟩:=hl'
 exact⟨vs++[v],n',nso,oc,μx,S.zmid hs (ho'.trans (by rw[List.push_toArray])),hn,hl,ra.append (.cons r .nil)⟩
end
section
variable{g:Gx}{k:Cx}{m:AU}{acc:List V}{C:List AB}{A:Around}{cenv:Env}{d n:Nat}{Γ:EC}
structure CH(g:Gx)(k:Cx)(Γ:EC)(A:Around)(cenv:Env)(d:Nat):Prop where
 H:NJ k cenv
 sc:Γ.sc=k.rs
 X:Γ.X=fun _ _=>False
 hd:Γ.hd=false
 Mf:Fm g Γ.K false (d+1) k.f A
 HF:BI g Γ.K d Γ.fn
 HC:ER g Γ.K (d+1) Γ.cp
theorem OE{f:Fx}{X:XQ}{σ:Lg}{ev:Value}{s':Shared}{p:Prop}(h:Ab g f X σ ev s')(hX:X=fun _ _=>False):p:=by
 cases h with|mk _ _ _ _ _ _ _ _ _ _ _ _ _ _ _ q=>subst hX;exact fE q
theorem Sg(c:CH g k Γ A cenv d){e:Expr}{Q:VQ}{σ:Lg}{its:BK}{s:Shared}{E:Value→Shared→Prop}(h:BV Γ n e m C Q)(S:CS g k its m acc C σ s):
  wpAny g.M A (eval e cenv) (Sw g k its m acc Q σ) E s:=by
 cases S with|mk vs n0 nso oc μx S hn hl ra=>
 have H:=c.H
 have O:DQ (k.f.wz (its++((k.D,Ag "list" vs n0)::(k.Cn,nso)::(oc++k.f.b.z)))) ⟨k.rs,k.cl,oc++k.zc,μx⟩ cenv:=
  ⟨H.sc,H.kind,H.glo,H.blt,H.cells,H.fr,.inr ⟨nso,by rw[H.ns];exact List.mem_append_right _ (.tail _ (.head _)),by rw[H.ns];exact hn⟩,fun q hq=>List.mem_append_right _ (.tail _ (.tail _ ((List.mem_append.mp hq).elim (fun h=>List.mem_append_left _ h) fun h=>List.mem_append_right _ (H.hz q h))))⟩
 refine wpAny_mono ((KI ⟨by rw[c.hd];exact c.Mf.wz,O,c.HF,c.HC,c.sc⟩ n).e h S hl) (fun v s' q=> ?_) fun ev s' q=>OE q c.X
 obtain⟨σ1,V1,C1,e1,S1,r1,q⟩:=q
 exact⟨σ1,V1,C1,e1,⟨vs,n0,nso,oc,μx,S1,hn,hl.ext e1,ra.ext e1⟩,r1,q⟩
end
section
variable{elt:Expr}{gens:List Comprehension}{csc:Scope}{pos:Pos}{depth:Nat}{it acc:Value}{env:Env}{x:Str}{px:Pos}{it0:Expr}
noncomputable def KD(it0:Expr)(it:Value)(x:Str)(px:Pos)(env:Env)(K:Sem Fin):Sem Fin:=
 standAt it0.pos>>=fun _=>pyNext it>>=fun r=>match r with
   |none=>pure (.done .next)
   |some v=>assign (.Name x px) env v>>=fun _=>K
theorem Jw{y:Str}{py:Pos}{it1:Expr}(hd:gens[depth]? =some ⟨.Name x px,it0,[],0⟩)(hn:gens[depth+1]? =some ⟨.Name y py,it1,[],0⟩):
  compTurn (.ListComp elt gens csc pos) depth it acc env=KD it0 it x px env (eval it1 env>>=fun xv=>standAt it1.pos>>=fun _=>foldedSetIterable it1 env xv>>=fun xv=>(holding [xv] (pyIter xv))>>=fun jt=>runOwn (.compStart (.ListComp elt gens csc pos) (depth+1) jt acc env) env>>=fun _=>again (.compLoop (.ListComp elt gens csc pos) depth it acc env)):=by
 unfold compTurn
 dsimp only
 rw[hd]
 dsimp only
 rw[hn]
 rfl
theorem Il(hd:gens[depth]? =some ⟨.Name x px,it0,[],0⟩)(hn:gens[depth+1]? =none):
  compTurn (.ListComp elt gens csc pos) depth it acc env=KD it0 it x px env ((eval elt env>>=fun y=>call (.builtin "list.append") [acc,y]>>=fun _=>pure ())>>=fun _=>again (.compLoop (.ListComp elt gens csc pos) depth it acc env)):=by
 unfold compTurn
 dsimp only
 rw[hd]
 dsimp only
 rw[hn]
 rfl
theorem FM{g:Gx}{A:Around}{R:Result→Shared→Prop}{s:Shared}(hd:gens[depth]? =some ⟨.Name x px,it0,[],0⟩)
  (h0:codeAny g.M A (.compLoop (.ListComp elt gens csc pos) depth it acc env) R s)
  (h:wpAny g.M A (pyIter it) (fun it' s'=>codeAny g.M A (.compLoop (.ListComp elt gens csc pos) depth it' acc env) R s') (notedBy g.M A env fun x s'=>R (.error x) s') s):
  codeAny g.M A (.compStart (.ListComp elt gens csc pos) depth it acc env) R s:=by
 refine codeAny_of_tree ?_
 show wpAny _ _ ((compStart (.ListComp elt gens csc pos) depth it acc env).onRaise (fun x=>do noteFrame x env;standAt theWindowsPlace)) _ _ s
 refine wpAny_notedAt ?_
 unfold compStart
 have hc:(clausesOf (.ListComp elt gens csc pos))[depth]? =some ⟨.Name x px,it0,[],0⟩:=hd
 rw[hc]
 show wpAny _ _ (ask>>=_) _ _ s
 refine wpAny_bind (wpAny_askSetting (wpAny_ite ?_))
 split
 ·first
   |exact wpAny_bind (wpAny_pure (wpAny_pure (aI rfl h0)))
   |exact wpAny_pure (aI rfl h0)
 ·first
   |exact wpAny_bind (wpAny_rule (wpAny_bind (wpAny_standAt (wpAny_bind (wpAny_mono h (fun it' s' h'=>wpAny_pure (aI rfl h')) fun _ _ x=>x)))))
   |(refine wpAny_bind (wpAny_rule ?_);show wpAny _ _ (standAt it0.pos>>=_) _ _ s;exact wpAny_bind (wpAny_standAt (wpAny_bind (wpAny_mono h (fun it' s' h'=>wpAny_pure (aI rfl h')) fun _ _ x=>x))))
end
theorem Ol{c:Comprehension}(h:Lo c=true):∃y py it1,c=⟨.Name y py,it1,[],0⟩:=by
 obtain⟨t,it1,ifs,a⟩:=c
 have h:=AZ h
 have h2:=AZ h.2
 obtain⟨x,hx⟩:=Option.isSome_iff_exists.mp h.1
 exact⟨x.1,x.2,it1,by rw[show t=_ from Cb.ok hx,show ifs=[] from List.isEmpty_iff.mp h2.1,show a=0 from bE h2.2]⟩
theorem Lp{gens:List Comprehension}{depth:Nat}{c:Comprehension}{gs:List Comprehension}(hg:gens.drop depth=c::gs):gens[depth]? =some c∧gens[depth+1]? =gs.head? :=by
 have h0:=List.getElem?_drop (xs:=gens) (i:=depth) (j:=0)
 have h1:=List.getElem?_drop (xs:=gens) (i:=depth) (j:=1)
 rw[hg] at h0 h1
 exact⟨h0.symm,h1.symm.trans (by cases gs<;>rfl)⟩
section
variable{g:Gx}{k:Cx}{its:BK}{m:AU}{acc:List V}{C:List AB}{σ σ0:Lg}{s:Shared}{A:Around}{cenv:Env}{d n:Nat}{Γ:EC}{Q:List V→List AB→Prop}{keep:List AB→Prop}{xs:List V}
abbrev yH:=V→List V→List AB→(List V→List AB→Prop)→Prop
inductive Sy(g:Gx)(k:Cx)(its:BK)(m:AU)(Q:List V→List AB→Prop)(σ:Lg)(s':Shared):Prop where
 |mk:∀σ' acc' C',Am σ σ'→CS g k its m acc' C' σ' s'→Q acc' C'→Sy g k its m Q σ s'
def XC(g:Gx)(k:Cx)(its:BK)(m:AU)(Q:List V→List AB→Prop)(σ:Lg)(r:Result)(s':Shared):Prop:=r= .ok .next∧Sy g k its m Q σ s'
inductive Su(g:Gx)(k:Cx)(its:BK)(m:AU)(σ:Lg)(T:Ex g σ0 keep xs)(I:Addr)(F:yH)(Q:List V→List AB→Prop)(i:Nat)(s:Shared):Prop
 |mk:∀j o acc C σ',i=xs.length+1 - j→j≤xs.length→T.obj j o→Am σ σ'→keep C→CS g k ((I,o)::its) m acc C σ' s→C8 keep F (xs.drop j) acc C Q→Su g k its m σ T I F Q i s
def K0(g:Gx)(k:Cx)(A:Around)(its:BK)(m:AU)(x:Str)(F:yH)(c:Code)(I:Addr)(K:Sem Fin):Prop:=
 ∀y o acc C σ s Kq R E,CS g k ((I,o)::its) (Ae m x y) acc C σ s→F y acc C Kq→
  (∀σ' acc' C' s',Am σ σ'→CS g k ((I,o)::its) (Ae m x y) acc' C' σ' s'→Kq acc' C'→wpAny g.M A (again c) R E s')→wpAny g.M A K R E s
theorem H4{elt:Expr}{gens:List Comprehension}{csc:Scope}{pos:Pos}{depth:Nat}{x:Str}{px:Pos}{it0:Expr}{K:Sem Fin}{T:Ex g σ0 keep xs}{I:Addr}{F:yH}{o:Obj}(H:NJ k cenv)(hh:A.handled=none)(hx:Cm k.rs x=true)(hfree:∀c,k.rs.names.lookup x=some .cell→k.cl.lookup x=some c→∀p∈k.zc,p.1≠c)(hmx:(AP m x).isNone=true)
  (hturn:compTurn (.ListComp elt gens csc pos) depth (.ref I) (.ref k.D) cenv=KD it0 (.ref I) x px cenv K) (hK:K0 g k A its m x F (.compLoop (.ListComp elt gens csc pos) depth (.ref I) (.ref k.D) cenv) I K)
  (ho:T.obj 0 o) (e0:Am σ0 σ) (hkp:keep C) (S:CS g k ((I,o)::its) m acc C σ s) (hv:C8 keep F xs acc C Q):codeAny g.M A (.compLoop (.ListComp elt gens csc pos) depth (.ref I) (.ref k.D) cenv) (XC g k its m Q σ) s:=by
 refine codeAny_loop rfl (Su g k its m σ T I F Q) (fun i s hJ=> ?_) (xs.length+1) ⟨0,o,acc,C,σ,rfl,Nat.zero_le _,ho,.refl,hkp,S,hv⟩
 show wpAny _ A ((compTurn (.ListComp elt gens csc pos) depth (.ref I) (.ref k.D) cenv).onRaise (fun x=>do noteFrame x cenv;theTreesLotGoes x)) _ _ s
 refine wpAny_noted ?_
 rw[hturn]
 obtain⟨j,o,acc,C,σ1,rfl,hj,ho,ex,hkp,S,hv⟩:=hJ
 cases S with|mk vs n0 nso oc μx S hn hl ra=>
 refine wpAny_bind (wpAny_standAt (wpAny_bind (wpAny_mono (T.next j A _ k.f s C σ1 I o _ hh (e0.trans ex) hkp S ho hj) (fun r s3 q=> ?_) fun _ _ e=>e)))
 cases r with
 |none=>
  obtain⟨rfl,S3⟩:=q
  rw[List.drop_length] at hv
  exact wpAny_pure ⟨rfl,σ1,acc,C,ex,⟨vs,n0,nso,oc,μx,S3,hn,hl,ra⟩,hv⟩
 |some v=>
  obtain⟨y,o',hy,ry,ho',S3⟩:=q
  obtain⟨hlt,hdrop⟩:=Ls hy
  rw[hdrop] at hv
  refine wpAny_bind (wpAny_mono (WJ (its:=(I,o')::its) H hx hfree ⟨vs,n0,nso,oc,μx,S3,hn,hl,ra⟩ ry) (fun _ s4 S4=> ?_) fun _ _ e=>e)
  exact hK y o' acc C σ1 s4 _ _ _ S4 hv fun σ' acc' C' s' e' S' q=>wpAny_pure ⟨rfl,xs.length+1 - (j+1),Hu hlt,.mk (j+1) o' acc' C' σ' rfl hlt ho' (ex.trans e') q.1 (S'.sub (Jd hmx)) q.2⟩
theorem NW(c:CH g k Γ A cenv d){csc:Scope}{elt:Expr}{code:Code}{x:Str}{I:Addr}:K0 g k A its m x (fun i acc C K=>R7 Γ csc n elt [] (Ae m x i) acc C K) code I ((eval elt cenv>>=fun y=>call (.builtin "list.append") [.ref k.D,y]>>=fun _=>pure ())>>=fun _=>again code):=by
 intro y o acc C σ s Kq R E S hv go
 obtain⟨hz,hv⟩:=hv
 refine wpAny_bind (wpAny_bind (wpAny_mono (Sg c hv S) (fun y s5 q=> ?_) fun _ _ e=>e))
 obtain⟨σ5,V5,C5,e5,S5,r5,q⟩:=q
 exact wpAny_bind (wpAny_mono (RM S5 r5 hz) (fun _ s6 S6=>wpAny_pure (go _ _ _ _ e5 S6 q)) fun _ _ e=>e)
theorem P1(c:CH g k Γ A cenv d){csc:Scope}{elt:Expr}{pos:Pos}{gens gs:List Comprehension}{depth:Nat}{code:Code}{x y:Str}{py:Pos}{it1:Expr}{I:Addr}(hn:gens[depth+1]? =some ⟨.Name y py,it1,[],0⟩)
  (ih:∀(xs:List V) (keep:List AB→Prop) (σ0:Lg) (T:Ex g σ0 keep xs) (its:BK) (I:Addr) (o:Obj) (m:AU) (acc:List V) (C:List AB) (σ:Lg) (s:Shared) (Q:List V→List AB→Prop),(AP m y).isNone=true→Cm csc y=true→T.obj 0 o→Am σ0 σ→keep C→
    CS g k ((I,o)::its) m acc C σ s→C8 keep (fun i acc C K=>R7 Γ csc n elt gs (Ae m y i) acc C K) xs acc C Q→
    codeAny g.M A (.compLoop (.ListComp elt gens csc pos) (depth+1) (.ref I) (.ref k.D) cenv) (XC g k its m Q σ) s):
  K0 g k A its m x (fun i acc C K=>R7 Γ csc n elt (⟨.Name y py,it1,[],0⟩::gs) (Ae m x i) acc C K) code I (eval it1 cenv>>=fun xv=>standAt it1.pos>>=fun _=>foldedSetIterable it1 cenv xv>>=fun xv=>(holding [xv] (pyIter xv))>>=fun jt=>runOwn (.compStart (.ListComp elt gens csc pos) (depth+1) jt (.ref k.D) cenv) cenv>>=fun _=>again code):=by
 intro z o acc C σ s Kq R E S hv go
 obtain⟨hc,hv⟩:=AD.ok hv
 have hc:=AZ (AZ (AZ hc).2).2
 have hc2:=AZ hc.2
 refine wpAny_bind (wpAny_mono (Sg c hv S) (fun yv s5 q=> ?_) fun _ _ e=>e)
 obtain⟨σ5,V5,C5,e5,S5,r5,hok,hv5⟩:=q
 obtain⟨ys,hys,hv6⟩:=AF.ok hv5
 refine wpAny_bind (wpAny_standAt (wpAny_bind (wpAny_of_eq (Dw hc.1) ?_)))
 cases S5 with|mk vs5 n5 nso5 oc5 μx5 St5 hn5 hl5 ra5=>
 refine wpAny_bind (wpAny_holding (wpAny_mono (Ng St5 r5 hys hok) (fun jt s6 q=> ?_) fun _ _ e=>e))
 obtain⟨I6,o6,T6,rfl,ho6,S6⟩:=q
 have g1:=ih ys _ _ T6 ((I,o)::its) I6 o6 (Ae m x z) acc C5 σ5 s6 Kq hc2.1 hc2.2 ho6 .refl (Er V5 C5) ⟨vs5,n5,nso5,oc5,μx5,S6,hn5,hl5,ra5⟩ hv6
 have g2:=codeAny_mono g1 (R':=fun r s'=>match r with| .ok f=>wpAny g.M A (again code) R E s'| .error e=>cameBackBy g.M A cenv E e s') fun r s7 q=>by
  obtain⟨rfl,σ7,acc7,C7,e7,S7,q⟩:=q
  exact go σ7 acc7 C7 s7 (e5.trans e7) S7 q
 exact wpAny_bind (wpAny_runOwn (h:=none) (FM hn g2 (T6.self 0 A _ s6 I6 o6 _ (S6.zmem (p:=(I6,o6)) (.head _)).1 ho6 g2)) (by intro x;cases x))
theorem RJ{elt:Expr}{gens:List Comprehension}{csc:Scope}{pos:Pos}(c:CH g k Γ A cenv d)
  (hvar:∀x,Cm csc x=true→Cm k.rs x=true∧∀c,k.rs.names.lookup x=some .cell→k.cl.lookup x=some c→∀p∈k.zc,p.1≠c)
  (hall:∀g∈gens,Lo g=true) (gs:List Comprehension):
  ∀(depth:Nat) (x:Str) (px:Pos) (it0:Expr),gens.drop depth=⟨.Name x px,it0,[],0⟩::gs→
   ∀(xs:List V) (keep:List AB→Prop) (σ0:Lg) (T:Ex g σ0 keep xs) (its:BK) (I:Addr) (o:Obj) (m:AU) (acc:List V) (C:List AB) (σ:Lg) (s:Shared) (Q:List V→List AB→Prop),(AP m x).isNone=true→Cm csc x=true→T.obj 0 o→Am σ0 σ→keep C→
    CS g k ((I,o)::its) m acc C σ s→C8 keep (fun i acc C K=>R7 Γ csc n elt gs (Ae m x i) acc C K) xs acc C Q→
    codeAny g.M A (.compLoop (.ListComp elt gens csc pos) depth (.ref I) (.ref k.D) cenv) (XC g k its m Q σ) s:=by
 have hh:A.handled=none:=c.Mf.hh rfl
 induction gs with
 |nil=>
  intro depth x px it0 hg xs keep σ0 T its I o m acc C σ s Q hmx hx ho e0 hkp S hv
  obtain⟨hd,hn⟩:=Lp hg
  exact H4 c.H hh (hvar x hx).1 (hvar x hx).2 hmx (Il hd hn) (NW c) ho e0 hkp S hv
 |cons c0 gs ih=>
  intro depth x px it0 hg xs keep σ0 T its I o m acc C σ s Q hmx hx ho e0 hkp S hv
  obtain⟨hd,hn⟩:=Lp hg
  obtain⟨y,py,it1,rfl⟩:=Ol (hall c0 (List.mem_of_getElem? hn))
  have hg1:gens.drop (depth+1)=⟨.Name y py,it1,[],0⟩::gs:=by rw[←List.drop_drop,hg];rfl
  exact H4 c.H hh (hvar x hx).1 (hvar x hx).2 hmx (Jw hd hn) (P1 c hn (ih (depth+1) y py it1 hg1)) ho e0 hkp S hv
end
end
section
noncomputable abbrev GK:Obj:={cls:= .type "cell",data:= .cell none}
noncomputable abbrev OC:Obj:={cls:= .type "dict",data:= .dict #[]}
abbrev KA:=List (Str×Addr)
def Df(l:KA):BK:=l.map fun p=>(p.2,GK)
section
variable{α:Type}{l:List (Str×α)}{x:Str}{k:α}
theorem Bi(h:l.lookup x=some k):(x,k)∈l:=by
 obtain⟨a,b,rfl,_⟩:=List.lookup_eq_some_iff.mp h
 exact List.mem_append_right _ (.head _)
theorem Gv(h:l.lookup x=some k):x∈l.map (·.1):=mM ⟨_,Bi h,rfl⟩
theorem EV(h:x∈l.map (·.1)):∃k,l.lookup x=some k:=by
 obtain⟨p,hp,e⟩:=List.mem_map.mp h
 exact Option.isSome_iff_exists.mp (List.lookup_isSome_iff.mpr ⟨p,hp,beq_iff_eq.mpr e.symm⟩)
theorem Da(nd:(l.map (·.1)).Nodup)(h:(x,k)∈l):l.lookup x=some k:=by
 induction l with
 |nil=>exact nomatch h
 |cons p l ih=>
  have nd:=List.nodup_cons.mp nd
  cases h with
  |head=>exact List.lookup_cons_self
  |tail _ h=>
   obtain⟨y,k'⟩:=p
   rw[List.lookup_cons,beq_eq_false_iff_ne.mpr fun e:x=y=>nd.1 (e▸mM ⟨_,h,rfl⟩)]
   exact ih nd.2 h
theorem P8{x y:Str}{l:List (Str×α)}(nd:(l.map (·.2)).Nodup)(h1:(x,k)∈l)(h2:(y,k)∈l):x=y:=by
 induction l with
 |nil=>exact nomatch h1
 |cons p l ih=>
  have nd:=List.nodup_cons.mp nd
  cases h1 with
  |head=>cases h2 with
   |head=>rfl
   |tail _ h2=>exact absurd (mM ⟨_,h2,rfl⟩) nd.1
  |tail _ h1=>cases h2 with
   |head=>exact absurd (mM ⟨_,h1,rfl⟩) nd.1
   |tail _ h2=>exact ih nd.2 h1 h2
end
theorem KK{k:NameKind}{b:Bool}{y:Str}(h:(!(k==NameKind.free)||b)=true):(if(k== .free&&true&&b)=true then(y,NameKind.cell) else(y,k))=(y,if k== .free then .cell else k):=by
 cases k<;>first|rfl|(cases b;exact BQ h;rfl)
theorem Hc{sc csc:Scope}{x:Str}(hk:sc.kind= .function)(h:Oo sc csc=true):(Bx sc csc).names.lookup x=(csc.names.lookup x).map fun k=>if k== .free then .cell else k:=by
 unfold Bx
 unfold Oo at h
 dsimp only
 rw[hk]
 generalize csc.names=l at h
 induction l with
 |nil=>rfl
 |cons p r ih=>
  obtain⟨y,k⟩:=p
  have h:=AZ ((List.all_cons ..).symm.trans h)
  rw[List.map_cons,List.lookup_cons]
  dsimp only
  rw[show(ScopeKind.function==ScopeKind.function)=true from rfl,KK h.1,List.lookup_cons]
  dsimp only
  cases x==y with
  |true=>rfl
  |false=>exact ih h.2
theorem F0{csc:Scope}{x:Str}{v:V}{m:AU}:(h:AP (CR csc m) x=some v)→csc.names.lookup x=some .free∧AP m x=some v:=by
 unfold CR
 induction m with
 |nil=>exact AM
 |cons p r ih=>
  obtain⟨y,u⟩:=p
  intro h
  rw[List.filter_cons] at h
  unfold AP
  by_cases hf:(csc.names.lookup y==some NameKind.free)=true
  ·rw[if_pos hf] at h
   unfold AP at h
   by_cases e:y=x
   ·rw[if_pos e] at h⊢
    exact⟨e▸bE hf,h⟩
   ·rw[if_neg e] at h⊢
    exact ih h
  ·rw[if_neg hf] at h
   have q:=ih h
   exact⟨q.1,(if_neg fun e:y=x=>hf (e▸beq_iff_eq.mpr q.1)).trans q.2⟩
theorem Km{scope:Scope}{env:Env}(h:∀x,(x,NameKind.free)∈scope.names→∃a,env.cells.lookup x=some a):
  ∃cps:KA,closureFor scope env=pure cps∧(∀p∈cps,(p.1,NameKind.free)∈scope.names∧env.cells.lookup p.1=some p.2)∧∀x,(x,NameKind.free)∈scope.names→x∈cps.map (·.1):=by
 have key:∀(names:List (Str×NameKind)) (acc:KA),(∀x,(x,NameKind.free)∈names→∃a,env.cells.lookup x=some a)→
   ∃cps:KA,(forIn names acc fun(p:Str×NameKind) cs=>(if(p.2==NameKind.free)=true then do let a←cellOf env p.1;pure (ForInStep.yield ((p.1,a)::cs)) else pure (ForInStep.yield cs):Sem (ForInStep KA)))=pure (cps++acc)∧(∀p∈cps,(p.1,NameKind.free)∈names∧env.cells.lookup p.1=some p.2)∧∀x,(x,NameKind.free)∈names→x∈cps.map (·.1):=by
  intro names
  induction names with
  |nil=>intro acc _;exact⟨[],rfl,(fun _ h=>nomatch h),fun _ h=>nomatch h⟩
  |cons p r ih=>
   intro acc hx
   rw[List.forIn_cons]
   by_cases hk:(p.2==NameKind.free)=true
   ·obtain⟨n,k⟩:=p
    obtain rfl:k= .free:=bE hk
    obtain⟨a,ha⟩:=hx n (.head _)
    have e0:cellOf env n=pure a:=by unfold cellOf;rw[ha]
    obtain⟨cps,e1,h1,h2⟩:=ih ((n,a)::acc) fun x h=>hx x (.tail _ h)
    rw[if_pos hk,e0,pure_bind,pure_bind]
    dsimp only
    refine⟨cps++[(n,a)],by rw[e1,List.append_assoc];rfl,fun q hq=> ?_,fun x h=> ?_⟩
    ·rcases List.mem_append.mp hq with hq|hq
     ·exact⟨.tail _ (h1 q hq).1,(h1 q hq).2⟩
     ·rw[List.mem_singleton.mp hq];exact⟨.head _,ha⟩
    ·rw[List.map_append]
     cases h with
     |head=>exact List.mem_append_right _ (.head _)
     |tail _ h=>exact List.mem_append_left _ (h2 x h)
   ·obtain⟨cps,e1,h1,h2⟩:=ih acc fun x h=>hx x (.tail _ h)
    rw[if_neg hk,pure_bind]
    exact⟨cps,e1,fun q hq=>⟨.tail _ (h1 q hq).1,(h1 q hq).2⟩,fun x h=>by
     cases h with
     |head=>exact absurd rfl hk
     |tail _ h=>exact h2 x h⟩
 obtain⟨cps,e1,h1,h2⟩:=key scope.names [] h
 refine⟨cps,?_,h1,h2⟩
 rw[List.append_nil] at e1
 unfold closureFor
 exact(congrArg (fun m=>m>>=fun r=>pure r) e1).trans (pure_bind _ _)
section
variable{g:Gx}{f:Fx}{C:List AB}{σ:Lg}{s:Shared}{M:Model}{A:Around}{E:Value→Shared→Prop}
theorem Mm{F:Str×NameKind→KA→Sem (ForInStep KA)}{Q:KA→Shared→Prop}
  (hf:∀p cells,F p cells=if p.2== .cell then(do let a←alloc GK;pure (.yield ((p.1,a)::cells))) else pure (.yield cells)) {names:List (Str×NameKind)}:
  ∀(acc:KA) (z:BK) (s:Shared),St g (f.wz z) C σ s→
   (∀(pairs:KA) (s':Shared),St g (f.wz (Df pairs++z)) C σ s'→(∀x,x∈pairs.map (·.1)↔(x,NameKind.cell)∈names)→Q (pairs++acc) s')→wpAny M A (forIn names acc F) Q E s:=by
 induction names with
 |nil=>exact fun acc z s S h=>wpAny_pure (h [] s S fun x=>⟨(fun h=>nomatch h),fun h=>nomatch h⟩)
 |cons p r ih=>
  intro acc z s S h
  rw[List.forIn_cons,hf]
  by_cases hk:(p.2== .cell)=true
  ·obtain⟨n,k⟩:=p
   obtain rfl:k= .cell:=bE hk
   rw[if_pos hk]
   refine wpAny_bind (wpAny_bind (wpAny_alloc (wpAny_pure (ih _ _ _ (S.zpush' GK) fun pairs s' S' hx=> ?_))))
   rw[List.append_cons]
   refine h _ s' (by unfold Df;rw[List.map_append,List.append_assoc];exact S') fun x=> ?_
   rw[List.map_append,List.mem_append,hx x]
   exact⟨fun q=>q.elim (fun q=> .tail _ q) fun q=>by rw[List.mem_singleton.mp q];exact .head _,fun q=>by
    cases q with
    |head=>exact .inr (.head _)
    |tail _ q=>exact .inl q⟩
  ·rw[if_neg hk]
   exact wpAny_bind (wpAny_pure (ih acc z s S fun pairs s' S' hx=>h pairs s' S' fun x=>(hx x).trans ⟨fun q=> .tail _ q,fun q=>by
    cases q with
    |head=>exact absurd rfl hk
    |tail _ q=>exact q⟩))
theorem KS{scope:Scope}{gl:Addr}{cps:KA}{qual:Str}{env:Env}{Q:Env→Shared→Prop}{z:BK}(S:St g (f.wz z) C σ s)
  (h:∀(pairs:KA) (Cn:Addr) (s':Shared),St g (f.wz (Df pairs++((Cn,OC)::z))) C σ s'→(∀x,x∈pairs.map (·.1)↔(x,NameKind.cell)∈scope.names)→
   Q {scope:=scope,locals:=Cn,globals:=gl,cells:=pairs++cps,qual:=qual,func:=none,code:=env.code,frame:=env.frame,builtins:=env.builtins} s'):
  wpAny M A (newFunctionEnv scope gl cps [] qual none .none (some env)) Q E s:=by
 unfold newFunctionEnv
 exact wpAny_bind (wpAny_alloc (wpAny_bind (Mm (fun _ _=>rfl) cps _ _ (S.zpush' OC) fun pairs s' S' hx=>wpAny_bind (wpAny_pure (wpAny_pure (h pairs _ s' S' hx))))))
theorem St.zdrops{l z:BK}:(S:St g (f.wz (l++z)) C σ s)→St g (f.wz z) C σ s:=by
 induction l with
 |nil=>exact id
 |cons p l ih=>exact fun S=>ih S.zdrop
theorem St.zlet{z l:BK}{c:Addr}{o:Obj}{h':Heap}(S:St g (f.wz ((c,o)::(l++z))) C σ s)(hs:Heap.SameBut c s.heap h'):St g (f.wz z) C σ {s with heap:=h'}:=
 (S.zend fun b _ ne e=>(hs.2 b ne).trans e).zdrops
theorem St.ztoW{z:BK}{p:Addr×Obj}(S:St g (f.wz (p::z)) C σ s):St g (f.wz z) C ⟨p::σ.W,σ.ρ⟩ s:=by
 cases S with|mk os F N k=>
 have pm:(os++(p::z++σ.W)).Perm (os++(z++p::σ.W)):=List.perm_middle.symm.append_left os
 exact⟨os,F,BO N pm,k.c.ext (σ':=⟨p::σ.W,σ.ρ⟩) Am.push,A0 k.nd pm,k.g,k.d,k.o⟩
theorem Rl{l:List V}{vs:List Value}{a:Addr}{n:Nat}(r:BU σ l vs)(h:(a,Ag "list" vs n)∈σ.W):VR σ (Ld l) (.ref a):=by
 unfold Ld
 cases hi:BH l with
 |some is=>exact .li h (BH.ok r hi)
 |none=>exact .lst h r
end
structure CN(N:Nm)(csc:Scope)(pairs cps:KA)(z:BK):Prop where
 look:∀x,(Bx N.sc csc).names.lookup x=(csc.names.lookup x).map fun k=>if k== .free then .cell else k
 free:∀x,csc.names.lookup x=some .free→N.sc.names.lookup x=some .cell
 p:∀x,x∈pairs.map (·.1)↔csc.names.lookup x=some .cell
 nd:(pairs.map (·.2)).Nodup
 fresh:∀c∈pairs.map (·.2),∀q∈z,q.1≠c
 c1:∀p∈cps,csc.names.lookup p.1=some .free∧N.cl.lookup p.1=some p.2
 c2:∀x,csc.names.lookup x=some .free→x∈cps.map (·.1)
 zc:∀q∈N.zc,q∈z
section
variable{N:Nm}{csc:Scope}{pairs cps:KA}{z:BK}{x:Str}{a:Addr}
inductive yG(N:Nm)(csc:Scope)(pairs:KA)(x:Str)(a:Addr):Prop
 |own:csc.names.lookup x=some .cell→(x,a)∈pairs→yG N csc pairs x a
 |out:csc.names.lookup x=some .free→N.cl.lookup x=some a→yG N csc pairs x a
theorem CN.lk(c:CN N csc pairs cps z):(h:(pairs++cps).lookup x=some a)→yG N csc pairs x a:=by
 rw[List.lookup_append]
 cases hp:pairs.lookup x with
 |some b=>exact fun h=> .own ((c.p x).mp (Gv hp)) (oJ h▸Bi hp)
 |none=>exact fun h=> .out (c.c1 _ (Bi h)).1 (c.c1 _ (Bi h)).2
theorem CN.lkC(c:CN N csc pairs cps z)(hx:csc.names.lookup x=some .cell):∃a,(x,a)∈pairs∧(pairs++cps).lookup x=some a:=by
 obtain⟨a,h⟩:=EV ((c.p x).mpr hx)
 exact⟨a,Bi h,by rw[List.lookup_append,h];rfl⟩
theorem CN.lkF(c:CN N csc pairs cps z)(hx:csc.names.lookup x=some .free)(ha:N.cl.lookup x=some a):(pairs++cps).lookup x=some a:=by
 rw[List.lookup_append]
 cases hp:pairs.lookup x with
 |some b=>exact nomatch oJ (hx.symm.trans ((c.p x).mp (Gv hp)))
 |none=>
  obtain⟨b,hb⟩:=EV (c.c2 x hx)
  exact hb.trans ((c.c1 _ (Bi hb)).2.symm.trans ha)
theorem CN.cell(c:CN N csc pairs cps z)(hx:(Bx N.sc csc).names.lookup x=some .cell):csc.names.lookup x=some .cell∨csc.names.lookup x=some .free:=by
 rw[c.look x] at hx
 revert hx
 cases csc.names.lookup x with
 |none=>exact AM
 |some k=>cases k<;>intro h<;>first|exact .inl rfl|exact .inr rfl|exact nomatch oJ h
variable{σ:Lg}{m:AU}
theorem CN.far(c:CN N csc pairs cps z)(hl:A2 N σ m){y:Str}(h1:(x,a)∈pairs)(h2:csc.names.lookup y=some .free)(h3:N.cl.lookup y=some a){p:Prop}:p:=by
 obtain⟨a',o,v,h4,h5,_⟩:=hl.cel y (c.free y h2)
 obtain rfl:=oJ (h3.symm.trans h4)
 exact absurd rfl (c.fresh _ (mM ⟨_,h1,rfl⟩) _ (c.zc _ h5))
theorem CN.start(c:CN N csc pairs cps z)(hl:A2 N σ m):A2 ⟨Bx N.sc csc,pairs++cps,Df pairs++N.zc,fun _=>none⟩ σ (CR csc m):=by
 refine⟨fun x v hxv=> ?_,fun x hxc=> ?_,fun x y a hxa hya=> ?_⟩
 ·obtain⟨hf,hm⟩:=F0 hxv
  obtain⟨a,o,y,h1,h2,h3,r⟩:=(hl.loc x v hm).2 (.inl (c.free x hf))
  have e0:(Bx N.sc csc).names.lookup x=some .cell:=by rw[c.look x,hf];rfl
  exact⟨fun q=>(nomatch oJ (e0.symm.trans q)),fun _=>⟨a,o,y,c.lkF hf h1,List.mem_append_right _ h2,h3,r⟩⟩
 ·rcases c.cell hxc with hx|hx
  ·obtain⟨a,h1,h2⟩:=c.lkC hx
   exact⟨a,GK,none,h2,List.mem_append_left _ (mM ⟨_,h1,rfl⟩),rfl⟩
  ·obtain⟨a,o,v,h1,h2,h3⟩:=hl.cel x (c.free x hx)
   exact⟨a,o,v,c.lkF hx h1,List.mem_append_right _ h2,h3⟩
 ·rcases c.lk hxa with⟨cx,m1⟩|⟨fx,l1⟩
  ·rcases c.lk hya with⟨cy,m2⟩|⟨fy,l2⟩
   ·exact P8 c.nd m1 m2
   ·exact c.far hl m1 fy l2
  ·rcases c.lk hya with⟨cy,m2⟩|⟨fy,l2⟩
   ·exact c.far hl m2 fx l1
   ·exact hl.inj x y a l1 l2
theorem CN.var(c:CN N csc pairs cps z)(hx:Cm csc x=true):Cm (Bx N.sc csc) x=true∧∀a,(Bx N.sc csc).names.lookup x=some .cell→(pairs++cps).lookup x=some a→∀q∈N.zc,q.1≠a:=by
 unfold Cm at hx⊢
 rw[c.look x]
 rcases Bool.or_eq_true_iff.mp hx with hx|hx
 ·rw[bE hx]
  exact⟨rfl,fun _ h=>nomatch oJ h⟩
 ·have hx':=bE hx
  rw[hx']
  refine⟨rfl,fun a _ ha q hq=> ?_⟩
  rcases c.lk ha with⟨_,h⟩|⟨h,_⟩
  ·exact c.fresh a (mM ⟨_,h,rfl⟩) q (c.zc q hq)
  ·exact nomatch oJ (hx'.symm.trans h)
end
theorem Nx{α:Type}{a b c:α}{oc z:List α}:(oc++(a::b::c::z)).Perm (c::b::a::(oc++z)):=
 (List.perm_append_comm_assoc oc [a,b,c] z).trans ((List.Perm.swap b a _).trans (((List.Perm.swap c a _).cons b).trans (List.Perm.swap c b _)))
structure Sv(Γ:EC)(n:Nat)(el:Expr)(csc:Scope)(m:AU)(C:List AB)(Q:VQ)(x:Str)(it:Expr)(gs:List Comprehension):Prop where
 ns:Gp it=true
 lx:Cm csc x=true
 fv:Oo Γ.sc csc=true
 ck:csc.kind= .function
 all:∀c∈gs,Lo c=true
 nd:(csc.names.map (·.1)).Nodup
 h:BV (Γ.sX fun _ _=>False) n it m C fun v C=>Ms v∧AF (G2 C v) fun items=>
   C8 (FD v C) (fun i acc C Q=>R7 ((Γ.sS (Bx Γ.sc csc)).sX fun _ _=>False) csc n el gs (Ae (CR csc m) x i) acc C Q) items [] C fun out C=>Q (Ld out) C
theorem NV{Γ:EC}{n:Nat}{el:Expr}{gs:List Comprehension}{csc:Scope}{m:AU}{C:List AB}{Q:VQ}(h:XG Γ n el gs csc m C Q):∃x px it gs',gs=⟨.Name x px,it,[],0⟩::gs'∧Sv Γ n el csc m C Q x it gs':=by
 unfold XG at h
 split at h
 ·rename_i x px it ifs a gs
  obtain⟨hc,h⟩:=AD.ok h
  have h1:=AZ hc
  have h2:=AZ h1.2
  have h3:=AZ h2.2
  have h4:=AZ h3.2
  have h5:=AZ h4.2
  have h6:=AZ h5.2
  have h7:=AZ h6.2
  exact⟨x,px,it,gs,by rw[show a=0 from bE h1.1,List.isEmpty_iff.mp h2.1],h3.1,h4.1,h5.1,bE h6.1,fun c hc=>List.all_eq_true.mp h7.1 c hc,of_decide_eq_true h7.2,h⟩
 ·exact h.elim
section
variable{g:Gx}{f:Fx}{N:Nm}{Γ:EC}{A:Around}{env:Env}{d n:Nat}{m:AU}{C:List AB}{σ:Lg}{s:Shared}{E:Value→Shared→Prop}
def uQ(g:Gx)(f:Fx)(Q:VQ)(σ:Lg)(G:Value→Addr→Shared→Prop):Prop:=
 ∀σ' C' V D Cn nso zx s',Am σ σ'→St g (f.wz ((Cn,nso)::(zx++f.b.z))) C' σ' s'→(∃mm,∀h:Heap,h.get? Cn=some nso→h.Ns Cn mm)→VR σ' V (.ref D)→Q V C'→G (.ref D) Cn s'
theorem RI{el:Expr}{gs:List Comprehension}{csc:Scope}{pos:Pos}{x:Str}{px:Pos}{it:Expr}{Q:VQ}{G:Result→Value→Addr→Shared→Prop}{cps:KA}{v:V}{xs:List V}{itv:Value}
  (Mf:Fm g Γ.K false (d+1) f A) (hhd:Γ.hd=false) (O:DQ f N env) (HF:BI g Γ.K d Γ.fn) (HC:ER g Γ.K (d+1) Γ.cp) (D:Sv Γ n el csc m C Q x it gs) (esc:Γ.sc=N.sc) (hl:A2 N σ m)
  (look:∀x,(Bx N.sc csc).names.lookup x=(csc.names.lookup x).map fun k=>if k== .free then .cell else k) (hfree:∀x,csc.names.lookup x=some .free→N.sc.names.lookup x=some .cell)
  (c1:∀p∈cps,csc.names.lookup p.1=some .free∧N.cl.lookup p.1=some p.2) (c2:∀x,csc.names.lookup x=some .free→x∈cps.map (·.1))
  {C':List AB} (S:J5 g f C' σ v xs itv s) (h:C8 (FD v C') (fun i acc C Q=>R7 ((Γ.sS (Bx Γ.sc csc)).sX fun _ _=>False) csc n el gs (Ae (CR csc m) x i) acc C Q) xs [] C' fun out C=>Q (Ld out) C)
  (My:uQ g f Q σ (G (.ok .next))):
  wpAny g.M A (newList []) (fun acc s₃=>wpAny g.M A (newFunctionEnv csc env.globals cps [] env.qual none .none (some env)) (fun cenv s₄=>
    codeAny g.M A (.compStart (.ListComp el (⟨.Name x px,it,[],0⟩::gs) csc pos) 0 itv acc {cenv with scope:=relabel csc env}) (fun r s=>G r acc cenv.locals s) s₄) E s₃) E s:=by
 obtain⟨I,o,T,rfl,ho,S2⟩:=S
 have S3:=S2.zpush' (Ag "list" [] 0)
 refine wpAny_newList ?_
 refine KS S3 fun pairs Cn s4 S4 hp=> ?_
 generalize s.heap.objs.size=D0 at S4⊢
 have nd4:=S4.zdup
 rw[List.map_append,List.nodup_append] at nd4
 have e2:(Df pairs).map (·.1)=pairs.map (·.2):=by unfold Df;rw[List.map_map];rfl
 rw[e2] at nd4
 have c:CN N csc pairs cps f.b.z:=⟨look,hfree,fun x=>(hp x).trans ⟨Da D.nd,Bi⟩,nd4.1,fun c hc q hq e=>nd4.2.2 c hc q.1 (.tail _ (.tail _ (.tail _ (mM ⟨q,hq,rfl⟩)))) e.symm,c1,c2,O.zc⟩
 have CE:NJ ⟨f,Bx N.sc csc,pairs++cps,N.zc,D0,Cn⟩ {scope:=relabel csc env,locals:=Cn,globals:=env.globals,cells:=pairs++cps,qual:=env.qual,func:=none,code:=env.code,frame:=env.frame,builtins:=env.builtins}:=
  ⟨by unfold relabel Bx Env.kindOf;rw[O.sc],D.ck,O.glo,O.blt,rfl,O.fr,rfl,O.zc⟩
 have CS5:CS g ⟨f,Bx N.sc csc,pairs++cps,N.zc,D0,Cn⟩ [(I,o)] (CR csc m) [] C' σ s4:=
  ⟨[],0,OC,Df pairs,fun _=>none,S4.zperm Nx,fun h hh=>⟨_,#[],0,hh,rfl,fun _ he=>(nomatch he),fun _=>rfl⟩,c.start hl,.nil⟩
 have hxf:(AP (CR csc m) x).isNone=true:=by
  cases hq:AP (CR csc m) x with
  |none=>rfl
  |some v=>
   have hx:=D.lx
   unfold Cm at hx
   rw[(F0 hq).1] at hx
   exact BQ hx
 rw[esc] at h
 have go:=RJ (pos:=pos) (gens:=⟨.Name x px,it,[],0⟩::gs) (Γ:=(Γ.sS (Bx N.sc csc)).sX fun _ _=>False) ⟨CE,rfl,rfl,hhd,Mf,HF,HC⟩ (fun _ h=>c.var h) (fun c hc=>by
  cases hc with
  |head=>rfl
  |tail _ hc=>exact D.all c hc) gs 0 x px it rfl xs _ σ T [] I o (CR csc m) [] C' σ s4 _ hxf D.lx ho .refl (Er v C') CS5 h
 refine codeAny_mono (FM rfl go (T.self 0 A _ s4 I o _ (St.zmem (S4.zperm Nx) (p:=(I,o)) (.head _)).1 ho go)) fun r s6 q=> ?_
 obtain⟨rfl,σ6,acc6,C6,e6,S6,q6⟩:=q
 cases S6 with|mk vs6 n6 nso6 oc6 μx6 S6 hns6 hl6 ra6=>
 have S7:=S6.ztoW
 have e7:Am σ6 ⟨(D0,Ag "list" vs6 n6)::σ6.W,σ6.ρ⟩:=Am.push
 exact My _ _ _ _ _ _ _ _ (e6.trans e7) S7 ⟨_,hns6⟩ (Rl (ra6.ext e7) (.head _)) q6
theorem H5{el:Expr}{gs:List Comprehension}{csc:Scope}{pos:Pos}{Q:VQ}{QQ:Value→Shared→Prop}(use:Option (Value→Sem Unit))
  (Mf:Fm g Γ.K false (d+1) f A) (hhd:Γ.hd=false) (O:DQ f N env) (HF:BI g Γ.K d Γ.fn) (HC:ER g Γ.K (d+1) Γ.cp) (esc:Γ.sc=N.sc)
  (h:XG Γ n el gs csc m C Q) (S:St g f C σ s) (hl:A2 N σ m) (My:uQ g f Q σ fun D Cn s'=>compPost g.M A E use QQ D Cn (.ok .next) s'):
  wpAny g.M A (comprehension (.ListComp el gs csc pos) csc env (firstIterPos gs pos) (newList []) (firstAsync gs) (firstIter gs env) use) QQ E s:=by
 obtain⟨x,px,it,gs,rfl,D⟩:=NV h
 have hfv:Oo N.sc csc=true:=esc▸D.fv
 have hfree:∀x,csc.names.lookup x=some .free→N.sc.names.lookup x=some .cell:=fun x hx=>bE (List.all_eq_true.mp hfv _ (Bi hx))
 obtain⟨cps,hclos,c1,c2⟩:=Km (scope:=csc) (env:=env) fun x hx=>by
  obtain⟨a,o,v,h1,_⟩:=hl.cel x (hfree x (Da D.nd hx))
  exact⟨a,by rw[O.cells];exact h1⟩
 refine wpAny_comprehension_free (g:=⟨.Name x px,it,[],0⟩) (gs:=gs) rfl (fun v=>Dw D.ns) hclos D.ck (fun q hq hk=>Da D.nd (by rw[←hk];exact hq)) ?_
 refine wpAny_mono ((KI (Γ:=Γ.sX fun _ _=>False) ⟨by show Fm g Γ.K Γ.hd _ _ _;rw[hhd];exact Mf,O,HF,HC,esc⟩ n).e D.h S hl) (fun v s1 q=> ?_) fun ev s1 q=>OE q rfl
 obtain⟨σ1,V1,C1,e1,S1,r1,hok,h1⟩:=q
 obtain⟨items,hitems,h1⟩:=AF.ok h1
 exact wpAny_mono (Ng S1 r1 hitems hok) (fun itv s2 q=>RI (G:=fun r acc Cn s=>compPost g.M A E use QQ acc Cn r s) Mf hhd O HF HC D esc (hl.ext e1) (fun x=>Hc O.kind hfv) hfree (fun p hp=>⟨Da D.nd (c1 p hp).1,by have:=(c1 p hp).2;rw[O.cells] at this;exact this⟩) (fun x hx=>c2 x (Bi hx)) q h1
  fun σ' C' V D Cn nso zx s' ex S' hns r q=>My σ' C' V D Cn nso zx s' (e1.trans ex) S' hns r q) fun _ _ e=>e
theorem Sd{el:Expr}{gs:List Comprehension}{csc:Scope}{pos:Pos}{Q:VQ}(hhd:Γ.hd=false)(HF:BI g Γ.K d Γ.fn)(HC:ER g Γ.K (d+1) Γ.cp)(esc:Γ.sc=N.sc)(h:XG Γ n el gs csc m C Q)
  (Mf:Fm g Γ.K false (d+1) f A) (O:DQ f N env) (S:St g f C σ s) (hl:A2 N σ m):wpAny g.M A (eval (.ListComp el gs csc pos) env) (AN g f Q σ) E s:=by
 rw[eval_ListComp]
 refine H5 none Mf hhd O HF HC esc h S hl fun σ' C' V D Cn nso zx s' ex S' hns r q=> ?_
 obtain⟨mm,hns⟩:=hns
 exact⟨mm,hns _ (S'.zmem (p:=(Cn,nso)) (.head _)).1,fun h' hs'=>⟨σ',V,C',ex,S'.zlet hs',r,q⟩⟩
theorem sK{x:Sx}{τ:Tx}{el:Expr}{gs:List Comprehension}{csc:Scope}{pos spos:Pos}{Q:A5}{y:Str}{px:Pos}(hhd:Γ.hd=false)(HF:BI g Γ.K d Γ.fn)(HC:ER g Γ.K (d+1) Γ.cp)(h:XG Γ n el gs csc m C (fun v C=>Q.next (Ae m y v) C))(hy:(Γ.sc.names.lookup y==some NameKind.local||Γ.sc.names.lookup y==some NameKind.cell)=true)
  (Mf:Fm g Γ.K false (d+1) (x.f Γ.sc τ) x.A) (hk:Γ.sc.kind= .function) (S:SS g x Γ.sc C τ s) (hl:SL x Γ.sc τ m):
  wpAny g.M x.A (exec (.Assign [.Name y px] (.ListComp el gs csc pos) spos) (x.env Γ.sc)) (As g x Γ.sc Q τ.σ) E s:=by
 have O:DQ (x.f Γ.sc τ) (x.n Γ.sc τ) (x.env Γ.sc):=⟨rfl,hk,rfl,rfl,rfl,rfl,.inl ⟨rfl,rfl⟩,fun p hp=>List.mem_append_left _ hp⟩
 obtain⟨bb,hb⟩:∃bb:Bool,swapsWith (.ListComp el gs csc pos) (some (.Name y px)) spos.line (x.env Γ.sc)=pure bb:=⟨_,rfl⟩
 cases bb with
 |false=>
  refine wpAny_Assign_Name (wpAny_mono (Sd hhd HF HC rfl h Mf O S hl) (fun v s1 q=> ?_) fun _ _ e=>e) hb
  obtain⟨σ1,V1,C1,e1,S1,r1,q⟩:=q
  exact FX (τ:=τ.wσ σ1) hk hy S1 (A2.ext e1 hl) r1 e1 q
 |true=>
  rw[exec_Assign_Name_used _ _ _ _ hb]
  refine wpAny_bind (wpAny_standAt (wpAny_bind ?_))
  show wpAny _ _ (comprehension (.ListComp el gs csc pos) csc (x.env Γ.sc) (firstIterPos gs pos) (newList []) (firstAsync gs) (firstIter gs (x.env Γ.sc)) (some (assign (.Name y px) (x.env Γ.sc)))>>=fun _=>pure ()) _ _ _
  refine wpAny_bind (H5 (some _) Mf hhd O HF HC rfl h S hl fun σ' C' V D Cn nso zx s' ex S' hns r q=> ?_)
  obtain⟨mm,hns⟩:=hns
  have S2:SS g (x.wz ((Cn,nso)::(zx++x.b.z))) Γ.sc C' (τ.wσ σ') s':=St.zperm (f:=x.f Γ.sc τ) (z':=τ.zc++((Cn,nso)::(zx++x.b.z))) S' (List.perm_append_comm_assoc ((Cn,nso)::zx) τ.zc x.b.z)
  refine PyProof.Rows.assign_Name (wpAny_mono (FX (x:=x.wz ((Cn,nso)::(zx++x.b.z))) (τ:=τ.wσ σ') hk hy S2 (A2.ext ex hl) r ex q) (fun _ s3 q=> ?_) fun _ _ e=>e)
  obtain⟨τ3,C3,e3,S3,m3,hl3,q3⟩:=q
  have S4:St g ((x.f Γ.sc τ3).wz ((Cn,nso)::(zx++(τ3.zc++x.b.z)))) C3 τ3.σ s3:=St.zperm (f:=x.f Γ.sc τ3) (z:=τ3.zc++((Cn,nso)::(zx++x.b.z))) S3 (List.perm_append_comm_assoc τ3.zc ((Cn,nso)::zx) x.b.z)
  exact⟨mm,hns _ (S4.zmem (p:=(Cn,nso)) (.head _)).1,fun h' hs'=>wpAny_pure (wpAny_pure ⟨τ3,C3,e3,S4.zlet hs',m3,hl3,q3⟩)⟩
end
end
section
def Eh(Γ:EC)(n:Nat)(sc:Scope)(st:Stmt)(m:AU)(C:List AB)(Q:A5):Prop:=match st with
 | .While t b [] _=>LG (Γ.sS sc) n t b m C Q
 | .For t it b [] _=>R8 (Γ.sS sc) n t it b m C Q
 |_=>False
def FV(Γ:EC)(n:Nat)(sc:Scope)(e:Expr)(m:AU)(C:List AB)(Q:VQ):Prop:=match e with
 | .ListComp el gs csc _=>XG (Γ.sS sc) n el gs csc m C Q
 |_=>False
section
variable{g:Gx}{d n:Nat}{Γ:EC}{K:Frag}
theorem SQ(hhd:Γ.hd=false)(htr:Γ.tr=false)(htop:Γ.top=false)(HF:BI g Γ.K d Γ.fn)(HC:ER g Γ.K (d+1) Γ.cp)(HA:LE g Γ.K (d+1) Γ.cp)
  (HL:∀sc,Ew g Γ.K (d+1) sc false Γ.lp) (HLT:∀sc,Ew g Γ.K (d+1) sc true Γ.lpT) (sc:Scope):Ew g Γ.K (d+1) sc false (Eh Γ n):=by
 intro st m C Q h hk x A₁ τ eA Mf B s S hl
 have H:HS g x (Γ.sS sc) d:=⟨hk,fun τ'=>by
  show Fm g Γ.K Γ.hd _ _ _
  rw[hhd]
  exact⟨by cases Mf.fr with|mk A₀ env outer e1 e2 e3 B=>exact⟨A₀,env,outer,e1,e2,e3,B⟩,Mf.hA,Mf.X,Mf.T,Mf.room,Mf.units,Mf.hh⟩,fun _=>⟨A₁,eA,B⟩,HF,HC,HA,by show Ew _ _ _ _ Γ.tr _;rw[htr];exact HL sc,HLT sc,fun q=>by have q:Γ.top=true:=q;rw[htop] at q;exact BQ q⟩
 have e:(Γ.sS sc).tr=false:=htr
 have up:∀ev s σ,Am τ.σ σ→Aq g x sc (Γ.sS sc).tr Q.exc σ ev s→Aq g x sc false Q.exc τ.σ ev s:=fun ev s σ ex q=>by rw[e] at q;exact q.ext ex
 unfold Eh at h
 split at h
 ·exact NO H (E5 eA B hk) up h S hl
 ·exact V7 H (E5 eA B hk) up h S hl
 ·exact h.elim
theorem O0(hhd:Γ.hd=false)(HF:BI g Γ.K d Γ.fn)(HC:ER g Γ.K (d+1) Γ.cp):ER g Γ.K (d+1) (FV Γ n):=by
 intro e m C Q N h f A Mf env O s σ S hl E
 unfold FV at h
 split at h
 ·exact Sd (Γ:=Γ.sS N.sc) hhd HF HC rfl h Mf O S hl
 ·exact h.elim
theorem WI(hhd:Γ.hd=false)(HF:BI g Γ.K d Γ.fn)(HC:ER g Γ.K (d+1) Γ.cp):LE g Γ.K (d+1) (FV Γ n):=
 fun _ _ _ _ sc _ _ _ _ _ _ h hy _ _ Mf hk _ S hl _=>sK (Γ:=Γ.sS sc) hhd HF HC h hy Mf hk S hl
theorem Se:ER g K d (fun _ _ _ _ _=>False):=fun _ _ _ _ _ h=>h.elim
theorem sM:LE g K d (fun _ _ _ _ _=>False):=fun _ _ _ _ _ _ _ _ _ _ _ h=>h.elim
theorem Fy{sc:Scope}{tr:Bool}:Ew g K d sc tr (fun _ _ _ _ _=>False):=fun _ _ _ _ h=>h.elim
theorem H0:BI g K d (fun _ _ _ _ _ _=>False):=fun _ _ _ _ _ _ _ _ _ _ _ _ _ _ _ _ h=>h.elim
def BD(f:Nat)(S:FS)(fn:AG):AG:=fun g vs kvs C Q X=>match g==f with
 |true=>S vs kvs C Q X
 |false=>fn g vs kvs C Q X
theorem Co{a:Nat}{S:FS}{fn:AG}(h1:Bw g K d a S)(h2:BI g K d fn):BI g K d (BD a S fn):=by
 intro f A Mf C σ s St0 b Vs vs Kw kws rv rk Q X h
 unfold BD at h
 cases e:b==a with
 |true=>
  rw[e] at h
  obtain rfl:=bE e
  exact h1 f A Mf C σ s St0 Vs vs Kw kws rv rk Q X h
 |false=>rw[e] at h;exact h2 f A Mf C σ s St0 b Vs vs Kw kws rv rk Q X h
theorem Bw.up{a:Nat}{S:FS}(h:Bw g K d a S):Bw g K (d+1) a S:=fun f A M=>h f A M.down
theorem Bw.imp{a:Nat}{S S':FS}(h:Bw g K d a S)(hs:∀vs kvs C Q X,S' vs kvs C Q X→S vs kvs C Q X):Bw g K d a S':=
 fun f A M C σ s S0 Vs vs Kw kws rv rk Q X hq=>h f A M C σ s S0 Vs vs Kw kws rv rk Q X (hs _ _ _ _ _ hq)
noncomputable def EC.sC(Γ:EC)(cp:Scope→Expr→AW):EC:={Γ with cp:=cp}
noncomputable def EC.sL(Γ:EC)(lp:Scope→Stmt→AV):EC:={Γ with lp:=lp,lpT:=fun _ _ _ _ _=>False}
def Fp(Γ:EC)(n:Nat):Scope→Expr→AW:=FV (Γ.sC (FV (Γ.sC fun _ _ _ _ _=>False) n)) n
theorem O2(hhd:Γ.hd=false)(HF:BI g Γ.K d Γ.fn):ER g Γ.K (d+1) (Fp Γ n)∧LE g Γ.K (d+1) (Fp Γ n):=by
 have C0:ER g Γ.K (d+1) (FV (Γ.sC fun _ _ _ _ _=>False) n):=O0 (Γ:=Γ.sC fun _ _ _ _ _=>False) hhd HF Se
 exact⟨O0 (Γ:=Γ.sC _) hhd HF C0,WI (Γ:=Γ.sC _) hhd HF C0⟩
theorem Os{a:Nat}(hhd:Γ.hd=false)(htr:Γ.tr=false)(htop:Γ.top=false)(HF:BI g Γ.K d Γ.fn)
  (S:FS) (h:∀(CP:Scope→Expr→AW) (LP:Scope→Stmt→AV),(∀sc e m C Q,Fp Γ n sc e m C Q→CP sc e m C Q)→
   (∀sc st m C Q,Eh ((Γ.sC CP).sL fun _ _ _ _ _=>False) n sc st m C Q→LP sc st m C Q)→∀Vs Kw C Q X,S Vs Kw C Q X→A4 ((Γ.sC CP).sL LP) n a Vs Kw C Q X):
  Bw g Γ.K (d+2) a S:=by
 obtain⟨C1,A1⟩:=O2 (n:=n) hhd HF
 have L1:=SQ (n:=n) (Γ:=(Γ.sC (Fp Γ n)).sL fun _ _ _ _ _=>False) hhd htr htop HF C1 A1 (fun _=>Fy) (fun _=>Fy)
 exact(SY (Γ:=(Γ.sC (Fp Γ n)).sL (Eh ((Γ.sC (Fp Γ n)).sL fun _ _ _ _ _=>False) n)) (N:=n) (a:=a) HF fun sc=>⟨C1,A1,L1 sc,Fy⟩).imp fun vs kvs C Q X hS=>h _ _ (fun _ _ _ _ _ h=>h) (fun _ _ _ _ _ h=>h) _ _ _ _ _ hS
end
theorem Ce{keep:List AB→Prop}{elt:V→List V→List AB→(List V→List AB→Prop)→Prop}{C:List AB}{f:V→List V}(N:Nat)(hk:keep C)(items:List V):
  ∀(acc:List V) (Q:List V→List AB→Prop),(∀i∈items,∀acc K,acc.length≤N→K (acc++f i) C→elt i acc C K)→acc.length+(items.flatMap f).length≤N→Q (acc++items.flatMap f) C→C8 keep elt items acc C Q:=by
 induction items with
 |nil=>intro acc Q _ _ hQ;rw[List.flatMap_nil,List.append_nil] at hQ;exact hQ
 |cons x r ih=>
  intro acc Q h hN hQ
  rw[List.flatMap_cons] at hN hQ
  rw[List.length_append] at hN
  refine h x (.head _) _ _ (Nat.le_trans (Nat.le_add_right _ _) hN) ⟨hk,ih _ Q (fun i hi=>h i (.tail _ hi)) (by rw[List.length_append,Nat.add_assoc];exact hN) ?_⟩
  rw[List.append_assoc]
  exact hQ
theorem G7{keep:List AB→Prop}{step:V→AU→List AB→(AU→List AB→Prop)→Prop}(I:Nat→AU→List AB→Prop)(items:List V):
  ∀(j:Nat) (m:AU) (C:List AB) (Q:AU→List AB→Prop),I j m C→(∀i x m C K,items[i]? =some x→I (j+i) m C→(∀m' C',I (j+i+1) m' C'→K m' C')→step x m C K)→(∀i m C,I (j+i+1) m C→keep C)→(∀m C,I (j+items.length) m C→Q m C)→Jp keep step items m C Q:=by
 induction items with
 |nil=>exact fun j m C Q h0 _ _ hQ=>hQ _ _ h0
 |cons x r ih=>
  intro j m C Q h0 hs hk hQ
  have e:∀i,j+1+i=j+(i+1):=fun i=>(Nat.add_right_comm j 1 i).trans (Nat.add_assoc j i 1)
  exact hs 0 x m C _ rfl h0 fun m' C' h1=>⟨hk 0 m' C' h1,ih (j+1) m' C' Q h1 (fun i y m C K hy hi hK=>hs (i+1) y m C K hy (e i▸hi) fun m' C' h=>hK m' C' (e i▸h)) (fun i m C h=>hk (i+1) m C (e i▸h)) fun m C h=>hQ m C (e r.length▸h)⟩
end
section
end
local macro_rules |`(tactic|walk_at "wh")=>`(tactic|conv=>whnf)
local macro_rules |`(tactic|walk_at "lf")=>`(tactic|first|omega|decide|(simp only[List.length_append,List.length_cons,List.length_nil,List.length_map];omega))
local macro_rules |`(tactic|walk_at "vc")=>`(tactic|repeat' (first|(refine(aI ?_ ?_:))|(refine(Ad.mk ?_ ?_:)<;>intro h<;>try (first|exact cT (by omega) h|exact cF (by omega) h))|fail))
local macro_rules |`(tactic|walk_at "vi")=>`(tactic|repeat(first
 |(refine(aI ?_ ?_:);(·walk_at "lf"))
 |(refine(ifT ?_ ?_:);(·exact decide_eq_true (by omega)))
 |(refine(ifF ?_ ?_:);(·exact decide_eq_false (by omega)))))
section
def Nf(P:Params)(f:Nat):Scope:=match(KF P).lookup f with|some ⟨_,_,.func fd,_⟩=>fd.scope|_=>default
def Bo(P:Params)(f:Nat):List Stmt:=match(KF P).lookup f with|some ⟨_,_,.func fd,_⟩=>(match fd.body with| .stmts b=>b|_=>[])|_=>[]
abbrev GA(P:Params)(CP:Scope→Expr→AW)(LP:Scope→Stmt→AV)(fn:AG):EC:={sc:=default,K:=KF P,cp:=CP,lp:=LP,fn:=fn,lpT:=fun _ _ _ _ _=>False}
def GF(P:Params)(CP:Scope→Expr→AW)(LP:Scope→Stmt→AV)(fn:AG)(f:Nat)(dm:Nat→Nat→Nat):EC:={GA P CP LP fn with sc:=Nf P f,dm:=dm}
abbrev Pi(P:Params)(CP:Scope→Expr→AW)(LP:Scope→Stmt→AV)(fn:AG):Prop:=∀sc st m C Q,Eh {GA P CP LP fn with lp:=fun _ _ _ _ _=>False} 100 sc st m C Q→LP sc st m C Q
abbrev XB(P:Params)(CP:Scope→Expr→AW)(fn:AG):Prop:=∀sc e m C Q,Fp (GA P (fun _ _ _ _ _=>False) (fun _ _ _ _ _=>False) fn) 100 sc e m C Q→CP sc e m C Q
theorem Cp(n k:Nat):clipAt n (k:Int)=min k n:=by
 unfold clipAt
 rw[if_neg (Int.not_lt.mpr (Int.natCast_nonneg k))]
 rcases Nat.le_total k n with h|h
 ·rw[Int.min_eq_left (Int.ofNat_le.mpr h),Nat.min_eq_left h,Int.max_eq_right (Int.natCast_nonneg k),Int.toNat_natCast]
 ·rw[Int.min_eq_right (Int.ofNat_le.mpr h),Nat.min_eq_right h,Int.max_eq_right (Int.natCast_nonneg n),Int.toNat_natCast]
theorem xd{a b:Int}(h:(a !=b)=false):a=b:=Classical.byContradiction fun q=>by rw[bne_iff_ne.mpr q] at h;exact BQ h.symm
theorem LZ{n:Nat}:((n:Int)%8=0)↔n%8=0:=⟨fun h=>Int.ofNat.inj ((Int.natCast_emod n 8).trans h),fun h=>(Int.natCast_emod n 8).symm.trans (congrArg Int.ofNat h)⟩
theorem Ih{x l k m:Int}(h:x=l+m*k)(h0:0≤l)(h1:l<m):x%m=l:=by rw[h,Int.add_mul_emod_self_left];exact Int.emod_eq_of_lt h0 h1
theorem Ii{n q:Nat}(h1:8*q≤n)(h2:n<8*(q+1)):n/8=q:=Nat.div_eq_of_lt_le (by rw[Nat.mul_comm];exact h1) (by rw[Nat.mul_comm];exact h2)
theorem sP(n:Nat):n≤8*((n+7)/8):=by exact AK [_,_,_] [] [.nt AT k8,.ne (.a (.m 8 v1) AT) (.a AA k7)] (.nl AA (.m 8 v1)) [1,1, -1] rfl (Nat.mod_lt _ (by decide:8>0)) (Nat.div_add_mod _ 8)
theorem Ho(n:Nat):Builtin.Range.rangeSize 0 (n:Int) 1=(n:Int):=by
 unfold Builtin.Range.rangeSize
 rw[if_pos (by decide)]
 by_cases h:(0:Int)<n
 ·rw[if_pos h,Int.ediv_one,Int.sub_zero,Int.sub_add_cancel]
 ·rw[if_neg h];exact zA (Int.natCast_nonneg n) (Int.not_lt.mp h)
theorem uj{m m' l:AU}(h:m=m')(e:m'=l):m=l:=h.trans e
abbrev yL(fn:AG):Prop:=∀(n:Int) (C:List AB) (Q:VQ) (X:XQ),0≤n→n<256→Q (.li [n]) C→fn 939 [.int n,.int 256] [] C Q X
theorem WD(P:Params)(CP:Scope→Expr→AW)(LP:Scope→Stmt→AV)(fn:AG)(hLP:Pi P CP LP fn)(n:Int)(h0:0≤n)(h1:n<256)(Q:VQ)(X:XQ)(hQ:Q (.li [n]) []):
  A4 (GA P CP LP fn) 100 939 [.int n,.int 256] [] [] Q X:=by
 refine Eq.mpr (by kernel_rfl:A4 (GA P CP LP fn) 100 939 [.int n,.int 256] [] [] Q X=Av (GF P CP LP fn 939 (fun _ _=>0)) 100 (Bo P 939) [("number",.int n),("base",.int 256)] [] (Br Q X)) ?_
 walk_at "vc"
 ·decide
 ·show 1≤1000;decide
 ·refine(hLP _ _ _ _ _ ?_:)
  refine⟨fun k m C=>C=[]∧m=([("number",.int n),("base",.int 256),("digits",.li [n])]:AU),0,?_,?_⟩
  ·refine⟨rfl,?_⟩
   have e:n.fmod 256=n:=by rw[Int.fmod_eq_emod_of_nonneg _ (by decide),Int.emod_eq_of_lt h0 h1]
   have e2:([("number",.int n),("base",.int 256),("digits",.li [n.fmod 256])]:AU)=([("number",.int n),("base",.int 256),("digits",.li [n])]:AU):=by rw[e]
   refine Eq.trans ?_ e2
   kernel_rfl
  ·rintro k m C ⟨rfl,rfl⟩
   walk_at "vc"
   exact hQ
abbrev Pp(fn:AG):Prop:=∀(t:Int) (b:List UInt8) (C:List AB) (Q:VQ) (X:XQ),0≤t→t<256→b.length<128→Q (.bytes (t.toNat.toUInt8::b.length.toUInt8::b)) C→fn 946 [.li [t],.bytes b] [] C Q X
theorem WE(P:Params)(CP:Scope→Expr→AW)(LP:Scope→Stmt→AV)(fn:AG)(hd:yL fn)(t:Int)(b:List UInt8)(h0:0≤t)(h1:t<256)(hb:b.length<128)(Q:VQ)(X:XQ)(hQ:Q (.bytes (t.toNat.toUInt8::b.length.toUInt8::b)) []):
  A4 (GA P CP LP fn) 100 946 [.li [t],.bytes b] [] [] Q X:=by
 refine Eq.mpr (by kernel_rfl:A4 (GA P CP LP fn) 100 946 [.li [t],.bytes b] [] [] Q X=Av (GF P CP LP fn 946 (fun _ _=>0)) 100 (Bo P 946) [("head",.li [t]),("body",.bytes b)] [] (Br Q X)) ?_
 walk_at "vc"
 ·exact AK [_] [] [.nt AA CZ] (.nl AA AE) [1,1] rfl hb
 ·refine hd _ _ _ _ (by exact AK [_] [] [] (.il k0 (.c AA)) [1] rfl) (by exact AK [_] [] [.nt AA CZ] (.it (.c AA) (.k 256)) [1,1] rfl hb) ?_
  walk_at "vc"
  ·walk_at "lf"
  ·walk_at "lf"
  ·intro n hn
   simp only[List.cons_append,List.nil_append,List.mem_cons,List.not_mem_nil,or_false] at hn
   rcases hn with rfl|rfl
   ·exact⟨h0,h1⟩
   ·exact⟨Int.natCast_nonneg _,by exact AK [_] [] [.nt AA CZ] (.it (.c AA) (.k 256)) [1,1] rfl hb⟩
  ·walk_at "lf"
  ·walk_at "lf"
  ·refine Eq.mp ?_ hQ
   show Q (.bytes (t.toNat.toUInt8::b.length.toUInt8::b)) []=Q (.bytes (t.toNat.toUInt8::(b.length:Int).toNat.toUInt8::b)) []
   rw[Int.toNat_natCast]
theorem JF(n:Nat):Ni 0 (n:Int) 1=(List.range n).map fun i:Nat=>(i:Int):=by
 unfold Ni
 have e:(Builtin.Range.rangeSize 0 (n:Int) 1).toNat=n:=by rw[Ho,Int.toNat_natCast]
 rw[e]
 exact List.map_congr_left fun i _=>by exact HX [_] [] (.a k0 (.w (.c AA) 1)) (.c AA) rfl
theorem B3(n:Nat)(h:n≤1000000):Ms (.rng 0 (n:Int) 1):=by
 show Builtin.Range.small 0 (n:Int) 1=true
 have e:=Ho n
 have f:∀x:Int,0≤x→x≤1000000→Builtin.Range.rangeFitsLong x=true:=fun x a b=>by
  unfold Builtin.Range.rangeFitsLong
  simp
  exact⟨AK [] [_] [.il k0 AA] (.il (.g (.k 9223372036854775808)) AA) [1,1] rfl a,AK [] [_] [.il AA AE] (.it AA (.k 9223372036854775808)) [1,1] rfl b⟩
 unfold Builtin.Range.small
 rw[e,f 0 (by decide) (by decide),f n (by exact AK [_] [] [] (.il k0 (.c AA)) [1] rfl) (by exact AK [_] [] [.nl AA AE] (.il (.c AA) AE) [1,1] rfl h),f 1 (by decide) (by decide),if_pos (by decide),f _ (by exact AK [_] [] [] (.il k0 (.a (.c AA) (.s AO AO))) [1] rfl) (by exact AK [_] [] [.nl AA AE] (.il (.a (.c AA) (.s AO AO)) AE) [1,1] rfl h)]
 simp
theorem FP(l:List Int):BH (l.map V.int)=some l:=by
 induction l with
 |nil=>rfl
 |cons i l ih=>show(match BH (l.map V.int) with|some l=>some (i::l)|none=>none)=_;rw[ih]
theorem CU(l:List Int):Ld (l.map V.int)= .li l:=by unfold Ld;rw[FP]
theorem rF(l:List Int):Qk (l.map V.int)= .ti l:=by unfold Qk;rw[FP]
theorem CI{keep:List AB→Prop}{elt:V→List V→List AB→(List V→List AB→Prop)→Prop}{C:List AB}{Q:List V→List AB→Prop}(n:Nat)(f:Nat→V)(hk:keep C)(hs:∀i,i<n→∀acc K,acc.length≤n→K (acc++[f i]) C→elt (.int i) acc C K)(hQ:Q ((List.range n).map f) C):
  AF (G2 C (.rng 0 (n:Int) 1)) fun items=>C8 keep elt items [] C Q:=by
 show C8 keep elt ((Ni 0 (n:Int) 1).map V.int) [] C Q
 have e:((List.range n).map fun i:Nat=>V.int (i:Int)).flatMap (fun v=>match v with| .int i=>[f i.toNat]|_=>[])=(List.range n).map f:=by
  rw[List.flatMap_map,List.map_eq_flatMap]
  congr 1
 rw[JF,List.map_map]
 refine Ce (f:=fun v=>match v with| .int i=>[f i.toNat]|_=>[]) n hk _ [] Q ?_ ?_ ?_
 ·intro i hi acc K ha hK
  obtain⟨j,hj,rfl⟩:=List.mem_map.mp hi
  exact hs j (List.mem_range.mp hj) acc K ha hK
 ·show 0+_≤n
  have:((V.int∘fun i:Nat=>(i:Int)))=fun i:Nat=>V.int (i:Int):=rfl
  rw[this,e];simp
 ·show Q ([]++_) C
  have:((V.int∘fun i:Nat=>(i:Int)))=fun i:Nat=>V.int (i:Int):=rfl
  rw[this,e];exact hQ
noncomputable def BY(l:List Int)(k:Nat):Int:=l.getD k 0
noncomputable def Cv(l:List Int)(k:Nat):Int:=((List.range 8).map fun j=>BY l (8*k+j)*2^(7 - j)).sum
noncomputable def AS(n:Nat):Nat:=(8 - n%8)%8
theorem EG{n:Nat}(h:n%8=0):AS n=0:=by unfold AS;rw[h]
theorem DN{n:Nat}(h:n%8≠0):AS n+n%8=8:=by
 unfold AS
 have h8:=Nat.mod_lt n (by decide:8>0)
 rw[Nat.mod_eq_of_lt (Nat.sub_lt (by decide) (Nat.pos_of_ne_zero h))]
 exact Ej (Nat.le_of_lt h8)
theorem Jg(n:Nat):(n+AS n)%8=0:=by
 by_cases h:n%8=0
 ·rw[EG h];exact h
 ·have h1:=DN h
  have h2:=Nat.div_add_mod n 8
  rw[show n+AS n=8*(n/8+1) by exact DM [_,_,_,_] [] [.ne (.a v1 v3) k8,.ne (.a (.m 8 AT) v3) AA] (.a AA v1) (.m 8 (.a AT AO)) [1,1, -1] [1, -1,1] rfl h1 h2]
  exact Nat.mul_mod_right 8 _
theorem Mq(n:Nat):(n+AS n)/8=(n+7)/8:=by
 have h2:=Nat.div_add_mod n 8
 have h8:=Nat.mod_lt n (by decide:8>0)
 generalize n/8=q at h2
 by_cases h:n%8=0
 ·rw[EG h,Ii (q:=q) (by exact AK [_,_,_] [] [.ne (.a (.m 8 AA) AT) v1] (.nl (.m 8 AA) (.a v1 k0)) [1,1] rfl h2) (by exact AK [_,_,_] [] [.nt AT k8,.ne (.a (.m 8 v1) AT) AA] (.nt (.a AA k0) (.m 8 (.a v1 AO))) [1,1, -1] rfl h8 h2),Ii (q:=q) (by exact AK [_,_,_] [] [.ne (.a (.m 8 AA) AT) v1] (.nl (.m 8 AA) (.a v1 k7)) [1,1] rfl h2) (by exact AK [_,_,_] [] [.ne (.a (.m 8 v1) AT) AA,.ne AT k0] (.nt (.a AA k7) (.m 8 (.a v1 AO))) [1, -1,1] rfl h2 h)]
 ·have h1:=DN h
  have h3:=Nat.pos_of_ne_zero h
  rw[Ii (q:=q+1) (by exact AK [_,_,_,_] [] [.ne (.a (.m 8 AA) v3) v1,.ne (.a AT v3) k8] (.nl (.m 8 (.a AA AO)) (.a v1 AT)) [1,1, -1] rfl h2 h1) (by exact AK [_,_,_,_] [] [.ne (.a (.m 8 AT) v3) AA,.ne (.a v1 v3) k8] (.nt (.a AA v1) (.m 8 (.a (.a AT AO) AO))) [1, -1,1] rfl h2 h1),Ii (q:=q+1) (by exact AK [_,_,_] [] [.ne (.a (.m 8 AA) AT) v1,.nt k0 AT] (.nl (.m 8 (.a AA AO)) (.a v1 k7)) [1,1,1] rfl h2 h3) (by exact AK [_,_,_] [] [.nt AT k8,.ne (.a (.m 8 v1) AT) AA] (.nt (.a AA k7) (.m 8 (.a (.a v1 AO) AO))) [1,1, -1] rfl h8 h2)]
theorem OS(n:Nat):(-(n:Int))%8=(AS n:Int):=by
 have h2:=Nat.div_add_mod n 8
 by_cases h:n%8=0
 ·rw[EG h]
  exact Ih (k:= -((n/8:Nat):Int)) (by exact zA (AK [_,_,_] [] [.ne (.a (.m 8 v1) AT) AA] (.il (.g (.c AA)) (.a (.c k0) (.m 8 (.g (.c v1))))) [1,1] rfl h2) (AK [_,_,_] [] [.ne (.a (.m 8 AA) AT) v1,.ne AT k0] (.il (.a (.c k0) (.m 8 (.g (.c AA)))) (.g (.c v1))) [1, -1,1] rfl h2 h)) (by decide) (by decide)
 ·have h1:=DN h
  have h3:=Nat.pos_of_ne_zero h
  exact Ih (k:= -((n/8:Nat):Int) - 1) (by exact Ka [_,_,_,_] [] [.ne (.a (.m 8 AT) v3) AA,.ne (.a v1 v3) k8] (.g (.c AA)) (.a (.c v1) (.m 8 (.s (.g (.c AT)) AO))) [1,1, -1] [1, -1,1] rfl h2 h1) (by exact AK [_] [] [] (.il k0 (.c AA)) [1] rfl) (by exact AK [_,_] [] [.ne (.a AA v1) k8,.nt k0 v1] (.it (.c AA) k8) [1,1,1] rfl h1 h3)
noncomputable def Af(l:List Int):List Int:=l++List.replicate (AS l.length) 0
def EU(l:List Int):List Int:=(List.range ((Af l).length/8)).map (Cv (Af l))
def AI(l:List Int):List UInt8:=(AS l.length).toUInt8::(EU l).map fun n=>n.toNat.toUInt8
abbrev Aw(l:List Int):Prop:=∀b∈l,b=0∨b=1
theorem Jn(l:List Int)(hb:Aw l)(n:Nat):(Af l).getD n 0=0∨(Af l).getD n 0=1:=by
 rw[List.getD_eq_getElem?_getD]
 cases h:(Af l)[n]? with
 |none=>exact .inl rfl
 |some x=>
  have:=List.mem_of_getElem? h
  unfold Af at this
  rcases List.mem_append.mp this with q|q
  ·exact hb _ q
  ·exact .inl (List.eq_of_mem_replicate q)
theorem FA(f:List Int)(k:Nat):Cv f k=BY f (8*k)*128+BY f (8*k+1)*64+BY f (8*k+2)*32+BY f (8*k+3)*16+BY f (8*k+4)*8+BY f (8*k+5)*4+BY f (8*k+6)*2+BY f (8*k+7):=by
 have:Cv f k=BY f (8*k)*128+(BY f (8*k+1)*64+(BY f (8*k+2)*32+(BY f (8*k+3)*16+(BY f (8*k+4)*8+(BY f (8*k+5)*4+(BY f (8*k+6)*2+(BY f (8*k+7)*1+0))))))):=rfl
 rw[this,Int.add_zero,Int.mul_one]
 ac_rfl
theorem D4(l:List Int)(hb:Aw l)(n:Nat):0≤BY (Af l) n∧BY (Af l) n≤1:=by
 rcases Jn l hb n with q|q<;>(unfold BY;rw[q];decide)
theorem N1(l:List Int)(hb:Aw l)(k:Nat):0≤Cv (Af l) k∧Cv (Af l) k<256:=by
 rw[FA]
 obtain⟨a0,b0⟩:=D4 l hb (8*k)
 obtain⟨a1,b1⟩:=D4 l hb (8*k+1)
 obtain⟨a2,b2⟩:=D4 l hb (8*k+2)
 obtain⟨a3,b3⟩:=D4 l hb (8*k+3)
 obtain⟨a4,b4⟩:=D4 l hb (8*k+4)
 obtain⟨a5,b5⟩:=D4 l hb (8*k+5)
 obtain⟨a6,b6⟩:=D4 l hb (8*k+6)
 obtain⟨a7,b7⟩:=D4 l hb (8*k+7)
 exact⟨by exact AK [] [_,_,_,_,_,_,_,_] [.il k0 AA,.il k0 v1,.il k0 AT,.il k0 v3,.il k0 v4,.il k0 v5,.il k0 v6,.il k0 (.v 7)] (.il k0 (.a (.a (.a (.a (.a (.a (.a (.w AA 128) (.w v1 64)) (.w AT 32)) (.w v3 16)) (.w v4 8)) (.w v5 4)) (.w v6 2)) (.v 7))) [1,128,64,32,16,8,4,2,1] rfl a0 a1 a2 a3 a4 a5 a6 a7,by exact AK [] [_,_,_,_,_,_,_,_] [.il AA AO,.il v1 AO,.il AT AO,.il v3 AO,.il v4 AO,.il v5 AO,.il v6 AO,.il (.v 7) AO] (.it (.a (.a (.a (.a (.a (.a (.a (.w AA 128) (.w v1 64)) (.w AT 32)) (.w v3 16)) (.w v4 8)) (.w v5 4)) (.w v6 2)) (.v 7)) (.k 256)) [1,128,64,32,16,8,4,2,1] rfl b0 b1 b2 b3 b4 b5 b6 b7⟩
theorem Mc(l:List Int)(hb:Aw l):∀n∈EU l,0≤n∧n<256:=by
 intro n hn
 obtain⟨k,_,rfl⟩:=List.mem_map.mp hn
 exact N1 l hb k
theorem Hq(l:List Int):(EU l).length=(Af l).length/8:=by unfold EU;simp
theorem Fj(x:Int)(h0:0≤x)(h1:x<1000000):Builtin.Int.intBits x≤20:=by
 unfold Builtin.Int.intBits
 split
 ·exact AK [] [] [] (.nl k0 Jj) [1] rfl
 ·rename_i h
  have:x.natAbs≠0:=fun q=>h (beq_iff_eq.mpr (Int.natAbs_eq_zero.mp q))
  have:=(Nat.log2_lt this (k:=20)).mpr (ED h0 (Int.lt_trans h1 (by decide)))
  exact AK [_] [] [.nt AA Jj] (.nl (.a AA AO) Jj) [1,1] rfl this
theorem JX(a b:Int)(h0:0≤a)(h1:a<1000000)(h2:0≤b)(h3:b<1000000):IntMulOk a b:=IntMulOk.of_le (Fj a h0 h1) (Fj b h2 h3) (by decide)
theorem RZ(P:Params)(CP:Scope→Expr→AW)(LP:Scope→Stmt→AV)(fn:AG)(hCP:XB P CP fn)(hd:Pp fn)(l:List Int)(hb:Aw l)(hl:l.length≤800)(Q:VQ)(X:XQ)(hQ:Q (.bytes (3::(AI l).length.toUInt8::AI l)) []):
  A4 (GA P CP LP fn) 100 951 [.li l] [] [] Q X:=by
 refine Eq.mpr (by kernel_rfl:A4 (GA P CP LP fn) 100 951 [.li l] [] [] Q X=Av (GF P CP LP fn 951 (fun _ _=>0)) 100 (Bo P 951) [("bits",.li l)] [] (Br Q X)) ?_
 have he:(-(l.length:Int)).fmod 8=(AS l.length:Int):=by
  rw[Int.fmod_eq_emod_of_nonneg _ (by decide)];exact OS _
 have hz:∀n:Nat,(List.replicate n [(0:Int)]).flatten=List.replicate n 0:=fun n=>by induction n with
  |zero=>rfl
  |succ n ih=>rw[List.replicate_succ,List.flatten_cons,ih];rfl
 have hk:AS l.length<8:=by unfold AS;exact AK [_] [] [.nt AA k8] (.nt AA k8) [1,1] rfl (Nat.mod_lt _ (by decide:8>0))
 have hf:(Af l).length=l.length+AS l.length:=by unfold Af;simp
 have hf8:(Af l).length%8=0:=by rw[hf];exact Jg _
 have hfl:l++(List.replicate ((-(l.length:Int)).fmod 8).toNat [(0:Int)]).flatten=Af l:=by rw[he,Int.toNat_natCast,hz];rfl
 have hq:((Af l).length:Int).fdiv 8=(((Af l).length/8:Nat):Int):=by
  rw[Int.fdiv_eq_ediv_of_nonneg _ (by decide)];exact zA (AK [_,_,_] [_,_] [.ne v1 k0,.ne (.a (.m 8 AA) v1) AT,.il k0 v1,.ie (.a (.m 8 AA) v1) (.c AT)] (.il AA (.c AA)) [8,1, -1,1,1] rfl hf8 (Nat.div_add_mod _ 8) (Int.emod_nonneg _ (by decide:(8:Int)≠0)) (Int.mul_ediv_add_emod _ 8)) (AK [_,_,_] [_,_] [.ne (.a (.m 8 AA) v1) AT,.it v1 k8,.ie (.a (.m 8 AA) v1) (.c AT)] (.il (.c AA) AA) [8,1,1, -1] rfl (Nat.div_add_mod _ 8) (Int.emod_lt_of_pos _ (by decide:(0:Int)<8)) (Int.mul_ediv_add_emod _ 8))
 walk_at "vc"
 ·walk_at "lf"
 ·decide
 ·show 1≤1000;decide
 ·rw[he];exact AK [_] [] [] (.il k0 (.c AA)) [1] rfl
 ·rw[he];walk_at "lf"
 ·rw[he];exact AK [_] [] [.nt AA k8] (.il (.c AA) AE) [1,1] rfl hk
 ·rw[←List.length_append,hfl,hf];exact AK [_,_] [] [.nl AA (.k 800),.nt v1 k8] (.nl (.a AA v1) AE) [1,1,1] rfl hl hk
 ·decide
 ·show 1≤1000;decide
 ·refine(hCP _ _ _ _ _ ?_:)
  rw[hfl,he]
  walk_at "vc"
  ·walk_at "lf"
  ·decide
  ·decide
  ·rw[hq];exact B3 _ (by exact AK [_,_,_,_,_] [] [.nl v1 (.k 800),.nt AT k8,.ne v3 (.a v1 AT),.ne (.a (.m 8 AA) v4) v3] (.nl AA AE) [8,1,1,1,1] rfl hl hk hf (Nat.div_add_mod _ 8))
  ·rw[hq]
   refine CI _ (fun k=> .int (Cv (Af l) k)) trivial ?_ ?_
   ·intro i hi acc K ha hK
    refine(aI ?_ ?_:)
    ·exact AK [_,_,_,_,_,_] [] [.nl v1 (.k 800),.nt AT k8,.ne v3 (.a v1 AT),.nl AA v4,.ne (.a (.m 8 v4) v5) v3] (.nl AA Bt) [8,1,1,1,8,1] rfl hl hk hf ha (Nat.div_add_mod _ 8)
    walk_at "wh"
    refine aI (B3 8 (by decide)) ?_
    refine CI 8 (fun j=> .int (BY (Af l) (8*i+j)*2^(7 - j))) trivial ?_ ?_
    ·intro j hj acc' K' ha' hK'
     walk_at "vc"
     ·exact AK [_] [] [.nl AA k8] (.nl AA Bt) [1,1] rfl ha'
     ·exact JX _ _ (by exact AK [] [] [] (.il k0 k8) [1] rfl) (by exact AK [] [] [] (.it k8 AE) [1] rfl) (by exact AK [_] [] [] (.il k0 (.c AA)) [1] rfl) (by exact AK [_,_,_,_,_,_] [] [.nl v1 (.k 800),.nt AT k8,.ne v3 (.a v1 AT),.nt AA v4,.ne (.a (.m 8 v4) v5) v3] (.it (.c AA) AE) [8,1,1,1,8,1] rfl hl hk hf hi (Nat.div_add_mod _ 8))
     ·exact AK [_,_] [] [] (.il k0 (.a (.m 8 (.c AA)) (.c v1))) [1] rfl
     ·exact AK [_,_,_,_,_] [] [.nt AA v3,.nt v1 k8,.ne (.a (.m 8 v3) v4) AT] (.it (.a (.m 8 (.c AA)) (.c v1)) (.c AT)) [1,8,1,1] rfl hi hj (Nat.div_add_mod _ 8)
     ·exact AK [_,_,_] [] [.nl v1 (.k 800),.nt AT k8,.ne AA (.a v1 AT)] (.nl AA AE) [1,1,1,1] rfl hl hk hf
     ·exact AK [_] [] [.nt AA k8] (.il k0 (.s k7 (.c AA))) [1,1] rfl hj
     ·have hbit:(Af l).getD (8*(i:Int)+j).toNat 0=0∨(Af l).getD (8*(i:Int)+j).toNat 0=1:=Jn l hb _
      rcases hbit with q|q<;>rw[q]
      ·show((0:Nat):Int)+_≤134217728;exact AK [_] [] [] (.il (.a (.c k0) (.s k7 (.c AA))) (.k 134217728)) [1] rfl
      ·show((1:Nat):Int)+_≤134217728;exact AK [_] [] [] (.il (.a (.c AO) (.s k7 (.c AA))) (.k 134217728)) [1] rfl
     ·have e1:(8*(i:Int)+j).toNat=8*i+j:=by exact DM [_,_,_] [] [.ie (.c AA) (.a (.m 8 (.c v1)) (.c AT))] AA (.a (.m 8 v1) AT) [1,1] [1, -1] rfl (tN (AK [_,_] [] [] (.il k0 (.a (.m 8 (.c AA)) (.c v1))) [1] rfl))
      have e2:(7 - (j:Int)).toNat=7 - j:=by exact DM [_,_,_] [] [.ie (.c AA) (.s k7 (.c AT)),.ne (.a v1 AT) k7] AA v1 [1,1, -1] [1, -1,1] rfl (tN (AK [_] [] [.nt AA k8] (.il k0 (.s k7 (.c AA))) [1,1] rfl hj)) (Ej (AK [_] [] [.nt AA k8] (.nl AA k7) [1,1] rfl hj))
      rw[e1,e2]
      exact hK'
    ·walk_at "vc"
     ·show 8≤1000;decide
     ·exact hK
   ·have e:(List.map (fun k=>V.int (Cv (Af l) k)) (List.range ((Af l).length/8)))=(EU l).map V.int:=by
     unfold EU;rw[List.map_map];rfl
    rw[e,CU]
    have hp:=Hq l
    walk_at "vc"
    ·walk_at "lf"
    ·intro n hn
     rcases List.mem_append.mp hn with q|q
     ·rw[List.mem_singleton.mp q];exact⟨AK [_] [] [] (.il k0 (.c AA)) [1] rfl,AK [_] [] [.nt AA k8] (.it (.c AA) (.k 256)) [1,1] rfl hk⟩
     ·exact Mc l hb n q
    ·walk_at "lf"
    ·have hbb:List.map (fun n:Int=>n.toNat.toUInt8) ([(AS l.length:Int)]++EU l)=AI l:=rfl
     have hbl:(AI l).length=1+(EU l).length:=by unfold AI;simp;exact Sa [_] [] (.a AA AO) (.a AO AA) rfl
     rw[hbb]
     refine hd 3 (AI l) _ _ _ (by decide) (by decide) (by exact AK [_,_,_,_,_,_,_] [] [.nl v1 (.k 800),.nt AT k8,.ne v3 (.a v1 AT),.ne v4 v5,.ne AA (.a AO v4),.ne (.a (.m 8 v5) v6) v3] (.nt AA CZ) [8,1,1,1,8,8,1] rfl hl hk hf hp hbl (Nat.div_add_mod _ 8)) ?_
     exact hQ
end
section
abbrev yN(fn:AG):Prop:=∀(n:Int) (C:List AB) (Q:VQ) (X:XQ),0≤n→n<256→Q (.bytes [n.toNat.toUInt8]) C→fn 35 [.int n] [] C Q X
theorem WH(P:Params)(CP:Scope→Expr→AW)(LP:Scope→Stmt→AV)(fn:AG)(n:Int)(h0:0≤n)(h1:n<256)(Q:VQ)(X:XQ)(hQ:Q (.bytes [n.toNat.toUInt8]) []):
  A4 (GA P CP LP fn) 100 35 [.int n] [] [] Q X:=by
 refine Eq.mpr (by kernel_rfl:A4 (GA P CP LP fn) 100 35 [.int n] [] [] Q X=Av (GF P CP LP fn 35 (fun _ _=>0)) 100 (Bo P 35) [("num",.int n)] [] (Br Q X)) ?_
 walk_at "vc"
 ·show 1≤1000;decide
 ·intro x hx
  rw[List.mem_singleton.mp hx];exact⟨AK [] [_] [.il k0 AA] (.il k0 AA) [1,1] rfl h0,AK [] [_] [.it AA (.k 256)] (.it AA (.k 256)) [1,1] rfl h1⟩
 ·show 1≤1000000;decide
 ·exact hQ
noncomputable def Ar(x:Int):Nat:=max 1 ((Builtin.Int.intBits x+7)/8)
abbrev tA(fn:AG):Prop:=∀(x:Int) (C:List AB) (Q:VQ) (X:XQ),0≤x→Builtin.Int.intBits x≤7200→Q (.bytes (BN (Ar x) x)) C→fn 50 [.int x] [] C Q X
theorem TG(P:Params)(CP:Scope→Expr→AW)(LP:Scope→Stmt→AV)(fn:AG)(x:Int)(h0:0≤x)(hb2:Builtin.Int.intBits x≤7200)(Q:VQ)(X:XQ)(hQ:Q (.bytes (BN (Ar x) x)) []):
  A4 (GA P CP LP fn) 100 50 [.int x] [] [] Q X:=by
 refine Eq.mpr (by kernel_rfl:A4 (GA P CP LP fn) 100 50 [.int x] [] [] Q X=Av (GF P CP LP fn 50 (fun _ _=>0)) 100 (Bo P 50) [("value",.int x),("signed",.bool false),("width",.none)] [] (Br Q X)) ?_
 have hpow:∀w:Nat,Builtin.Int.intBits x≤8*w→x<256^w:=by
  intro w hw
  have h2:=(intBits_le_iff (m:=Builtin.Int.intBits x) (x:=x)).mp (Nat.le_refl _)
  have h3:2^Builtin.Int.intBits x≤2^(8*w):=Nat.pow_le_pow_right (by decide) hw
  have e:(256:Int)^w=((2^(8*w):Nat):Int):=by rw[Nat.pow_mul,Int.natCast_pow];rfl
  rw[e]
  exact Int.lt_of_le_of_lt Int.le_natAbs (Int.ofNat_lt.mpr (Nat.lt_of_lt_of_le h2 h3))
 have he:((Builtin.Int.intBits x:Int)+7).fdiv 8=(((Builtin.Int.intBits x+7)/8:Nat):Int):=by
  rw[Int.fdiv_eq_ediv_of_nonneg _ (by decide)];exact zA (AK [_,_,_] [_,_] [.il k0 v1,.ie (.a (.m 8 AA) v1) (.a (.c v1) k7),.nt AT k8,.ne (.a (.m 8 AA) AT) (.a v1 k7)] (.il AA (.c AA)) [8,1,1,1, -1] rfl (Int.emod_nonneg _ (by decide:(8:Int)≠0)) (Int.mul_ediv_add_emod _ 8) (Nat.mod_lt _ (by decide:8>0)) (Nat.div_add_mod _ 8)) (AK [_,_,_] [_,_] [.it v1 k8,.ie (.a (.m 8 AA) v1) (.a (.c v1) k7),.ne (.a (.m 8 AA) AT) (.a v1 k7)] (.il (.c AA) AA) [8,1, -1,1] rfl (Int.emod_lt_of_pos _ (by decide:(0:Int)<8)) (Int.mul_ediv_add_emod _ 8) (Nat.div_add_mod _ 8))
 have hz:∀h:(((Builtin.Int.intBits x:Int)+7).fdiv 8 !=0)=false,(Builtin.Int.intBits x+7)/8=0:=by
  intro h
  rw[he] at h
  simp at h
  exact nQ (AK [_,_,_] [_,_] [.ie AA k0,.ne (.a (.m 8 AA) v1) (.a AT k7),.it v1 k8,.ie (.a (.m 8 AA) v1) (.a (.c AT) k7)] (.nl AA k0) [8,8,1,1, -1] rfl h (Nat.div_add_mod _ 8) (Int.emod_lt_of_pos _ (by decide:(0:Int)<8)) (Int.mul_ediv_add_emod _ 8)) (AK [_] [] [] (.nl k0 AA) [1] rfl)
 have hz':∀h:(((Builtin.Int.intBits x:Int)+7).fdiv 8 !=0)=true,Ar x=(Builtin.Int.intBits x+7)/8:=by
  intro h
  unfold Ar
  exact Nat.max_eq_right (Nat.pos_of_ne_zero fun q=>by rw[he,q] at h;exact BQ h)
 walk_at "vc"
 ·decide
 ·decide
 ·rw[he];exact AK [_] [] [] (.il k0 (.c AA)) [1] rfl
 ·rw[he];exact AK [_,_,_] [] [.nl v1 (.k 7200),.ne (.a (.m 8 AA) AT) (.a v1 k7)] (.il (.c AA) A7) [8,1,1] rfl hb2 (Nat.div_add_mod _ 8)
 ·exact h0
 ·rw[he,Int.toNat_natCast];exact hpow _ (by exact AK [_,_,_] [] [.nt AT k8,.ne (.a (.m 8 v1) AT) (.a AA k7)] (.nl AA (.m 8 v1)) [1,1, -1] rfl (Nat.mod_lt _ (by decide:8>0)) (Nat.div_add_mod _ 8))
 ·rename_i h
  rw[hz' h] at hQ
  rw[he,Int.toNat_natCast]
  exact hQ
 ·decide
 ·decide
 ·exact h0
 ·rename_i h;exact hpow 1 (by have:=hz h;exact AK [_,_,_] [] [.ne v1 k0,.nt AT k8,.ne (.a (.m 8 v1) AT) (.a AA k7)] (.nl AA (.m 8 AO)) [1,8,1, -1] rfl this (Nat.mod_lt _ (by decide:8>0)) (Nat.div_add_mod _ 8))
 ·rename_i h
  have e:Ar x=1:=by unfold Ar;rw[hz h];rfl
  rw[e] at hQ
  exact hQ
abbrev Pm(fn:AG):Prop:=∀(b:List UInt8) (C:List AB) (Q:VQ) (X:XQ),b.length≤1000→Q (.int (At b)) C→fn 58 [.bytes b] [] C Q X
theorem Op(P:Params)(CP:Scope→Expr→AW)(LP:Scope→Stmt→AV)(fn:AG)(b:List UInt8)(hb:b.length≤1000)(Q:VQ)(X:XQ)(hQ:Q (.int (At b)) []):
  A4 (GA P CP LP fn) 100 58 [.bytes b] [] [] Q X:=by
 refine Eq.mpr (by kernel_rfl:A4 (GA P CP LP fn) 100 58 [.bytes b] [] [] Q X=Av (GF P CP LP fn 58 (fun _ _=>0)) 100 (Bo P 58) [("value",.bytes b),("signed",.bool false)] [] (Br Q X)) ?_
 walk_at "vc"
 ·exact AK [_] [] [.nl AA A7] (.nl AA A7) [1,1] rfl hb
 ·exact hQ
abbrev W3(fn:AG):Prop:=∀(t:Int) (b:List UInt8) (C:List AB) (Q:VQ) (X:XQ),t=3∨t=4→b.length<128→Q (.bytes [t.toNat.toUInt8,b.length.toUInt8]) C→fn 73 [.int 0,.int 0,.int t,.bytes b] [] C Q X
theorem Vx(P:Params)(CP:Scope→Expr→AW)(LP:Scope→Stmt→AV)(fn:AG)(hc:yN fn)(t:Int)(b:List UInt8)(ht:t=3∨t=4)(hb:b.length<128)(Q:VQ)(X:XQ)(hQ:Q (.bytes [t.toNat.toUInt8,b.length.toUInt8]) []):
  A4 (GA P CP LP fn) 100 73 [.int 0,.int 0,.int t,.bytes b] [] [] Q X:=by
 refine Eq.mpr (by kernel_rfl:A4 (GA P CP LP fn) 100 73 [.int 0,.int 0,.int t,.bytes b] [] [] Q X=Av (GF P CP LP fn 73 (fun _ _=>0)) 100 (Bo P 73) [("class_",.int 0),("method",.int 0),("tag",.int t),("contents",.bytes b)] [] (Br Q X)) ?_
 rcases ht with rfl|rfl
 all_goals
  walk_at "vc"
  ·decide
  ·decide
  ·decide
  ·decide
  ·refine hc _ _ _ _ (by decide) (by decide) ?_
   walk_at "vc"
   ·decide
   ·exact AK [_] [] [.nt AA CZ] (.nl AA AE) [1,1] rfl hb
   ·refine hc _ _ _ _ (by exact AK [_] [] [] (.il k0 (.c AA)) [1] rfl) (by exact AK [_] [] [.nt AA CZ] (.it (.c AA) (.k 256)) [1,1] rfl hb) ?_
    walk_at "vc"
    ·show 1+1≤16777216;decide
    ·rw[Int.toNat_natCast]
     exact hQ
end
section
def Dj:Nat→List UInt8→Prop
 |0,e=>∃t b,(t=3∨t=4)∧b.length<128∧e=t::b.length.toUInt8::b
 |k+1,e=>(∃t b,(t=3∨t=4)∧b.length<128∧e=t::b.length.toUInt8::b)∨∃t es,(t=35∨t=36)∧(∀x∈es,Dj k x)∧e=t::128::(List.flatten es++[0,0])
theorem Dj.cases:∀{k:Nat} {e:List UInt8},Dj k e→(∃t b,(t=3∨t=4)∧b.length<128∧e=t::b.length.toUInt8::b)∨∃j t es,k=j+1∧(t=35∨t=36)∧(∀x∈es,Dj j x)∧e=t::128::(List.flatten es++[0,0])
 |0,_,h=> .inl h
 |_+1,_,.inl h=> .inl h
 |j+1,_,.inr ⟨t,es,h1,h2,h3⟩=> .inr ⟨j,t,es,rfl,h1,h2,h3⟩
theorem Dj.head{k:Nat}{e:List UInt8}(h:Dj k e):∃t r,t≠0∧e=t::r:=by
 rcases h.cases with⟨t,b,ht,_,rfl⟩|⟨j,t,es,_,ht,_,rfl⟩
 ·exact⟨t,_,by rcases ht with rfl|rfl<;>decide,rfl⟩
 ·exact⟨t,_,by rcases ht with rfl|rfl<;>decide,rfl⟩
theorem GJ(pre:List UInt8)(x:UInt8)(post:List UInt8):(pre++x::post).getD pre.length 0=x:=by
 rw[List.getD_eq_getElem?_getD,List.getElem?_append_right (Nat.le_refl _),Nat.sub_self];rfl
theorem RG(pre mid post:List UInt8):BW (pre++(mid++post)) (some (pre.length:Int)) (some ((pre.length+mid.length:Nat):Int))=mid:=by
 unfold BW
 have e1:clipAt (pre++(mid++post)).length (pre.length:Int)=pre.length:=by
  rw[Cp,List.length_append];exact Nat.min_eq_left (Nat.le_add_right ..)
 have e2:clipAt (pre++(mid++post)).length ((pre.length+mid.length:Nat):Int)=pre.length+mid.length:=by
  rw[Cp,List.length_append,List.length_append,←Nat.add_assoc];exact Nat.min_eq_left (Nat.le_add_right ..)
 show((pre++(mid++post)).drop (clipAt (pre++(mid++post)).length (pre.length:Int))).take (clipAt (pre++(mid++post)).length ((pre.length+mid.length:Nat):Int) - clipAt (pre++(mid++post)).length (pre.length:Int))=mid
 rw[e1,e2,List.drop_left,Nat.add_sub_cancel_left,List.take_left]
theorem EI{d:List UInt8}{a b:Int}(pre mid post:List UInt8)(hd:d=pre++(mid++post))(ha:a=(pre.length:Int))(hb:b=(pre.length:Int)+(mid.length:Int)):BW d (some a) (some b)=mid:=by
 have:=RG pre mid post
 rw[hd,ha,hb,←Int.natCast_add];exact this
abbrev Wo(k:Nat)(S:List V→List (Str×V)→List AB→VQ→XQ→Prop):Prop:=∀(d:List UInt8) (p:Int) (pre e post:List UInt8) (dep:Int) (C:List AB) (Q:VQ) (X:XQ),d=pre++(e++post)→p=(pre.length:Int)→Dj k e→d.length≤1000000→0≤dep→dep+k≤10→(∀x,Q (.ti [x,p+(e.length:Int)]) C)→S [.bytes d,.int (d.length:Int),.int p] [("lengths_only",.bool true),("depth",.int dep)] C Q X
abbrev Fa(P:Params)(CP:Scope→Expr→AW)(LP:Scope→Stmt→AV)(fn:AG)(d:List UInt8)(p:Int)(lo:Bool)(dep:Int)(Q:VQ)(X:XQ):Prop:=
 Av (GF P CP LP fn 66 (fun _ _=>0)) 100 (Bo P 66) [("encoded_data",.bytes d),("data_len",.int (d.length:Int)),("pointer",.int p),("lengths_only",.bool lo),("depth",.int dep)] [] (Br Q X)
theorem Gh(P:Params)(CP:Scope→Expr→AW)(LP:Scope→Stmt→AV)(fn:AG)(pre post b d:List UInt8)(t:UInt8)(ht:t=3∨t=4)(hb:b.length<128)(hd:d=pre++(t::b.length.toUInt8::b++post))(hl:d.length≤1000000)(lo:Bool)(dep:Int)(h0:0≤dep)(h1:dep≤10)(Q:VQ)(X:XQ)
  (hQ1:lo=true→∀x,Q (.ti [x,((pre.length+2+b.length:Nat):Int)]) [])
  (hQ2:lo=false→Q (.tup [.tup [.int 0,.int 0,.int t.toNat,.bytes [t,b.length.toUInt8],.bytes b,.bytes []],.int ((pre.length+2+b.length:Nat):Int)]) []):
  Fa P CP LP fn d (pre.length:Int) lo dep Q X:=by
 have hdl:d.length=pre.length+2+b.length+post.length:=by rw[hd];simp;exact Sa [_,_,_] [] (.a AA (.a (.a (.a v1 AT) AO) AO)) (.a (.a (.a AA J9) v1) AT) rfl
 have g0:d.getD ((pre.length:Int)).toNat 0=t:=by rw[hd,Int.toNat_natCast];exact GJ _ _ _
 have g1:(d.getD ((pre.length:Int)+1).toNat 0).toNat=b.length:=by
  have e:d=(pre++[t])++b.length.toUInt8::(b++post):=by rw[hd];simp
  have e2:((pre.length:Int)+1).toNat=(pre++[t]).length:=by rw[List.length_append,List.length_singleton];exact DM [_,_] [] [.ie (.c AA) (.a (.c v1) AO)] AA (.a v1 AO) [1,1] [1, -1] rfl (tN (AK [_] [] [] (.il k0 (.a (.c AA) AO)) [1] rfl))
  rw[e,e2,GJ]
  exact Nat.mod_eq_of_lt (Nat.lt_trans hb (by decide))
 have e7:((b.length:Int)).fdiv (2^Int.toNat 7)=0:=by
  rw[Int.fdiv_eq_ediv_of_nonneg _ (by decide)]
  show(b.length:Int)/128=0
  exact zA (AK [_] [_,_] [.nt AA CZ,.il k0 v1,.ie (.a (.m 128 AA) v1) (.c AA)] (.il AA k0) [128,1,1,1] rfl hb (Int.emod_nonneg _ (by decide:(128:Int)≠0)) (Int.mul_ediv_add_emod _ 128)) (AK [_] [_,_] [.it v1 CZ,.ie (.a (.m 128 AA) v1) (.c AA)] (.il k0 AA) [128,1, -1] rfl (Int.emod_lt_of_pos _ (by decide:(0:Int)<128)) (Int.mul_ediv_add_emod _ 128))
 have e127:Builtin.bitAnd (b.length:Int) 127=(b.length:Int):=by
  show((b.length&&&127:Nat):Int)=_
  rw[show(127:Nat)=2^7 - 1 from rfl,Nat.and_two_pow_sub_one_eq_mod,Nat.mod_eq_of_lt hb]
 have c1:BW d (some (pre.length:Int)) (some ((pre.length:Int)+1+1))=[t,b.length.toUInt8]:=
  EI pre [t,b.length.toUInt8] (b++post) (by rw[hd];rfl) rfl (by show _=(pre.length:Int)+2;exact HX [_] [] (.a (.a (.c AA) AO) AO) (.a (.c AA) J9) rfl)
 have c2:BW d (some ((pre.length:Int)+1+1)) (some ((pre.length:Int)+1+1+(b.length:Int) - ((List.length ([]:List UInt8):Nat):Int)))=b:=
  EI (pre++[t,b.length.toUInt8]) b post (by rw[hd];simp) (by rw[List.length_append,List.length_cons,List.length_singleton];exact HX [_] [] (.a (.a (.c AA) AO) AO) (.c (.a AA (.a AO AO))) rfl) (by rw[List.length_append,List.length_cons,List.length_singleton,List.length_nil];exact HX [_,_] [] (.s (.a (.a (.a (.c AA) AO) AO) (.c v1)) (.c k0)) (.a (.c (.a AA (.a AO AO))) (.c v1)) rfl)
 have ce:((pre.length+2+b.length:Nat):Int)=(pre.length:Int)+1+1+(b.length:Int):=by exact HX [_,_] [] (.c (.a (.a AA J9) v1)) (.a (.a (.a (.c AA) AO) AO) (.c v1)) rfl
 rw[ce] at hQ1 hQ2
 have hA:Builtin.bitAnd (t.toNat:Int) 31=(t.toNat:Int)∧Builtin.bitAnd ((t.toNat:Int).fdiv (2^Int.toNat 5)) 1=0∧(t.toNat:Int).fdiv (2^Int.toNat 6)=0∧(t.toNat:Int)<31:=by rcases ht with rfl|rfl<;>decide
 obtain⟨hA,hC,h6,h31⟩:=hA
 walk_at "vi"
 rw[g0]
 walk_at "vi"
 rw[g1]
 walk_at "vi"
 rw[e127]
 cases lo with
 |true=>
  walk_at "vi"
  exact hQ1 rfl _
 |false=>
  walk_at "vi"
  rw[c1,c2,hA,hC,h6]
  exact hQ2 rfl
end
section
abbrev EL(k:Nat)(fn:AG):Prop:=Wo k (fn 66)
def PcI(d pre:List UInt8)(lo:Bool)(dep:Int)(t:UInt8)(es:List (List UInt8))(n:Nat)(m:AU)(C:List AB):Prop:=C=[]∧∃(done rest:List (List UInt8)) (ce:Int) (tl:AU),es=done++rest∧n=rest.length∧ce=(pre.length:Int)+1+1+(done.flatten.length:Int)∧(tl=[]∨∃v,tl=([("_",v)]:AU))∧
  m=(([("encoded_data",.bytes d),("data_len",.int d.length),("pointer",.int ((pre.length:Int)+1+1)),("lengths_only",.bool lo),("depth",.int dep),("start",.int (pre.length:Int)),("first_octet",.int (t.toNat:Int)),("tag",.int (Builtin.bitAnd (t.toNat:Int) 31)),("constructed",.int 1),("length_octet",.int 128),("trailer",.bytes []),("length_octets",.int 0),("contents_end",.int ce)]:AU)++tl)
theorem Gi(P:Params)(CP:Scope→Expr→AW)(LP:Scope→Stmt→AV)(fn:AG)(hLP:Pi P CP LP fn)(k:Nat)(hP:EL k fn)(pre post d:List UInt8)(es:List (List UInt8))(t:UInt8)(ht:t=35∨t=36)(hes:∀x∈es,Dj k x)(hd:d=pre++(t::128::(es.flatten++[0,0])++post))(hl:d.length≤1000000)(lo:Bool)(dep:Int)(h0:0≤dep)(h1:dep+1+k≤10)(Q:VQ)(X:XQ)
  (hQ1:lo=true→∀x,Q (.ti [x,((pre.length+4+es.flatten.length:Nat):Int)]) [])
  (hQ2:lo=false→Q (.tup [.tup [.int 0,.int 1,.int (t.toNat - 32),.bytes [t,128],.bytes es.flatten,.bytes [0,0]],.int ((pre.length+4+es.flatten.length:Nat):Int)]) []):
  Fa P CP LP fn d (pre.length:Int) lo dep Q X:=by
 have hdl:d.length=pre.length+4+es.flatten.length+post.length:=by rw[hd];simp;exact Sa [_,_,_] [] (.a AA (.a (.a (.a v1 (.a (.a AT AO) AO)) AO) AO)) (.a (.a (.a AA k4) v1) AT) rfl
 have g0:d.getD ((pre.length:Int)).toNat 0=t:=by rw[hd,Int.toNat_natCast];exact GJ _ _ _
 have g1:d.getD ((pre.length:Int)+1).toNat 0=128:=by
  have e:d=(pre++[t])++128::(es.flatten++[0,0]++post):=by rw[hd];simp
  have e2:((pre.length:Int)+1).toNat=(pre++[t]).length:=by rw[List.length_append,List.length_singleton];exact DM [_,_] [] [.ie (.c AA) (.a (.c v1) AO)] AA (.a v1 AO) [1,1] [1, -1] rfl (tN (AK [_] [] [] (.il k0 (.a (.c AA) AO)) [1] rfl))
  rw[e,e2,GJ]
 have hA:Builtin.bitAnd (t.toNat:Int) 31=(t.toNat:Int) - 32∧Builtin.bitAnd ((t.toNat:Int).fdiv (2^Int.toNat 5)) 1=1∧(t.toNat:Int).fdiv (2^Int.toNat 6)=0∧(t.toNat:Int)<37:=by rcases ht with rfl|rfl<;>decide
 obtain⟨hA,hC,h6,h31⟩:=hA
 walk_at "vi"
 rw[g0]
 walk_at "vi"
 rw[g1]
 walk_at "vi"
 rw[hC]
 walk_at "vi"
 refine(hLP _ _ _ _ _ ?_:)
 refine⟨PcI d pre lo dep t es,es.length,?_,?_⟩
 ·refine⟨rfl,[],es,(pre.length:Int)+1+1,[],rfl,rfl,?_,.inl rfl,?_⟩
  ·simp
  ·kernel_rfl
 ·rintro n m C ⟨rfl,done,rest,ce,tl,hes2,rfl,hce,htl,hm⟩
  have hfl:es.flatten.length=done.flatten.length+rest.flatten.length:=by rw[hes2];simp
  cases rest with
  |nil=>
   have hcut:BW d (some ce) (some (ce+2))=[0,0]:=EI (pre++(t::128::es.flatten)) [0,0] post (by rw[hd];simp) (by rw[hce,hes2];simp;exact HX [_,_] [] (.a (.a (.a (.c AA) AO) AO) (.c v1)) (.a (.c AA) (.a (.a (.c v1) AO) AO)) rfl) (by rw[hce,hes2];simp;exact HX [_,_] [] (.a (.a (.a (.c AA) AO) AO) (.c v1)) (.a (.c AA) (.a (.a (.c v1) AO) AO)) rfl)
   have c1:BW d (some (pre.length:Int)) (some ((pre.length:Int)+1+1))=[t,128]:=
    EI pre [t,128] (es.flatten++[0,0]++post) (by rw[hd];rfl) rfl (by show _=(pre.length:Int)+2;exact HX [_] [] (.a (.a (.c AA) AO) AO) (.a (.c AA) J9) rfl)
   have c2:BW d (some ((pre.length:Int)+1+1)) (some (ce+2 - ((List.length ([0,0]:List UInt8):Nat):Int)))=es.flatten:=
    EI (pre++[t,128]) es.flatten ([0,0]++post) (by rw[hd];simp) (by rw[List.length_append,List.length_cons,List.length_singleton];exact HX [_] [] (.a (.a (.c AA) AO) AO) (.c (.a AA (.a AO AO))) rfl) (by rw[List.length_append,hfl,hce];simp;exact HX [_] [] (.a (.a (.c AA) AO) AO) (.a (.c AA) J9) rfl)
   have hfin:ce+2=((pre.length+4+es.flatten.length:Nat):Int):=by rw[hfl,hce];simp;exact HX [_,_] [] (.a (.a (.a (.a (.c AA) AO) AO) (.c v1)) J9) (.a (.a (.c AA) k4) (.c v1)) rfl
   rw[←hfin] at hQ1 hQ2
   subst hm
   walk_at "vi"
   rw[hcut]
   walk_at "vi"
   cases lo with
   |true=>
    walk_at "vi"
    exact hQ1 rfl _
   |false=>
    walk_at "vi"
    rw[c1,c2,hA,h6]
    exact hQ2 rfl
  |cons e rest=>
   obtain⟨t',r,ht',rfl⟩:=(hes e (by rw[hes2];simp)).head
   have hd2:d=(pre++(t::128::done.flatten))++((t'::r)++(rest.flatten++[0,0]++post)):=by rw[hd,hes2];simp
   have hp2:ce=((pre++(t::128::done.flatten)).length:Int):=by rw[hce];simp;exact HX [_,_] [] (.a (.a (.a (.c AA) AO) AO) (.c v1)) (.a (.c AA) (.a (.a (.c v1) AO) AO)) rfl
   obtain⟨y,r',hy⟩:∃y r',r++(rest.flatten++[0,0]++post)=y::r':=by
    cases r with
    |nil=>cases hz:rest.flatten with
     |nil=>exact⟨0,_,rfl⟩
     |cons a b=>exact⟨a,_,rfl⟩
    |cons a b=>exact⟨a,_,rfl⟩
   have hc:BW d (some ce) (some (ce+2))=[t',y]:=by
    refine EI (pre++(t::128::done.flatten)) [t',y] r' ?_ hp2 (by rw[hp2];rfl)
    rw[hd2,List.cons_append,hy];rfl
   have hne:∀h:([t',y] !=([0,0]:List UInt8))=false,False:=fun h=>by simp[bne,ht'] at h
   have hlen:(List.flatten ((t'::r)::rest)).length=(t'::r).length+rest.flatten.length:=by simp;exact Sa [_,_] [] (.a (.a AA v1) AO) (.a (.a AA AO) v1) rfl
   subst hm
   walk_at "vi"
   rw[hc]
   refine(Ad.mk (fun _=> ?_) (fun h=>(hne h).elim):)
   walk_at "wh"
   refine hP d _ _ _ _ _ _ _ _ hd2 hp2 (hes _ (by rw[hes2];simp)) hl (by exact AK [] [_] [.il k0 AA] (.il k0 (.a AA AO)) [1,1] rfl h0) (by exact AK [_] [_] [.il (.a (.a AA AO) (.c AA)) Fg] (.il (.a (.a AA AO) (.c AA)) Fg) [1,1] rfl h1) fun x=> ?_
   refine Exists.intro rest.length (aI (by simp) (aI rfl ⟨done++[t'::r],rest,ce+((t'::r).length:Int),[("_",.int x)],by rw[hes2];simp,rfl,by rw[hce];simp;exact HX [_,_,_] [] (.a (.a (.a (.a (.c AA) AO) AO) (.c v1)) (.a (.c AT) AO)) (.a (.a (.a (.c AA) AO) AO) (.a (.c v1) (.a (.c AT) AO))) rfl,.inr ⟨_,rfl⟩,?_⟩))
   rcases htl with rfl|⟨v,rfl⟩<;>kernel_rfl
theorem JQ(P:Params)(CP:Scope→Expr→AW)(LP:Scope→Stmt→AV)(fn:AG)(hLP:Pi P CP LP fn)(k:Nat)(hP:∀j,k=j+1→EL j fn)(pre post d e:List UInt8)(he:Dj k e)(hd:d=pre++(e++post))(hl:d.length≤1000000)(lo:Bool)(dep:Int)(h0:0≤dep)(h1:dep+k≤10)(Q:VQ)(X:XQ)
  (hQ1:lo=true→∀x,Q (.ti [x,(pre.length:Int)+(e.length:Int)]) [])
  (hQ2:lo=false→(∀t b,(t=3∨t=4)→b.length<128→e=t::b.length.toUInt8::b→Q (.tup [.tup [.int 0,.int 0,.int t.toNat,.bytes [t,b.length.toUInt8],.bytes b,.bytes []],.int ((pre.length:Int)+(e.length:Int))]) [])∧
   (∀j t es,k=j+1→(t=35∨t=36)→(∀x∈es,Dj j x)→e=t::128::(List.flatten es++[0,0])→Q (.tup [.tup [.int 0,.int 1,.int (t.toNat - 32),.bytes [t,128],.bytes es.flatten,.bytes [0,0]],.int ((pre.length:Int)+(e.length:Int))]) [])):
  Fa P CP LP fn d (pre.length:Int) lo dep Q X:=by
 rcases he.cases with⟨t,b,ht,hb,rfl⟩|⟨j,t,es,rfl,ht,hes,rfl⟩
 ·have e2:(pre.length:Int)+((t::b.length.toUInt8::b).length:Int)=((pre.length+2+b.length:Nat):Int):=by simp;exact HX [_,_] [] (.a (.c AA) (.a (.a (.c v1) AO) AO)) (.a (.a (.c AA) J9) (.c v1)) rfl
  rw[e2] at hQ1 hQ2
  exact Gh P CP LP fn pre post b d t ht hb hd hl lo dep h0 (by exact AK [_] [_] [.il (.a AA (.c AA)) Fg] (.il AA Fg) [1,1] rfl h1) Q X hQ1 fun q=>(hQ2 q).1 t b ht hb rfl
 ·have e2:(pre.length:Int)+((t::128::(es.flatten++[0,0])).length:Int)=((pre.length+4+es.flatten.length:Nat):Int):=by simp;exact HX [_,_] [] (.a (.c AA) (.a (.a (.a (.c v1) J9) AO) AO)) (.a (.a (.c AA) k4) (.c v1)) rfl
  rw[e2] at hQ1 hQ2
  exact Gi P CP LP fn hLP j (hP j rfl) pre post d es t ht hes hd hl lo dep h0 (by exact AK [_] [_] [.il (.a AA (.c (.a AA AO))) Fg] (.il (.a (.a AA AO) (.c AA)) Fg) [1,1] rfl h1) Q X hQ1 fun q=>(hQ2 q).2 j t es rfl ht hes rfl
theorem Hp(P:Params)(CP:Scope→Expr→AW)(LP:Scope→Stmt→AV)(fn:AG)(hLP:Pi P CP LP fn)(k:Nat)(hP:∀j,k=j+1→EL j fn)(pre post d e:List UInt8)(p:Int)(hp:p=(pre.length:Int))(he:Dj k e)(hd:d=pre++(e++post))(hl:d.length≤1000000)(dep:Int)(h0:0≤dep)(h1:dep+k≤10)(Q:VQ)(X:XQ)
  (hQ:∀x,Q (.ti [x,p+(e.length:Int)]) []):
  A4 (GA P CP LP fn) 100 66 [.bytes d,.int (d.length:Int),.int p] [("lengths_only",.bool true),("depth",.int dep)] [] Q X:=by
 refine Eq.mpr (by kernel_rfl:A4 (GA P CP LP fn) 100 66 [.bytes d,.int (d.length:Int),.int p] [("lengths_only",.bool true),("depth",.int dep)] [] Q X=Av (GF P CP LP fn 66 (fun _ _=>0)) 100 (Bo P 66) [("encoded_data",.bytes d),("data_len",.int (d.length:Int)),("pointer",.int p),("lengths_only",.bool true),("depth",.int dep)] [] (Br Q X)) ?_
 subst hp
 exact JQ P CP LP fn hLP k hP pre post d e he hd hl true dep h0 h1 Q X (fun _=>hQ) (fun q=>by cases q)
abbrev Wp(S:List V→List (Str×V)→List AB→VQ→XQ→Prop):Prop:=∀(k:Nat) (d:List UInt8) (p:Int) (pre e post:List UInt8) (C:List AB) (Q:VQ) (X:XQ),d=pre++(e++post)→p=(pre.length:Int)→k≤5→Dj k e→d.length≤1000000→
 (∀t b,(t=3∨t=4)→b.length<128→e=t::b.length.toUInt8::b→Q (.tup [.tup [.int 0,.int 0,.int t.toNat,.bytes [t,b.length.toUInt8],.bytes b,.bytes []],.int (p+(e.length:Int))]) C)→
 (∀j t es,k=j+1→(t=35∨t=36)→(∀x∈es,Dj j x)→e=t::128::(List.flatten es++[0,0])→Q (.tup [.tup [.int 0,.int 1,.int (t.toNat - 32),.bytes [t,128],.bytes es.flatten,.bytes [0,0]],.int (p+(e.length:Int))]) C)→
 S [.bytes d,.int (d.length:Int),.int p] [] C Q X
abbrev uq(fn:AG):Prop:=Wp (fn 66)
theorem XI(P:Params)(CP:Scope→Expr→AW)(LP:Scope→Stmt→AV)(fn:AG)(hLP:Pi P CP LP fn)(k:Nat)(hP:∀j,k=j+1→EL j fn)(pre post d e:List UInt8)(p:Int)(hp:p=(pre.length:Int))(he:Dj k e)(hd:d=pre++(e++post))(hl:d.length≤1000000)(hk:k≤10)(Q:VQ)(X:XQ)
  (hQ1:∀t b,(t=3∨t=4)→b.length<128→e=t::b.length.toUInt8::b→Q (.tup [.tup [.int 0,.int 0,.int t.toNat,.bytes [t,b.length.toUInt8],.bytes b,.bytes []],.int (p+(e.length:Int))]) [])
  (hQ2:∀j t es,k=j+1→(t=35∨t=36)→(∀x∈es,Dj j x)→e=t::128::(List.flatten es++[0,0])→Q (.tup [.tup [.int 0,.int 1,.int (t.toNat - 32),.bytes [t,128],.bytes es.flatten,.bytes [0,0]],.int (p+(e.length:Int))]) []):
  A4 (GA P CP LP fn) 100 66 [.bytes d,.int (d.length:Int),.int p] [] [] Q X:=by
 refine Eq.mpr (by kernel_rfl:A4 (GA P CP LP fn) 100 66 [.bytes d,.int (d.length:Int),.int p] [] [] Q X=Av (GF P CP LP fn 66 (fun _ _=>0)) 100 (Bo P 66) [("encoded_data",.bytes d),("data_len",.int (d.length:Int)),("pointer",.int p),("lengths_only",.bool false),("depth",.int 0)] [] (Br Q X)) ?_
 subst hp
 exact JQ P CP LP fn hLP k hP pre post d e he hd hl false 0 (by decide) (by exact AK [_] [] [.nl AA Fg] (.il (.a k0 (.c AA)) Fg) [1,1] rfl hk) Q X (fun q=>by cases q) (fun _=>⟨hQ1,hQ2⟩)
end
section
noncomputable def FI{α β:Type}:List α→(List α→β)→β
 |[],k=>k []
 |x::l,k=>FI l fun l'=>k (x::l')
theorem G6{α β:Type}:∀(l:List α) (k:List α→β),FI l k=k l
 |[],k=>rfl
 |x::l,k=>by unfold FI;rw[G6 l]
noncomputable def Lq{α β:Type}(f:List α→β→List α):List β→List α→List α
 |[],s=>s
 |b::l,s=>FI (f s b) fun s=>Lq f l s
theorem Jq{α β:Type}(f:List α→β→List α):∀(l:List β) (s:List α),Lq f l s=l.foldl f s
 |[],s=>rfl
 |b::l,s=>by unfold Lq;rw[G6,Jq f l];rfl
noncomputable def PF{α:Type}(names:List Str)(dfl:List α)(kwarg:Bool)(pos:List α)(kw:EQ α):Option (EQ α×EQ α):=
 FI names fun names=>FI dfl fun dfl=>
 if pos.length>names.length then none else match kw.foldl (BJ names kwarg) (some (names.zip pos,[])) with
  |none=>none
  |some (slots,extra)=>FI slots fun slots=>FI extra fun extra=>if Cy names dfl slots then none else
    FI (Lq EH ((names.drop (names.length - (De names dfl).length)).zip (De names dfl)) slots) fun s=>some (E7 s names,extra)
theorem PE{α:Type}(names:List Str)(dfl:List α)(kwarg:Bool)(pos:List α)(kw:EQ α):PF names dfl kwarg pos kw=B8 names dfl kwarg pos kw:=by
 unfold PF B8
 simp only[G6,Jq]
 rfl
def LK(R:EC→Nat→List Stmt→AU→List AB→A5→Prop)(Γ:EC)(N:Nat)(f:Nat)(Vs:List V)(Kw:List (Str×V))(C:List AB)(Q:VQ)(X:XQ):Prop:=match Γ.K.lookup f with
 |some ⟨_,_,.func fd,_⟩=>(match fd.body with
  | .stmts body=>AD (FJ Γ.K fd&& !Γ.hd&& !Γ.tr&& !Γ.top)<|AF (RE Γ.K fd.defaults) fun dV=>AF (PF (fd.params.args.map (·.arg)) dV fd.params.kwarg.isSome Vs Kw) fun r=>(match fd.params.kwarg with
   |none=>R (Γ.sS fd.scope) N body r.1 C (Br Q X)
   |some a=>AD (decide ((r.2.map (·.1)).Nodup)&&decide (r.2.length≤900))<|R (Γ.sS fd.scope) N body (r.1++[(a.arg,.obj C.length)]) (C++[.dict r.2]) (Br Q X))
  |_=>False)
 |_=>False
theorem LJ(Γ:EC)(N:Nat)(f:Nat)(Vs:List V)(Kw:List (Str×V))(C:List AB)(Q:VQ)(X:XQ):A4 Γ N f Vs Kw C Q X=LK Av Γ N f Vs Kw C Q X:=by
 unfold A4 LK
 simp only[PE]<;>rfl
theorem BB{Γ Γ':EC}{N f:Nat}{Vs:List V}{Kw:List (Str×V)}{C C':List AB}{Q:VQ}{X:XQ}{b:List Stmt}{m:AU}
  (h:∀R:EC→Nat→List Stmt→AU→List AB→A5→Prop,LK R Γ N f Vs Kw C Q X=R Γ' N b m C' (Br Q X))
  (k:Av Γ' N b m C' (Br Q X)):A4 Γ N f Vs Kw C Q X:=by
 rw[LJ,h];exact k
end
section
abbrev CW(c:Nat):Prop:=c=448∨c=387
abbrev uh:Scope→Expr→AW:=fun _ _ _ _ _=>False
abbrev ug:Scope→Stmt→AV:=fun _ _ _ _ _=>False
abbrev Qa:AG:=fun _ _ _ _ _ _=>False
abbrev Ez(P:Params)(fn:AG)(f:Nat):FS:=LK Av (GA P uh ug fn) 100 f
def zq(P:Params):AG:=BD 110 (Ez P Qa 110) Qa
def HQ(P:Params):AG:=BD 192 (Ez P (zq P) 192) (BD 903 (Ez P Qa 903) Qa)
noncomputable abbrev By(m:Bool)(b h tr:List UInt8):AU:=match m with
 |true=>[("contents",.bytes b),("method",.int 1),("_indefinite",.bool true),("_header",.bytes h),("_trailer",.bytes tr),("_native",.none)]
 |false=>[("contents",.bytes b),("_header",.bytes h),("_trailer",.bytes tr),("_native",.none)]
noncomputable abbrev Lw(b h tr:List UInt8):AU:=[("class_",.int 0),("contents",.bytes b),("_indefinite",.bool true),("method",.int 1),("_header",.bytes h),("_trailer",.bytes tr),("_native",.none)]
noncomputable def DU(c:Nat):UInt8:=if c=448 then 4 else 3
noncomputable def GV(c:Nat):UInt8:=if c=448 then 36 else 35
theorem Ea(P:Params)(b h:List UInt8)(Q:VQ)(X:XQ):Ez P (HQ P) 924 [.int 0,.int 0,.int 4,.bytes h,.bytes b,.bytes [],.glob 448,.obj 0] [] [.dict []] Q X=(0≤1000000∧0≤1000000∧0≤1000000∧0≤1000000∧0≤1099511627776∧Q (.obj 1) [.dict [],.inst 448 (By false b h []),.dict []]):=by kernel_rfl
theorem RR(P:Params)(b h:List UInt8)(Q:VQ)(X:XQ)(hQ:Q (.obj 1) [.dict [],.inst 448 (By false b h []),.dict []]):Ez P (HQ P) 924 [.int 0,.int 0,.int 4,.bytes h,.bytes b,.bytes [],.glob 448,.obj 0] [] [.dict []] Q X:=by
 rw[Ea];exact⟨Nat.zero_le _,Nat.zero_le _,Nat.zero_le _,Nat.zero_le _,by decide,hQ⟩
theorem Ee(P:Params)(b h:List UInt8)(Q:VQ)(X:XQ):Ez P (HQ P) 924 [.int 0,.int 0,.int 4,.bytes h,.bytes b,.bytes [],.glob 448,.none] [] [] Q X=(0≤1099511627776∧Q (.obj 0) [.inst 448 (By false b h []),.dict []]):=by kernel_rfl
theorem RV(P:Params)(b h:List UInt8)(Q:VQ)(X:XQ)(hQ:Q (.obj 0) [.inst 448 (By false b h []),.dict []]):Ez P (HQ P) 924 [.int 0,.int 0,.int 4,.bytes h,.bytes b,.bytes [],.glob 448,.none] [] [] Q X:=by
 rw[Ee];exact⟨by decide,hQ⟩
theorem EY(P:Params)(b h:List UInt8)(Q:VQ)(X:XQ):Ez P (HQ P) 924 [.int 0,.int 1,.int 4,.bytes h,.bytes b,.bytes [0,0],.glob 448,.obj 0] [] [.dict []] Q X=(0≤1000000∧0≤1000000∧0≤1000000∧0≤1000000∧2≤1099511627776∧Q (.obj 1) [.dict [],.inst 448 (By true b h [0,0]),.dict []]):=by kernel_rfl
theorem RP(P:Params)(b h:List UInt8)(Q:VQ)(X:XQ)(hQ:Q (.obj 1) [.dict [],.inst 448 (By true b h [0,0]),.dict []]):Ez P (HQ P) 924 [.int 0,.int 1,.int 4,.bytes h,.bytes b,.bytes [0,0],.glob 448,.obj 0] [] [.dict []] Q X:=by
 rw[EY];exact⟨Nat.zero_le _,Nat.zero_le _,Nat.zero_le _,Nat.zero_le _,by decide,hQ⟩
theorem Ec(P:Params)(b h:List UInt8)(Q:VQ)(X:XQ):Ez P (HQ P) 924 [.int 0,.int 1,.int 4,.bytes h,.bytes b,.bytes [0,0],.glob 448,.none] [] [] Q X=(2≤1099511627776∧Q (.obj 0) [.inst 448 (By true b h [0,0]),.dict []]):=by kernel_rfl
theorem RT(P:Params)(b h:List UInt8)(Q:VQ)(X:XQ)(hQ:Q (.obj 0) [.inst 448 (By true b h [0,0]),.dict []]):Ez P (HQ P) 924 [.int 0,.int 1,.int 4,.bytes h,.bytes b,.bytes [0,0],.glob 448,.none] [] [] Q X:=by
 rw[Ec];exact⟨by decide,hQ⟩
theorem EW(P:Params)(b h:List UInt8)(Q:VQ)(X:XQ):Ez P (HQ P) 924 [.int 0,.int 1,.int 4,.bytes h,.bytes b,.bytes [0,0],.none,.obj 0] [] [.dict []] Q X=(0≤1000000∧2≤1099511627776∧Q (.obj 1) [.dict [],.inst 448 (Lw b h [0,0]),.dict [("class_",.int 0)]]):=by kernel_rfl
theorem RN(P:Params)(b h:List UInt8)(Q:VQ)(X:XQ)(hQ:Q (.obj 1) [.dict [],.inst 448 (Lw b h [0,0]),.dict [("class_",.int 0)]]):Ez P (HQ P) 924 [.int 0,.int 1,.int 4,.bytes h,.bytes b,.bytes [0,0],.none,.obj 0] [] [.dict []] Q X:=by
 rw[EW];exact⟨Nat.zero_le _,by decide,hQ⟩
theorem Eb(P:Params)(b h:List UInt8)(Q:VQ)(X:XQ):Ez P (HQ P) 924 [.int 0,.int 0,.int 3,.bytes h,.bytes b,.bytes [],.glob 387,.obj 0] [] [.dict []] Q X=(0≤1000000∧0≤1000000∧0≤1000000∧0≤1000000∧0≤1099511627776∧Q (.obj 1) [.dict [],.inst 387 (By false b h []),.dict []]):=by kernel_rfl
theorem RS(P:Params)(b h:List UInt8)(Q:VQ)(X:XQ)(hQ:Q (.obj 1) [.dict [],.inst 387 (By false b h []),.dict []]):Ez P (HQ P) 924 [.int 0,.int 0,.int 3,.bytes h,.bytes b,.bytes [],.glob 387,.obj 0] [] [.dict []] Q X:=by
 rw[Eb];exact⟨Nat.zero_le _,Nat.zero_le _,Nat.zero_le _,Nat.zero_le _,by decide,hQ⟩
theorem Ef(P:Params)(b h:List UInt8)(Q:VQ)(X:XQ):Ez P (HQ P) 924 [.int 0,.int 0,.int 3,.bytes h,.bytes b,.bytes [],.glob 387,.none] [] [] Q X=(0≤1099511627776∧Q (.obj 0) [.inst 387 (By false b h []),.dict []]):=by kernel_rfl
theorem RW(P:Params)(b h:List UInt8)(Q:VQ)(X:XQ)(hQ:Q (.obj 0) [.inst 387 (By false b h []),.dict []]):Ez P (HQ P) 924 [.int 0,.int 0,.int 3,.bytes h,.bytes b,.bytes [],.glob 387,.none] [] [] Q X:=by
 rw[Ef];exact⟨by decide,hQ⟩
theorem EZ(P:Params)(b h:List UInt8)(Q:VQ)(X:XQ):Ez P (HQ P) 924 [.int 0,.int 1,.int 3,.bytes h,.bytes b,.bytes [0,0],.glob 387,.obj 0] [] [.dict []] Q X=(0≤1000000∧0≤1000000∧0≤1000000∧0≤1000000∧2≤1099511627776∧Q (.obj 1) [.dict [],.inst 387 (By true b h [0,0]),.dict []]):=by kernel_rfl
theorem RQ(P:Params)(b h:List UInt8)(Q:VQ)(X:XQ)(hQ:Q (.obj 1) [.dict [],.inst 387 (By true b h [0,0]),.dict []]):Ez P (HQ P) 924 [.int 0,.int 1,.int 3,.bytes h,.bytes b,.bytes [0,0],.glob 387,.obj 0] [] [.dict []] Q X:=by
 rw[EZ];exact⟨Nat.zero_le _,Nat.zero_le _,Nat.zero_le _,Nat.zero_le _,by decide,hQ⟩
theorem Ed(P:Params)(b h:List UInt8)(Q:VQ)(X:XQ):Ez P (HQ P) 924 [.int 0,.int 1,.int 3,.bytes h,.bytes b,.bytes [0,0],.glob 387,.none] [] [] Q X=(2≤1099511627776∧Q (.obj 0) [.inst 387 (By true b h [0,0]),.dict []]):=by kernel_rfl
theorem RU(P:Params)(b h:List UInt8)(Q:VQ)(X:XQ)(hQ:Q (.obj 0) [.inst 387 (By true b h [0,0]),.dict []]):Ez P (HQ P) 924 [.int 0,.int 1,.int 3,.bytes h,.bytes b,.bytes [0,0],.glob 387,.none] [] [] Q X:=by
 rw[Ed];exact⟨by decide,hQ⟩
theorem EX(P:Params)(b h:List UInt8)(Q:VQ)(X:XQ):Ez P (HQ P) 924 [.int 0,.int 1,.int 3,.bytes h,.bytes b,.bytes [0,0],.none,.obj 0] [] [.dict []] Q X=(0≤1000000∧2≤1099511627776∧Q (.obj 1) [.dict [],.inst 387 (Lw b h [0,0]),.dict [("class_",.int 0)]]):=by kernel_rfl
theorem RO(P:Params)(b h:List UInt8)(Q:VQ)(X:XQ)(hQ:Q (.obj 1) [.dict [],.inst 387 (Lw b h [0,0]),.dict [("class_",.int 0)]]):Ez P (HQ P) 924 [.int 0,.int 1,.int 3,.bytes h,.bytes b,.bytes [0,0],.none,.obj 0] [] [.dict []] Q X:=by
 rw[EX];exact⟨Nat.zero_le _,by decide,hQ⟩
end
section
theorem V8{f f':Str}{T:Int→Str}{n:Int}(hX:f=f')(h0:0≤n)(h1:n<10^10)(hm:∀(t u:Nat) (i:Int),0≤i→i<10^10→i.natAbs.log2<1920→((i.natAbs:Nat):Int).natAbs.log2<1920→Meets (Builtin.«str.__mod__» ⟨[.str f' t,.int i u],[]⟩) (fun _ R s=>∀t' k,R (.ok (.ret (.str (T i) t'))) {s with toks:=k})):∃T,Pn f n T:=by
 subst hX
 have hl:n.natAbs.log2<1920:=by
  by_cases hz:n.natAbs=0
  ·rw[hz];decide
  ·have:=(Nat.log2_lt hz (k:=40)).mpr (ED h0 (Int.lt_trans h1 (by decide)))
   exact AK [_] [] [.nt AA (.k 40)] (.nt AA (.k 1920)) [1,1] rfl this
 exact⟨T n,hl,fun t u=>hm t u n h0 h1 hl (by simpa using hl)⟩
theorem Mw(n:Int)(h0:0≤n)(h1:n<10^10):∃T,Pn "Extra data - %d bytes of trailing data were provided" n T:=by
 refine' V8 ?a h0 h1 ?b
 case a=>kpc_eq
 case b=>k_dflt kpc_run
end
section
noncomputable abbrev mI:Bool→Int|true=>1|false=>0
noncomputable abbrev FW:Bool→List UInt8|true=>[0,0]|false=>[]
def El(c:Nat)(m:Bool)(k:Nat)(e h b:List UInt8):Prop:=match m with
 |false=>b.length<128∧h=[DU c,b.length.toUInt8]∧e=DU c::b.length.toUInt8::b
 |true=>∃j es,k=j+1∧(∀x∈es,Dj j x)∧b=List.flatten es∧h=[GV c,128]∧e=GV c::128::(List.flatten es++[0,0])
theorem E2(c:Nat):DU c=3∨DU c=4:=by unfold DU;split<;>simp
theorem II(c:Nat):GV c=35∨GV c=36:=by unfold GV;split<;>simp
theorem TJ(c:Nat):((GV c).toNat:Int) - 32=((DU c).toNat:Int):=by unfold GV DU;split<;>rfl
theorem El.is{c:Nat}{m:Bool}{k:Nat}{e h b:List UInt8}(E:El c m k e h b):Dj k e:=by
 cases m with
 |false=>
  obtain⟨h1,_,h3⟩:=E
  cases k with
  |zero=>exact⟨_,b,E2 c,h1,h3⟩
  |succ k=>exact .inl ⟨_,b,E2 c,h1,h3⟩
 |true=>
  obtain⟨j,es,rfl,h1,_,_,h3⟩:=E
  exact .inr ⟨_,es,II c,h1,h3⟩
abbrev Iy(fn:AG):Prop:=∀(c:Nat) (m:Bool) (k:Nat) (e h b d:List UInt8) (p:Int) (pre post:List UInt8) (C:List AB) (Q:VQ) (X:XQ),El c m k e h b→k≤5→d=pre++(e++post)→p=(pre.length:Int)→d.length≤1000000→
 Q (.tup [.tup [.int 0,.int (mI m),.int (DU c).toNat,.bytes h,.bytes b,.bytes (FW m)],.int (p+(e.length:Int))]) C→fn 66 [.bytes d,.int (d.length:Int),.int p] [] C Q X
theorem Mb(P:Params)(CP:Scope→Expr→AW)(LP:Scope→Stmt→AV)(fn:AG)(hLP:Pi P CP LP fn)(hP:∀j,j≤5→EL j fn)(c:Nat)(m:Bool)(k:Nat)(e h b d:List UInt8)(p:Int)(pre post:List UInt8)(E:El c m k e h b)(hk:k≤5)(hd:d=pre++(e++post))(hp:p=(pre.length:Int))(hl:d.length≤1000000)(Q:VQ)(X:XQ)
  (hQ:Q (.tup [.tup [.int 0,.int (mI m),.int (DU c).toNat,.bytes h,.bytes b,.bytes (FW m)],.int (p+(e.length:Int))]) []):
  A4 (GA P CP LP fn) 100 66 [.bytes d,.int (d.length:Int),.int p] [] [] Q X:=by
 refine Eq.mpr (by kernel_rfl:A4 (GA P CP LP fn) 100 66 [.bytes d,.int (d.length:Int),.int p] [] [] Q X=Av (GF P CP LP fn 66 (fun _ _=>0)) 100 (Bo P 66) [("encoded_data",.bytes d),("data_len",.int (d.length:Int)),("pointer",.int p),("lengths_only",.bool false),("depth",.int 0)] [] (Br Q X)) ?_
 subst hp
 cases m with
 |false=>
  obtain⟨hb,rfl,rfl⟩:=E
  have e2:(pre.length:Int)+((DU c::b.length.toUInt8::b).length:Int)=((pre.length+2+b.length:Nat):Int):=by simp;exact HX [_,_] [] (.a (.c AA) (.a (.a (.c v1) AO) AO)) (.a (.a (.c AA) J9) (.c v1)) rfl
  rw[e2] at hQ
  exact Gh P CP LP fn pre post b d _ (E2 c) hb hd hl false 0 (by decide) (by decide) Q X (fun q=>by cases q) fun _=>hQ
 |true=>
  obtain⟨j,es,rfl,hes,rfl,rfl,rfl⟩:=E
  have e2:(pre.length:Int)+((GV c::128::(es.flatten++[0,0])).length:Int)=((pre.length+4+es.flatten.length:Nat):Int):=by simp;exact HX [_,_] [] (.a (.c AA) (.a (.a (.a (.c v1) J9) AO) AO)) (.a (.a (.c AA) k4) (.c v1)) rfl
  rw[e2,←TJ] at hQ
  exact Gi P CP LP fn hLP j (hP j (by exact AK [_] [] [.nl (.a AA AO) (.k 5)] (.nl AA (.k 5)) [1,1] rfl hk)) pre post d es _ (II c) hes hd hl false 0 (by decide) (by exact AK [_] [] [.nl (.a AA AO) (.k 5)] (.il (.a (.a k0 AO) (.c AA)) Fg) [1,1] rfl hk) Q X (fun q=>by cases q) fun _=>hQ
abbrev R5(fn:AG):Prop:=∀(c:Nat) (m:Bool) (b h:List UInt8) (Q:VQ) (X:XQ),CW c→Q (.obj 1) [.dict [],.inst c (By m b h (FW m))]→fn 924 [.int 0,.int (mI m),.int (DU c).toNat,.bytes h,.bytes b,.bytes (FW m),.glob c,.obj 0] [] [.dict []] Q X
abbrev ME(fn:AG):Prop:=∀(c:Nat) (m:Bool) (b h:List UInt8) (Q:VQ) (X:XQ),CW c→Q (.obj 0) [.inst c (By m b h (FW m))]→fn 924 [.int 0,.int (mI m),.int (DU c).toNat,.bytes h,.bytes b,.bytes (FW m),.glob c,.none] [] [] Q X
abbrev R4(fn:AG):Prop:=∀(c:Nat) (b h:List UInt8) (Q:VQ) (X:XQ),CW c→Q (.obj 1) [.dict [],.inst c (Lw b h [0,0])]→fn 924 [.int 0,.int 1,.int (DU c).toNat,.bytes h,.bytes b,.bytes [0,0],.none,.obj 0] [] [.dict []] Q X
theorem v7(P:Params)(CP:Scope→Expr→AW)(LP:Scope→Stmt→AV)(fn:AG)(hP:Iy fn)(c:Nat)(m st:Bool)(k:Nat)(e h b post d:List UInt8)(sp:V)(cell:AB)(hB:∀(Q:VQ) (X:XQ),Q (.obj 1) [.dict [],cell]→fn 924 [.int 0,.int (mI m),.int (DU c).toNat,.bytes h,.bytes b,.bytes (FW m),sp,.obj 0] [] [.dict []] Q X)(hd:d=e++post)(E:El c m k e h b)(hk:k≤5)(hl:d.length≤1000000)(Q:VQ)(X:XQ)
  (hX:st=true→post≠[]→X "ValueError" [.dict []]) (hQ:(st=true→post=[])→Q (.tup [.obj 1,.int (0+(e.length:Int))]) [.dict [],cell]):
  A4 (GA P CP LP fn) 100 932 [.bytes d] [("spec",sp),("spec_params",.obj 0),("strict",.bool st)] [.dict []] Q X:=by
 refine BB (Γ':=(GF P CP LP fn 932 (fun _ _=>0))) (b:=Bo P 932) (m:=[("encoded_data",.bytes d),("pointer",.int 0),("spec",sp),("spec_params",.obj 0),("strict",.bool st)]) (C':=[.dict []]) (fun R=>by kernel_rfl) ?_
 have hdl:d.length=e.length+post.length:=by rw[hd,List.length_append]
 refine(aI ?_ ?_:)
 ·exact AK [_] [] [.nl AA AE] (.nl AA AE) [1,1] rfl hl
 refine(hP c m k e h b d 0 [] post _ _ _ E hk hd rfl hl ?_:)
 cases st with
 |false=>
  walk_at "vi"
  refine(hB _ _ ?_:)
  walk_at "vi"
  exact hQ (fun q=>by cases q)
 |true=>
  cases post with
  |nil=>
   have he:((0:Int)+(e.length:Int) !=0+(d.length:Int))=false:=by rw[hdl];simp
   refine(Ad.mk (fun h=> ?_) (fun _=> ?_):)
   ·exfalso
    have h:((0:Int)+(e.length:Int) !=0+(d.length:Int))=true:=h
    rw[he] at h;cases h
   ·walk_at "vi"
    refine(hB _ _ ?_:)
    walk_at "vi"
    exact hQ (fun _=>rfl)
  |cons x r=>
   have he:((0:Int)+(e.length:Int) !=0+(d.length:Int))=true:=by rw[hdl];simp;exact fun q=>DF [_,_] [] [.ie (.c AA) (.a (.c AA) (.a (.c v1) AO))] [-1] rfl q
   refine(Ad.mk (fun _=> ?_) (fun h=> ?_):)
   ·refine Exists.imp (fun T h=>aI h ?_) (Mw (0+(d.length:Int) - (0+(e.length:Int))) (by exact AK [_,_,_] [] [.ne AA (.a v1 AT)] (.il k0 (.s (.a k0 (.c AA)) (.a k0 (.c v1)))) [1, -1] rfl hdl) (Int.lt_of_le_of_lt (b:=1000000) (by exact AK [_,_] [] [.nl AA AE] (.il (.s (.a k0 (.c AA)) (.a k0 (.c v1))) AE) [1,1] rfl hl) (by decide)))
    walk_at "vi"
    exact hX rfl (by simp)
   ·exfalso
    have h:((0:Int)+(e.length:Int) !=0+(d.length:Int))=false:=h
    rw[he] at h;cases h
abbrev ur(fn:AG)(c:Nat)(m st:Bool)(e h b post d:List UInt8)(sp:V)(cell:AB):Prop:=∀(Q:VQ) (X:XQ),(st=true→post≠[]→X "ValueError" [.dict []])→((st=true→post=[])→Q (.tup [.obj 1,.int (0+(e.length:Int))]) [.dict [],cell])→fn 932 [.bytes d] [("spec",sp),("spec_params",.obj 0),("strict",.bool st)] [.dict []] Q X
theorem Vk(P:Params)(CP:Scope→Expr→AW)(LP:Scope→Stmt→AV)(fn:AG)(c:Nat)(hc:CW c)(m st:Bool)(e h b post d:List UInt8)(cell:AB)(hl:d.length≤1000000)(hB:ur fn c m st e h b post d (.glob c) cell)(Q:VQ)(X:XQ)
  (hX:st=true→post≠[]→X "ValueError" [.dict []]) (hQ:(st=true→post=[])→Q (.obj 1) [.dict [],cell]):
  A4 (GA P CP LP fn) 100 99 [.glob c,.bytes d] [("strict",.bool st)] [] Q X:=by
 refine BB (Γ':=(GF P CP LP fn 99 (fun _ _=>0))) (b:=Bo P 99) (m:=[("cls",.glob c),("encoded_data",.bytes d),("strict",.bool st),("kwargs",.obj 0)]) (C':=[.dict []]) (fun R=>by kernel_rfl) ?_
 rcases hc with rfl|rfl
 all_goals
  refine(hB _ _ hX fun q=> ?_:)
  exact hQ q
theorem Vl(P:Params)(CP:Scope→Expr→AW)(LP:Scope→Stmt→AV)(fn:AG)(c:Nat)(hc:CW c)(m:Bool)(e h b post d:List UInt8)(cell:AB)(hl:d.length≤1000000)(hB:ur fn c m false e h b post d (.glob c) cell)(Q:VQ)(X:XQ)
  (hQ:Q (.obj 1) [.dict [],cell]):
  A4 (GA P CP LP fn) 100 99 [.glob c,.bytes d] [] [] Q X:=by
 refine BB (Γ':=(GF P CP LP fn 99 (fun _ _=>0))) (b:=Bo P 99) (m:=[("cls",.glob c),("encoded_data",.bytes d),("strict",.bool false),("kwargs",.obj 0)]) (C':=[.dict []]) (fun R=>by kernel_rfl) ?_
 rcases hc with rfl|rfl
 all_goals
  refine(hB _ _ (fun q=>by cases q) fun q=> ?_:)
  exact hQ
theorem Vj(P:Params)(CP:Scope→Expr→AW)(LP:Scope→Stmt→AV)(fn:AG)(c:Nat)(m:Bool)(e h b post d:List UInt8)(cell:AB)(hl:d.length≤1000000)(hB:ur fn c m false e h b post d .none cell)(Q:VQ)(X:XQ)
  (hQ:Q (.obj 1) [.dict [],cell]):
  A4 (GA P CP LP fn) 100 99 [.glob 121,.bytes d] [("strict",.bool false)] [] Q X:=by
 refine BB (Γ':=(GF P CP LP fn 99 (fun _ _=>0))) (b:=Bo P 99) (m:=[("cls",.glob 121),("encoded_data",.bytes d),("strict",.bool false),("kwargs",.obj 0)]) (C':=[.dict []]) (fun R=>by kernel_rfl) ?_
 refine(hB _ _ (fun q=>by cases q) fun q=> ?_:)
 exact hQ
theorem vz(P:Params)(CP:Scope→Expr→AW)(LP:Scope→Stmt→AV)(fn:AG)(hP:Iy fn)(hB:ME fn)(c:Nat)(hc:CW c)(m:Bool)(k:Nat)(e h b pre post d:List UInt8)(p:Int)(hp:p=(pre.length:Int))(hd:d=pre++(e++post))(E:El c m k e h b)(hk:k≤5)(hl:d.length≤1000000)(Q:VQ)(X:XQ)
  (hQ:Q (.tup [.obj 0,.int (p+(e.length:Int))]) [.inst c (By m b h (FW m))]):
  A4 (GA P CP LP fn) 100 932 [.bytes d,.int p] [("spec",.glob c)] [] Q X:=by
 refine BB (Γ':=(GF P CP LP fn 932 (fun _ _=>0))) (b:=Bo P 932) (m:=[("encoded_data",.bytes d),("pointer",.int p),("spec",.glob c),("spec_params",.none),("strict",.bool false)]) (C':=[]) (fun R=>by kernel_rfl) ?_
 have hdl:d.length=pre.length+e.length+post.length:=by rw[hd,List.length_append,List.length_append];exact Sa [_,_,_] [] (.a AA (.a v1 AT)) (.a (.a AA v1) AT) rfl
 refine(aI ?_ ?_:)
 ·exact AK [_] [] [.nl AA AE] (.nl AA AE) [1,1] rfl hl
 refine(hP c m k e h b d p pre post _ _ _ E hk hd hp hl ?_:)
 walk_at "vi"
 refine(hB c m b h _ _ hc ?_:)
 walk_at "vi"
 exact hQ
theorem OQ(P:Params)(CP:Scope→Expr→AW)(LP:Scope→Stmt→AV)(fn:AG)(d:List UInt8)(cell:AB)(h:∀(Q:VQ) (X:XQ),Q (.obj 0) [cell]→fn 99 [.glob 121,.bytes d] [("strict",.bool false)] [] Q X)(Q:VQ)(X:XQ)(hQ:Q (.obj 0) [cell]):
  A4 (GA P CP LP fn) 100 84 [.bytes d] [] [] Q X:=by
 refine BB (Γ':=(GF P CP LP fn 84 (fun _ _=>0))) (b:=Bo P 84) (m:=[("encoded_data",.bytes d),("strict",.bool false)]) (C':=[]) (fun R=>by kernel_rfl) ?_
 refine h _ _ ?_
 exact hQ
end
section
def TV{α:Type}(c:Nat)(leaf:List UInt8→List α→Prop):Nat→List UInt8→List α→Prop
 |0,e,v=>∃b,b.length<128∧e=DU c::b.length.toUInt8::b∧leaf b v
 |k+1,e,v=>(∃b,b.length<128∧e=DU c::b.length.toUInt8::b∧leaf b v)∨∃l:List (List UInt8×List α),(∀p∈l,TV c leaf k p.1 p.2)∧e=GV c::128::((l.map (·.1)).flatten++[0,0])∧v=(l.map (·.2)).flatten
def TC{α:Type}(c:Nat)(leaf:List UInt8→List α→Prop)(j:Nat)(m:Bool)(b:List UInt8)(v:List α):Prop:=match m with
 |false=>b.length<128∧leaf b v
 |true=>∃l:List (List UInt8×List α),(∀p∈l,TV c leaf j p.1 p.2)∧b=(l.map (·.1)).flatten∧v=(l.map (·.2)).flatten
theorem TV.isEl{α:Type}{c:Nat}{leaf:List UInt8→List α→Prop}:∀{k:Nat} {e:List UInt8} {v:List α},TV c leaf k e v→Dj k e
 |0,_,_,⟨b,h1,h2,_⟩=>⟨_,b,E2 c,h1,h2⟩
 |k+1,_,_,.inl ⟨b,h1,h2,_⟩=> .inl ⟨_,b,E2 c,h1,h2⟩
 |k+1,_,_,.inr ⟨l,h1,h2,_⟩=> .inr ⟨_,l.map (·.1),II c,fun x hx=>by
   obtain⟨p,hp,rfl⟩:=List.mem_map.mp hx
   exact(h1 p hp).isEl,h2⟩
theorem TV.el{α:Type}{c:Nat}{leaf:List UInt8→List α→Prop}{k:Nat}{e:List UInt8}{v:List α}(h:TV c leaf k e v):∃m hd b,El c m k e hd b∧((m=false∧TC c leaf 0 m b v)∨∃j,k=j+1∧TC c leaf j m b v):=by
 cases k with
 |zero=>
  obtain⟨b,h1,h2,h3⟩:=h
  exact⟨false,_,b,⟨h1,rfl,h2⟩,.inl ⟨rfl,h1,h3⟩⟩
 |succ k=>
  rcases h with⟨b,h1,h2,h3⟩|⟨l,h1,h2,h3⟩
  ·exact⟨false,_,b,⟨h1,rfl,h2⟩,.inl ⟨rfl,h1,h3⟩⟩
  ·exact⟨true,_,_,⟨k,l.map (·.1),rfl,fun x hx=>by
    obtain⟨p,hp,rfl⟩:=List.mem_map.mp hx
    exact(h1 p hp).isEl,rfl,rfl,h2⟩,.inr ⟨k,rfl,l,h1,rfl,h3⟩⟩
def I5(at_:AU)(m:Bool)(b h:List UInt8):Prop:=at_=By m b h (FW m)∨(m=true∧at_=Lw b h [0,0])
abbrev Wq(fn:AG):Prop:=∀(c:Nat) (m:Bool) (k:Nat) (e h b pre post d:List UInt8) (p:Int) (C:List AB) (Q:VQ) (X:XQ),CW c→El c m k e h b→k≤5→d=pre++(e++post)→p=(pre.length:Int)→d.length≤1000000→Q (.tup [.obj C.length,.int (p+(e.length:Int))]) (C++[.inst c (By m b h (FW m))])→fn 932 [.bytes d,.int p] [("spec",.glob c)] C Q X
theorem El.bodyLen{c:Nat}{m:Bool}{k:Nat}{e h b:List UInt8}(E:El c m k e h b):b.length≤e.length:=by
 cases m with
 |false=>
  obtain⟨_,_,h3⟩:=E
  rw[h3];simp only[List.length_cons];exact AK [_] [] [] (.nl AA (.a (.a AA AO) AO)) [1] rfl
 |true=>
  obtain⟨j,es,rfl,h1,rfl,_,h3⟩:=E
  rw[h3];simp only[List.length_cons,List.length_append];exact AK [_,_] [] [] (.nl AA (.a (.a (.a AA (.a (.a v1 AO) AO)) AO) AO)) [1] rfl
noncomputable abbrev Ky(u:Bool)(ct:V)(mt:Int)(ind:Bool)(hd:V)(tr:List UInt8)(nat:V)(ext:AU):AU:=match u with
 |false=>("contents",ct)::("method",.int mt)::("_indefinite",.bool ind)::("_header",hd)::("_trailer",.bytes tr)::("_native",nat)::ext
 |true=>("class_",.int 0)::("contents",ct)::("_indefinite",.bool ind)::("method",.int mt)::("_header",hd)::("_trailer",.bytes tr)::("_native",nat)::ext
end
section
theorem WU(P:Params)(CP:Scope→Expr→AW)(LP:Scope→Stmt→AV)(fn:AG)(at_:AU)(m:Bool)(b h:List UInt8)(hs:I5 at_ m b h)(Q:VQ)(X:XQ)(hQ:Q (.bytes b) [.inst 448 at_]):
  A4 (GA P CP LP fn) 100 233 [.obj 0] [] [.inst 448 at_] Q X:=by
 refine BB (Γ':=(GF P CP LP fn 233 (fun _ _=>0))) (b:=Bo P 233) (m:=[("self",.obj 0)]) (C':=[.inst 448 at_]) (fun R=>by kernel_rfl) ?_
 rcases hs with rfl|⟨rfl,rfl⟩
 ·cases m<;>exact hQ
 ·exact hQ
abbrev ub(fn:AG):Prop:=∀(i:Nat) (at_:AU) (m:Bool) (b h:List UInt8) (C:List AB) (Q:VQ) (X:XQ),I5 at_ m b h→C[i]? =some (.inst 448 at_)→Q (.bytes b) C→fn 233 [.obj i] [] C Q X
abbrev Dl:List UInt8→List UInt8→Prop:=fun b v=>v=b
theorem Lr{l:List (List UInt8×List UInt8)}(h:∀p∈l,p.2.length≤p.1.length):(l.map (·.2)).flatten.length≤(l.map (·.1)).flatten.length:=by
 induction l with
 |nil=>exact Nat.le_refl _
 |cons p l ih=>
  have h1:=h p (.head _)
  have h2:=ih fun q hq=>h q (.tail _ hq)
  simp only[List.map_cons,List.flatten_cons,List.length_append]
  exact AK [_,_,_,_] [] [.nl AA AT,.nl v1 v3] (.nl (.a AA v1) (.a AT v3)) [1,1,1] rfl h1 h2
theorem TV.len:∀{k:Nat} {e v:List UInt8},TV 448 Dl k e v→v.length≤e.length
 |0,_,_,⟨b,_,h2,h3⟩=>by rw[h2,h3];simp only[List.length_cons];exact AK [_] [] [] (.nl AA (.a (.a AA AO) AO)) [1] rfl
 |k+1,_,_,.inl ⟨b,_,h2,h3⟩=>by rw[h2,h3];simp only[List.length_cons];exact AK [_] [] [] (.nl AA (.a (.a AA AO) AO)) [1] rfl
 |k+1,_,_,.inr ⟨l,h1,h2,h3⟩=>by
  have:=Lr fun p hp=>(h1 p hp).len
  rw[h2,h3]
  simp only[List.length_cons,List.length_append]
  exact AK [_,_,_] [] [.nl AA v1] (.nl AA (.a (.a (.a v1 (.a (.a AT AO) AO)) AO) AO)) [1,1] rfl this
abbrev Sn(n:Nat)(fn:AG):Prop:=∀(i j:Nat) (at_:AU) (m:Bool) (b h v:List UInt8) (C:List AB) (Q:VQ) (X:XQ),(m=false∨j<n)→TC 448 Dl j m b v→I5 at_ m b h→b.length≤1000000→C[i]? =some (.inst 448 at_)→Q (.bytes v) C→fn 226 [.obj i] [] C Q X
def tR(at_:AU)(l:List (List UInt8×List UInt8))(k:Nat)(m:AU)(C:List AB):Prop:=
 ∃(done rest:List (List UInt8×List UInt8)) (J:List AB) (p:Int) (o:V) (tl:AU),l=done++rest∧k=rest.length∧C= .inst 448 at_::J∧p=((done.map (·.1)).flatten.length:Int)∧
  ((done=[]∧o= .none∧tl=[])∨(o= .bytes (done.map (·.2)).flatten∧∃v,tl=([("sub_value",v)]:AU)))∧
  m=([("self",.obj 0),("pointer",.int p),("contents_len",.int ((l.map (·.1)).flatten.length:Int)),("output",o)]:AU)++tl
theorem tR.next{at_:AU}{l done rest:List (List UInt8×List UInt8)}{q:List UInt8×List UInt8}{p:Int}{J:List AB}{m2:AU}{o2:V}{c:AB}(hes:l=done++q::rest)(hp:p=((done.map (·.1)).flatten.length:Int))(h1:o2=V.bytes ((done.map (·.2)).flatten++q.2))
  (h2:m2=([("self",.obj 0),("pointer",.int (p+(q.1.length:Int))),("contents_len",.int ((l.map (·.1)).flatten.length:Int)),("output",o2),("sub_value",.obj (AB.inst 448 at_::J).length)]:AU)):∃j,j<(q::rest).length∧tR at_ l j m2 ((AB.inst 448 at_::J)++[c]):=
 ⟨rest.length,Nat.lt_succ_self _,done++[q],rest,_,_,o2,[("sub_value",.obj (AB.inst 448 at_::J).length)],by rw[hes,List.append_assoc];rfl,rfl,rfl,by rw[hp];simp,.inr ⟨by rw[h1];simp,_,rfl⟩,h2⟩
theorem Jf{α:Type}{l done rest:List (List UInt8×α)}(hes:l=done++rest):(l.map (·.1)).flatten.length=(done.map (·.1)).flatten.length+(rest.map (·.1)).flatten.length:=by
 rw[hes,List.map_append,List.flatten_append,List.length_append]
theorem LU{m:Bool}{j n:Nat}(h:true=false∨j<n):∃n',n=n'+1∧j<n'+1:=
 h.elim (fun q=>nomatch q) fun h=>⟨n - 1,(Ej (Nat.lt_of_le_of_lt (Nat.zero_le j) h)).symm,(Ej (Nat.lt_of_le_of_lt (Nat.zero_le j) h)).symm▸h⟩
theorem rG(P:Params)(CP:Scope→Expr→AW)(LP:Scope→Stmt→AV)(fn:AG)(hLP:Pi P CP LP fn)(hA:ub fn)(hB:Wq fn)(n:Nat)(hn:n≤5)(hM:∀n',n=n'+1→Sn n' fn)(j:Nat)(at_:AU)(m:Bool)(b h v:List UInt8)(hj:m=false∨j<n)(hT:TC 448 Dl j m b v)(hs:I5 at_ m b h)(hl:b.length≤1000000)(Q:VQ)(X:XQ)(hQ:∀J,Q (.bytes v) (.inst 448 at_::J)):
  A4 (GA P CP LP fn) 100 226 [.obj 0] [] [.inst 448 at_] Q X:=by
 refine BB (Γ':=(GF P CP LP fn 226 (fun _ _=>0))) (b:=Bo P 226) (m:=[("self",.obj 0)]) (C':=[.inst 448 at_]) (fun R=>by kernel_rfl) ?_
 cases m with
 |false=>
  obtain⟨hb,rfl⟩:=hT
  rcases hs with rfl|⟨q,_⟩
  ·refine(hA 0 _ false v h _ _ _ (.inl rfl) ?_ ?_:)
   ·rfl
   ·exact hQ []
  ·cases q
 |true=>
  obtain⟨l,hlv,rfl,rfl⟩:=hT
  have f1:AP at_ "contents"=some (.bytes (l.map (·.1)).flatten):=by rcases hs with rfl|⟨_,rfl⟩<;>kernel_rfl
  have f2:AP at_ "_indefinite"=some (.bool true):=by rcases hs with rfl|⟨_,rfl⟩<;>kernel_rfl
  have f3:AP at_ "_as_chunk"=none:=by rcases hs with rfl|⟨_,rfl⟩<;>kernel_rfl
  conv=>whnf
  rw[f2]
  conv=>whnf
  rw[f1]
  conv=>whnf
  refine(aI hl ?_:)
  refine(hLP _ _ _ _ _ ?_:)
  refine⟨tR at_ l,l.length,?_,?_⟩
  ·exact⟨[],l,[],0,.none,[],rfl,rfl,rfl,rfl,.inl ⟨rfl,rfl,rfl⟩,by kernel_rfl⟩
  ·rintro k m C ⟨done,rest,J,p,o,tl,hes,rfl,rfl,hp,ho,rfl⟩
   have hfl:=Jf hes
   cases rest with
   |nil=>
    have hv:(l.map (·.2)).flatten=(done.map (·.2)).flatten:=by rw[hes,List.append_nil]
    have hb:(l.map (·.1)).flatten.length=(done.map (·.1)).flatten.length:=by rw[hes,List.append_nil]
    walk_at "vi"
    rw[hv] at hQ
    rcases ho with⟨rfl,rfl,rfl⟩|⟨rfl,v,rfl⟩
    ·conv=>whnf
     rw[f3]
     refine(hA 0 _ true (l.map (·.1)).flatten h _ _ _ hs ?_ ?_:)
     ·rfl
     have hn:(l.map (·.1)).flatten=[]:=List.eq_nil_of_length_eq_zero hb
     rw[hn]
     exact hQ J
    ·exact hQ J
   |cons q rest=>
    obtain⟨mm,hh,bb,E,hT⟩:=(hlv q (by rw[hes];exact List.mem_append_right _ (.head _))).el
    obtain⟨n',rfl,hjn⟩:=LU (m:=true) hj
    obtain⟨t0,r0,_,hq0⟩:=E.is.head
    have hq1:0<q.1.length:=by rw[hq0];exact Nat.zero_lt_succ _
    have hq2:bb.length≤q.1.length:=E.bodyLen
    have hq3:q.2.length≤q.1.length:=(hlv q (by rw[hes];exact List.mem_append_right _ (.head _))).len
    have hdl:(done.map (·.2)).flatten.length≤(done.map (·.1)).flatten.length:=Lr fun p hp=>(hlv p (by rw[hes];exact List.mem_append_left _ hp)).len
    have hfl2:((q::rest).map (·.1)).flatten.length=q.1.length+(rest.map (·.1)).flatten.length:=List.length_append
    have hdd:(l.map (·.1)).flatten=(done.map (·.1)).flatten++(q.1++(rest.map (·.1)).flatten):=by rw[hes,List.map_append,List.flatten_append];rfl
    have hsub:((AB.inst 448 at_::J)++[AB.inst 448 (By mm bb hh (FW mm))])[(AB.inst 448 at_::J).length]? =some (AB.inst 448 (By mm bb hh (FW mm))):=List.getElem?_concat_length
    have hTT:∃jj,(mm=false∨jj<n')∧TC 448 Dl jj mm bb q.2:=by
     rcases hT with⟨h1,h2⟩|⟨jj,h1,h2⟩
     ·exact⟨0,.inl h1,h2⟩
     ·exact⟨jj,.inr (Nat.lt_of_succ_lt_succ (by rw[h1] at hjn;exact hjn)),h2⟩
    obtain⟨jj,hjj,hTT⟩:=hTT
    have hloc:AP (By mm bb hh (FW mm)) "_merge_chunks"=none:=by cases mm<;>kernel_rfl
    walk_at "vi"
    conv=>whnf
    rw[f1]
    conv=>whnf
    walk_at "wh"
    refine hB 448 mm j q.1 hh bb _ _ _ _ _ _ _ (.inl rfl) E (by exact AK [_,_] [] [.nl (.a v1 AO) (.k 5),.nt AA (.a v1 AO)] (.nl AA (.k 5)) [1,1,1] rfl hn hjn) hdd hp hl ?_
    have hqb:bb.length≤1000000:=by exact AK [_,_,_,_,_,_] [] [.nl v1 AE,.nl AA AT,.ne v3 (.a AT v4),.ne v1 (.a v5 v3)] (.nl AA AE) [1,1,1, -1, -1] rfl hl hq2 hfl2 hfl
    rcases ho with⟨rfl,rfl,rfl⟩|⟨rfl,v,rfl⟩
    ·conv=>whnf
     rw[hsub]
     conv=>whnf
     rw[hloc]
     refine(hM n' rfl _ jj _ mm bb hh q.2 _ _ _ hjj hTT (.inl rfl) hqb hsub ?_:)
     exact tR.next (o2:= .bytes q.2) hes hp rfl (by kernel_rfl)
    ·conv=>whnf
     rw[hsub]
     conv=>whnf
     rw[hloc]
     refine(hM n' rfl _ jj _ mm bb hh q.2 _ _ _ hjj hTT (.inl rfl) hqb hsub ?_:)
     refine(aI ?_ ?_:)
     ·exact AK [_,_,_,_,_,_,_] [] [.nl AT AE,.ne AT (.a v3 v4),.nl v1 v5,.nl AA v3,.ne v4 (.a v5 v6)] (.nl (.a AA v1) Aa) [1,1, -1,1,1, -1] rfl hl hfl hq3 hdl hfl2
     exact tR.next (o2:= .bytes ((done.map (·.2)).flatten++q.2)) hes hp rfl (by kernel_rfl)
end
section
noncomputable abbrev oF(u:Bool)(b h:List UInt8):AU:=Ky u (.bytes b) 1 true (.bytes h) [0,0] .none []
noncomputable abbrev oA(u:Bool)(b h v:List UInt8):AU:=Ky u (.bytes b) 1 true (.bytes h) [0,0] .none [("_bytes",.bytes v)]
noncomputable abbrev oD(u:Bool)(hd:V)(v:List UInt8):AU:=Ky u (.bytes v) 0 false hd [] .none [("_bytes",.bytes v)]
noncomputable abbrev v8(b h:List UInt8):AU:=[("contents",.bytes b),("_header",.bytes h),("_trailer",.bytes []),("_native",.none),("_bytes",.bytes b)]
theorem QD(P:Params)(h v:List UInt8)(Q:VQ)(X:XQ):Ez P Qa 430 [.obj 0,.bytes v] [] [.inst 448 (Ky false .none 1 true (.bytes h) [0,0] .none [("_bytes",.bytes v)])] Q X=Q .none [.inst 448 (Ky false (.bytes v) 0 false .none [] .none [("_bytes",.bytes v)])]:=by kernel_rfl
theorem QC(P:Params)(h v:List UInt8)(Q:VQ)(X:XQ):Ez P Qa 430 [.obj 0,.bytes v] [] [.inst 448 (Ky true .none 1 true (.bytes h) [0,0] .none [("_bytes",.bytes v)])] Q X=Q .none [.inst 448 (Ky true (.bytes v) 0 false .none [] .none [("_bytes",.bytes v)])]:=by kernel_rfl
theorem Va(P:Params)(CP:Scope→Expr→AW)(LP:Scope→Stmt→AV)(fn:AG)(u:Bool)(b h v:List UInt8)(hM:∀(C:List AB) (Q:VQ) (X:XQ),C[0]? =some (.inst 448 (oF u b h))→Q (.bytes v) C→fn 226 [.obj 0] [] C Q X)(Q:VQ)(X:XQ)(hQ:Q (.bytes v) [.inst 448 (oA u b h v)]):
  A4 (GA P CP LP fn) 100 444 [.obj 0] [] [.inst 448 (oF u b h)] Q X:=by
 refine BB (Γ':=(GF P CP LP fn 444 (fun _ _=>0))) (b:=Bo P 444) (m:=[("self",.obj 0)]) (C':=[.inst 448 (oF u b h)]) (fun R=>by kernel_rfl) ?_
 cases u
 all_goals
  refine(hM _ _ _ ?_ ?_:)
  ·rfl
  ·exact hQ
theorem Vc(P:Params)(CP:Scope→Expr→AW)(LP:Scope→Stmt→AV)(fn:AG)(u:Bool)(b h v:List UInt8)(Q:VQ)(X:XQ)(hQ:Q (.bytes v) [.inst 448 (oA u b h v)]):
  A4 (GA P CP LP fn) 100 444 [.obj 0] [] [.inst 448 (oA u b h v)] Q X:=by
 refine BB (Γ':=(GF P CP LP fn 444 (fun _ _=>0))) (b:=Bo P 444) (m:=[("self",.obj 0)]) (C':=[.inst 448 (oA u b h v)]) (fun R=>by kernel_rfl) ?_
 cases u
 all_goals exact hQ
theorem Vb(P:Params)(CP:Scope→Expr→AW)(LP:Scope→Stmt→AV)(fn:AG)(u:Bool)(hd:V)(v:List UInt8)(Q:VQ)(X:XQ)(hQ:Q (.bytes v) [.inst 448 (oD u hd v)]):
  A4 (GA P CP LP fn) 100 444 [.obj 0] [] [.inst 448 (oD u hd v)] Q X:=by
 refine BB (Γ':=(GF P CP LP fn 444 (fun _ _=>0))) (b:=Bo P 444) (m:=[("self",.obj 0)]) (C':=[.inst 448 (oD u hd v)]) (fun R=>by kernel_rfl) ?_
 cases u
 all_goals exact hQ
theorem VZ(P:Params)(CP:Scope→Expr→AW)(LP:Scope→Stmt→AV)(fn:AG)(b h:List UInt8)(hM:∀(C:List AB) (Q:VQ) (X:XQ),C[0]? =some (.inst 448 (By false b h []))→Q (.bytes b) C→fn 226 [.obj 0] [] C Q X)(Q:VQ)(X:XQ)(hQ:Q (.bytes b) [.inst 448 (v8 b h)]):
  A4 (GA P CP LP fn) 100 444 [.obj 0] [] [.inst 448 (By false b h [])] Q X:=by
 refine BB (Γ':=(GF P CP LP fn 444 (fun _ _=>0))) (b:=Bo P 444) (m:=[("self",.obj 0)]) (C':=[.inst 448 (By false b h [])]) (fun R=>by kernel_rfl) ?_
 refine(hM _ _ _ ?_ ?_:)
 ·rfl
 ·exact hQ
abbrev K8(fn:AG)(u:Bool)(b h v:List UInt8):Prop:=∀(i:Nat) (C:List AB) (Q:VQ) (X:XQ),C[i]? =some (.inst 448 (oF u b h))→Q (.bytes v) (C.set i (.inst 448 (oA u b h v)))→fn 444 [.obj i] [] C Q X
abbrev Pb(fn:AG)(u:Bool)(b h v:List UInt8):Prop:=∀(i:Nat) (C:List AB) (Q:VQ) (X:XQ),C[i]? =some (.inst 448 (oA u b h v))→Q (.bytes v) C→fn 444 [.obj i] [] C Q X
abbrev PS(fn:AG):Prop:=∀(u:Bool) (h v:List UInt8) (i:Nat) (C:List AB) (Q:VQ) (X:XQ),C[i]? =some (.inst 448 (Ky u .none 1 true (.bytes h) [0,0] .none [("_bytes",.bytes v)]))→Q .none (C.set i (.inst 448 (oD u .none v)))→fn 430 [.obj i,.bytes v] [] C Q X
theorem Rc(P:Params)(CP:Scope→Expr→AW)(LP:Scope→Stmt→AV)(fn:AG)(hH:W3 fn)(u:Bool)(v:List UInt8)(hl:v.length<128)(Q:VQ)(X:XQ)(hQ:Q (.bytes (4::v.length.toUInt8::v)) [.inst 448 (oD u (.bytes [4,v.length.toUInt8]) v)]):
  A4 (GA P CP LP fn) 100 118 [.obj 0] [] [.inst 448 (oD u .none v)] Q X:=by
 refine BB (Γ':=(GF P CP LP fn 118 (fun _ _=>0))) (b:=Bo P 118) (m:=[("self",.obj 0),("force",.bool false)]) (C':=[.inst 448 (oD u .none v)]) (fun R=>by kernel_rfl) ?_
 cases u
 all_goals
  refine(hH 4 v _ _ _ (.inr rfl) hl ?_:)
  walk_at "vi"
  rw[List.append_nil]
  exact hQ
abbrev I2(fn:AG):Prop:=∀(u:Bool) (v:List UInt8) (i:Nat) (C:List AB) (Q:VQ) (X:XQ),v.length<128→C[i]? =some (.inst 448 (oD u .none v))→Q (.bytes (4::v.length.toUInt8::v)) (C.set i (.inst 448 (oD u (.bytes [4,v.length.toUInt8]) v)))→fn 118 [.obj i] [] C Q X
theorem Q7(P:Params)(CP:Scope→Expr→AW)(LP:Scope→Stmt→AV)(fn:AG)(u:Bool)(b v:List UInt8)(hN:K8 fn u b [36,128] v)(hS:PS fn)(hD:I2 fn)(hl:v.length<128)(Q:VQ)(X:XQ)(hQ:Q (.bytes (4::v.length.toUInt8::v)) [.inst 448 (oD u (.bytes [4,v.length.toUInt8]) v)]):
  A4 (GA P CP LP fn) 100 207 [.obj 0] [] [.inst 448 (oF u b [36,128])] Q X:=by
 refine BB (Γ':=(GF P CP LP fn 207 (fun _ _=>0))) (b:=Bo P 207) (m:=[("self",.obj 0),("force",.bool false)]) (C':=[.inst 448 (oF u b [36,128])]) (fun R=>by kernel_rfl) ?_
 cases u
 ·walk_at "vi"
  refine(hN 0 _ _ _ ?_ ?_:)
  ·rfl
  refine(hS false [36,128] v 0 _ _ _ ?_ ?_:)
  ·rfl
  refine(hD false v 0 _ _ _ hl ?_ ?_:)
  ·rfl
  exact hQ
 ·walk_at "vi"
  refine(hN 0 _ _ _ ?_ ?_:)
  ·rfl
  refine(hS true [36,128] v 0 _ _ _ ?_ ?_:)
  ·rfl
  refine(hD true v 0 _ _ _ hl ?_ ?_:)
  ·rfl
  exact hQ
theorem Q8(P:Params)(CP:Scope→Expr→AW)(LP:Scope→Stmt→AV)(fn:AG)(u:Bool)(b v:List UInt8)(hN:Pb fn u b [36,128] v)(hS:PS fn)(hD:I2 fn)(hl:v.length<128)(Q:VQ)(X:XQ)(hQ:Q (.bytes (4::v.length.toUInt8::v)) [.inst 448 (oD u (.bytes [4,v.length.toUInt8]) v)]):
  A4 (GA P CP LP fn) 100 207 [.obj 0] [] [.inst 448 (oA u b [36,128] v)] Q X:=by
 refine BB (Γ':=(GF P CP LP fn 207 (fun _ _=>0))) (b:=Bo P 207) (m:=[("self",.obj 0),("force",.bool false)]) (C':=[.inst 448 (oA u b [36,128] v)]) (fun R=>by kernel_rfl) ?_
 cases u
 ·walk_at "vi"
  refine(hN 0 _ _ _ ?_ ?_:)
  ·rfl
  refine(hS false [36,128] v 0 _ _ _ ?_ ?_:)
  ·rfl
  refine(hD false v 0 _ _ _ hl ?_ ?_:)
  ·rfl
  exact hQ
 ·walk_at "vi"
  refine(hN 0 _ _ _ ?_ ?_:)
  ·rfl
  refine(hS true [36,128] v 0 _ _ _ ?_ ?_:)
  ·rfl
  refine(hD true v 0 _ _ _ hl ?_ ?_:)
  ·rfl
  exact hQ
end
section
noncomputable def Al(l:List Int):Int:=l.foldl (fun a b=>2*a+b) 0
theorem r7(l:List Int):∀a:Int,l.foldl (fun a b=>2*a+b) a=a*2^l.length+Al l:=by
 induction l with
 |nil=>intro a;simp[Al]
 |cons x l ih=>
  intro a
  rw[List.foldl_cons,ih]
  have h:Al (x::l)=x*2^l.length+Al l:=by
   unfold Al
   rw[List.foldl_cons,ih]
   simp[Al]
  rw[h,List.length_cons,Int.pow_succ,Int.add_mul,←Int.add_assoc]
  congr 1
  congr 1
  rw[Int.mul_comm 2 a,Int.mul_assoc,Int.mul_comm 2]
theorem Bf(l r:List Int):Al (l++r)=Al l*2^r.length+Al r:=by
 unfold Al
 rw[List.foldl_append,r7]
 rfl
theorem Dt(n:Nat):(0:Int)<2^n:=Int.pow_pos (by decide)
theorem DY{l:List Int}(h:Aw l):0≤Al l∧Al l<2^l.length:=by
 induction l with
 |nil=>exact⟨Int.le_refl _,by decide⟩
 |cons x l ih=>
  have e:Al (x::l)=Al [x]*2^l.length+Al l:=Bf [x] l
  have ex:Al [x]=x:=by simp[Al]
  obtain⟨h1,h2⟩:=ih fun b hb=>h b (.tail _ hb)
  have hp:=Dt l.length
  have hs:(2:Int)^(x::l).length=2*2^l.length:=by rw[List.length_cons,Int.pow_succ,Int.mul_comm]
  rw[e,ex,hs]
  rcases h x (.head _) with rfl|rfl<;>(first|exact⟨AK [] [_,_] [.il k0 v1] (.il k0 (.a (.m 0 AA) v1)) [1,1] rfl h1,AK [] [_,_] [.it v1 AA,.it k0 AA] (.it (.a (.m 0 AA) v1) (.m 2 AA)) [1,1,1] rfl h2 hp⟩|exact⟨AK [] [_,_] [.il k0 v1,.it k0 AA] (.il k0 (.a (.m 1 AA) v1)) [1,1,1] rfl h1 hp,AK [] [_,_] [.it v1 AA] (.it (.a (.m 1 AA) v1) (.m 2 AA)) [1,1] rfl h2⟩)
theorem Gn(n:Nat):Al (List.replicate n 0)=0:=by
 induction n with
 |zero=>rfl
 |succ n ih=>
  rw[List.replicate_succ',Bf,ih];simp[Al]
theorem Hr(l:List Int):Al (Af l)=Al l*2^AS l.length:=by
 unfold Af
 rw[Bf,Gn,List.length_replicate];exact HX [] [_] (.a AA k0) AA rfl
theorem Aw.take{l:List Int}(h:Aw l)(n:Nat):Aw (l.take n):=fun b hb=>h b (List.mem_of_mem_take hb)
theorem Aw.drop{l:List Int}(h:Aw l)(n:Nat):Aw (l.drop n):=fun b hb=>h b (List.mem_of_mem_drop hb)
theorem sy(x:Int)(h:0≤x):Builtin.bitAnd x 1=x%2:=by
 obtain⟨n,rfl⟩:=Int.eq_ofNat_of_zero_le h
 show((n&&&1:Nat):Int)=_
 rw[Nat.and_one_is_mod];exact Int.natCast_emod n 2
theorem OB{l:List Int}(h:Aw l)(k:Nat)(hk:k<l.length):Builtin.bitAnd ((Al l).fdiv (2^(l.length - 1 - k))) 1=l.getD k 0:=by
 have e:l=l.take (k+1)++l.drop (k+1):=(List.take_append_drop _ _).symm
 have el:(l.drop (k+1)).length=l.length - 1 - k:=by rw[List.length_drop];exact DM [_,_,_,_,_] [] [.ne (.a AA (.a AT AO)) v3,.ne (.a v1 AT) v4,.ne (.a v4 AO) v3] AA v1 [1,1, -1, -1] [1, -1,1,1] rfl (Ej (AK [_,_] [] [.nt AA v1] (.nl (.a AA AO) v1) [1,1] rfl hk)) (Ej (AK [_,_,_] [] [.nt AA AT,.ne (.a v1 AO) AT] (.nl AA v1) [1,1, -1] rfl hk (Ej (AK [_,_] [] [.nt v1 AA] (.nl AO AA) [1,1] rfl hk)))) (Ej (AK [_,_] [] [.nt v1 AA] (.nl AO AA) [1,1] rfl hk))
 have e1:l.take (k+1)=l.take k++[l.getD k 0]:=by
  rw[List.take_succ,List.getD_eq_getElem?_getD]
  congr 1
  rw[List.getElem?_eq_getElem hk];rfl
 obtain⟨a0,a1⟩:=DY (h.drop (k+1))
 obtain⟨b0,b1⟩:=DY (h.take k)
 rw[el] at a1
 have hb:l.getD k 0=0∨l.getD k 0=1:=by
  rw[List.getD_eq_getElem?_getD,List.getElem?_eq_getElem hk]
  exact h _ (List.getElem_mem hk)
 have hd:(Al l).fdiv (2^(l.length - 1 - k))=2*Al (l.take k)+l.getD k 0:=by
  have hn:Al l=Al (l.take (k+1))*2^(l.length - 1 - k)+Al (l.drop (k+1)):=by
   rw[←el,←Bf,←e]
  have hn2:Al (l.take (k+1))=2*Al (l.take k)+l.getD k 0:=by
   rw[e1,Bf];simp[Al];exact HX [] [_] (.w AA 2) (.m 2 AA) rfl
  have hp:=Dt (l.length - 1 - k)
  rw[Int.fdiv_eq_ediv_of_nonneg _ (by exact AK [] [_] [.it k0 AA] (.il k0 AA) [1,1] rfl hp),hn,Int.add_comm,Int.add_mul_ediv_right _ _ (by exact fun q=>DF [] [_] [.ie AA k0,.it k0 AA] [1,1] rfl q hp),Int.ediv_eq_zero_of_lt a0 a1,hn2,Int.zero_add]
 rw[hd,sy _ (by rcases hb with q|q<;>rw[q]<;>(first|exact AK [] [_] [.il k0 AA] (.il k0 (.a (.m 2 AA) k0)) [1,2] rfl b0|exact AK [] [_] [.il k0 AA] (.il k0 (.a (.m 2 AA) AO)) [1,2] rfl b0))]
 exact Ih (k:=Al (l.take k)) (Int.add_comm ..) (by rcases hb with q|q<;>rw[q]<;>decide) (by rcases hb with q|q<;>rw[q]<;>decide)
theorem DZ(a:List UInt8)(x:UInt8):At (a++[x])=At a*256+x.toNat:=by
 unfold At;rw[List.foldl_append];rfl
theorem Fh(g t:List Int)(n:Nat)(h:n<g.length):(g++t).getD n 0=g.getD n 0:=by
 rw[List.getD_eq_getElem?_getD,List.getD_eq_getElem?_getD,List.getElem?_append_left h]
theorem FF(g t:List Int)(n:Nat):(g++t).getD (g.length+n) 0=t.getD n 0:=by
 rw[List.getD_eq_getElem?_getD,List.getD_eq_getElem?_getD,List.getElem?_append_right (by exact AK [_,_] [] [] (.nl AA (.a AA v1)) [1] rfl),Nat.add_sub_cancel_left]
theorem Md(x:Int)(l:List Int):Al (x::l)=x*2^l.length+Al l:=by
 have:=Bf [x] l
 rw[show Al [x]=x by simp[Al]] at this
 exact this
theorem QY{t:List Int}{k:Nat}(h:k<t.length):Al (t.drop k)=t.getD k 0*2^(t.length - (k+1))+Al (t.drop (k+1)):=by
 rw[List.drop_eq_getElem_cons h,Md,List.length_drop,List.getD_eq_getElem?_getD,List.getElem?_eq_getElem h];rfl
theorem wc{t:List Int}(h:t.length=8):t.getD 0 0*128+t.getD 1 0*64+t.getD 2 0*32+t.getD 3 0*16+t.getD 4 0*8+t.getD 5 0*4+t.getD 6 0*2+t.getD 7 0=Al t:=by
 have e:∀k,k<8→Al (t.drop k)=t.getD k 0*2^(8 - (k+1))+Al (t.drop (k+1)):=fun k hk=>by
  have:=QY (t:=t) (k:=k) (by rw[h];exact hk)
  rw[h] at this
  exact this
 have e8:Al (t.drop 8)=0:=by rw[List.drop_of_length_le (Nat.le_of_eq h)];rfl
 have e7:Al (t.drop 7)=t.getD 7 0:=by rw[e 7 (by decide),e8,Int.add_zero];exact Int.mul_one _
 have e6:Al (t.drop 6)=t.getD 6 0*2+Al (t.drop 7):=e 6 (by decide)
 have e5:Al (t.drop 5)=t.getD 5 0*4+Al (t.drop 6):=e 5 (by decide)
 have e4:Al (t.drop 4)=t.getD 4 0*8+Al (t.drop 5):=e 4 (by decide)
 have e3:Al (t.drop 3)=t.getD 3 0*16+Al (t.drop 4):=e 3 (by decide)
 have e2:Al (t.drop 2)=t.getD 2 0*32+Al (t.drop 3):=e 2 (by decide)
 have e1:Al (t.drop 1)=t.getD 1 0*64+Al (t.drop 2):=e 1 (by decide)
 have e0:Al t=t.getD 0 0*128+Al (t.drop 1):=e 0 (by decide)
 rw[e0,e1,e2,e3,e4,e5,e6,e7]
 ac_rfl
theorem Mh(q:Nat):∀f:List Int,f.length=8*q→Aw f→(At ((List.range q).map fun k=>(Cv f k).toNat.toUInt8):Int)=Al f:=by
 induction q with
 |zero=>
  intro f hl _
  rw[List.eq_nil_of_length_eq_zero hl];rfl
 |succ q ih=>
  intro f hl hb
  have e:f=f.take (8*q)++f.drop (8*q):=(List.take_append_drop _ _).symm
  have lg:(f.take (8*q)).length=8*q:=by rw[List.length_take];exact Nat.min_eq_left (by exact AK [_,_] [] [.ne v1 (.m 8 (.a AA AO))] (.nl (.m 8 AA) v1) [1, -1] rfl hl)
  have lt:(f.drop (8*q)).length=8:=by rw[List.length_drop,hl,Nat.mul_succ,Nat.add_sub_cancel_left]
  have bg:Aw (f.take (8*q)):=hb.take _
  have bt:Aw (f.drop (8*q)):=hb.drop _
  generalize f.take (8*q)=g at*
  generalize f.drop (8*q)=t at*
  subst e
  rw[List.range_succ,List.map_append,List.map_singleton,DZ,Bf,lt]
  have h1:((List.range q).map fun k=>(Cv (g++t) k).toNat.toUInt8)=(List.range q).map fun k=>(Cv g k).toNat.toUInt8:=by
   refine List.map_congr_left fun k hk=> ?_
   have hk:=List.mem_range.mp hk
   have h0:∀j,j<8→BY (g++t) (8*k+j)=BY g (8*k+j):=fun j hj=>Fh _ _ _ (by exact AK [_,_,_,_] [] [.ne AT (.m 8 v3),.nt AA v3,.nt v1 k8] (.nt (.a (.m 8 AA) v1) AT) [1, -1,8,1] rfl lg hk hj)
   have:Cv (g++t) k=Cv g k:=by
    rw[FA,FA,h0 1 (by decide),h0 2 (by decide),h0 3 (by decide),h0 4 (by decide),h0 5 (by decide),h0 6 (by decide),h0 7 (by decide),show BY (g++t) (8*k)=BY g (8*k) from h0 0 (by decide)]
   rw[this]
  have h2:Cv (g++t) q=Al t:=by
   have h0:∀j,BY (g++t) (8*q+j)=t.getD j 0:=fun j=>by unfold BY;rw[←lg,FF]
   rw[FA,h0 1,h0 2,h0 3,h0 4,h0 5,h0 6,h0 7,show BY (g++t) (8*q)=t.getD 0 0 from h0 0]
   exact wc lt
  obtain⟨n0,n1⟩:=DY bt
  rw[lt] at n1
  have h3:((Cv (g++t) q).toNat.toUInt8).toNat=(Al t).toNat:=by
   rw[h2]
   exact Nat.mod_eq_of_lt ((Int.toNat_lt n0).mpr n1)
  rw[h1,h3,Int.natCast_add,Int.natCast_mul,ih g lg bg,tN n0]
  rfl
theorem Hx{l:List Int}(h:Aw l):Aw (Af l):=by
 intro b hb
 unfold Af at hb
 rcases List.mem_append.mp hb with q|q
 ·exact h b q
 ·exact .inl (List.eq_of_mem_replicate q)
theorem Dy(l:List Int):(Af l).length=l.length+AS l.length:=by unfold Af;simp
theorem Kh(l:List Int):(Af l).length=8*((Af l).length/8):=by
 have:(Af l).length%8=0:=by rw[Dy];exact Jg _
 exact nQ (AK [_,_,_] [] [.ne AT k0,.ne (.a (.m 8 v1) AT) AA] (.nl AA (.m 8 v1)) [1,1, -1] rfl this (Nat.div_add_mod _ 8)) (AK [_,_,_] [] [.ne (.a (.m 8 AA) AT) v1] (.nl (.m 8 AA) v1) [1,1] rfl (Nat.div_add_mod _ 8))
def BA(l:List Int):List UInt8:=(EU l).map fun n=>n.toNat.toUInt8
theorem C9(l:List Int):AI l=(AS l.length).toUInt8::BA l:=rfl
theorem D9(l:List Int):(BA l).length=(Af l).length/8:=by unfold BA;rw[List.length_map,Hq]
theorem Gr{l:List Int}(h:Aw l):(At (BA l):Int)=Al l*2^AS l.length:=by
 rw[←Hr]
 have:=Mh _ (Af l) (Kh l) (Hx h)
 rw[←this]
 unfold BA EU
 rw[List.map_map];rfl
end
section
theorem rK(x:Int)(h:0≤x)(u:Nat):Builtin.bitAnd (x*2^u) (1*2^u - 1)=0:=by
 obtain⟨n,rfl⟩:=Int.eq_ofNat_of_zero_le h
 have e1:(n:Int)*2^u=((n*2^u:Nat):Int):=by rw[Int.natCast_mul,Int.natCast_pow];rfl
 have e2:1*(2:Int)^u - 1=((2^u - 1:Nat):Int):=by
  rw[Int.one_mul,Int.natCast_sub (Nat.one_le_two_pow),Int.natCast_pow];rfl
 rw[e1,e2]
 show(((n*2^u)&&&(2^u - 1):Nat):Int)=0
 rw[Nat.and_two_pow_sub_one_eq_mod,Nat.mul_mod_left];rfl
theorem Tb(x:Int)(h:0≤x)(u:Nat):(x*2^u).fdiv (2^u)=x:=by
 have hp:=Dt u
 rw[Int.fdiv_eq_ediv_of_nonneg _ (by exact AK [] [_] [.it k0 AA] (.il k0 AA) [1,1] rfl hp),Int.mul_ediv_cancel _ (by exact fun q=>DF [] [_] [.ie AA k0,.it k0 AA] [1,1] rfl q hp)]
theorem Nk{α:Type}{p:List α→Prop}(h0:p [])(h1:∀b x,p b→p (b++[x]))(b:List α):p b:=by
 rw[←List.reverse_reverse b]
 induction b.reverse with
 |nil=>exact h0
 |cons x l ih=>rw[List.reverse_cons];exact h1 _ _ ih
theorem Ff(b:List UInt8):At b<256^b.length:=by
 refine Nk (p:=fun b=>At b<256^b.length) (by decide) (fun b x ih=> ?_) b
 show At (b++[x])<256^(b++[x]).length
 rw[DZ,List.length_append,List.length_singleton,Nat.pow_succ]
 have hx:x.toNat<256:=x.toNat_lt
 exact Nat.lt_of_lt_of_le (Nat.add_lt_add_left hx _) (by rw[←Nat.succ_mul];exact Nat.mul_le_mul_right _ ih)
theorem Qo(n k:Nat)(h:n<256^k):KTBy.low (n:Int) k=(List.range k).map fun i=>(n/256^i%256).toUInt8:=by
 have h2:=KTBy.low_ints (x:=(n:Int)) (n:=k) (by exact AK [_] [] [] (.il k0 (.c AA)) [1] rfl) (by
  have:((256:Int)^k)=((256^k:Nat):Int):=by rw[Int.natCast_pow];rfl
  rw[this];exact AK [_,_] [] [.nt AA v1] (.it (.c AA) (.c v1)) [1,1] rfl h)
 apply List.ext_getElem?
 intro i
 have h3:=congrArg (fun l=>l[i]?) h2
 simp only[List.getElem?_map] at h3⊢
 cases hx:(KTBy.low (n:Int) k)[i]? with
 |none=>
  rw[hx] at h3
  cases hy:(List.range k)[i]? with
  |none=>rfl
  |some y=>rw[hy] at h3;cases h3
 |some c=>
  rw[hx] at h3
  cases hy:(List.range k)[i]? with
  |none=>rw[hy] at h3;cases h3
  |some y=>
   rw[hy] at h3
   simp only[Option.map_some,Option.some.injEq] at h3⊢
   have e:((n:Int)/256^y%256)=((n/256^y%256:Nat):Int):=by
    rw[Int.natCast_emod,Int.natCast_ediv,Int.natCast_pow];rfl
   rw[e] at h3
   have h4:c.toNat=n/256^y%256:=by exact DM [_,_] [] [.ie (.c AA) (.c v1)] AA v1 [1,1] [1, -1] rfl h3
   rw[←h4]
   exact(UInt8.ofNat_toNat).symm
theorem Ku(n k:Nat)(h:n<256^k):BN k (n:Int)=((List.range k).map fun i=>(n/256^i%256).toUInt8).reverse:=by
 unfold BN;rw[Qo n k h]
theorem PG(b:List UInt8):BN b.length (At b:Int)=b:=by
 rw[Ku _ _ (Ff b)]
 refine Nk (p:=fun b=>((List.range b.length).map fun i=>(At b/256^i%256).toUInt8).reverse=b) rfl (fun b x ih=> ?_) b
 ·show((List.range (b++[x]).length).map fun i=>(At (b++[x])/256^i%256).toUInt8).reverse=b++[x]
  rw[DZ,List.length_append,List.length_singleton,List.range_succ_eq_map,List.map_cons,List.reverse_cons]
  have hx:x.toNat<256:=x.toNat_lt
  have e1:((At b*256+x.toNat)/256^0%256).toUInt8=x:=by
   rw[Nat.pow_zero,Nat.div_one]
   have:(At b*256+x.toNat)%256=x.toNat:=Nat.mul_add_mod_of_lt hx
   rw[this];exact UInt8.ofNat_toNat
  have e2:(List.map (fun i=>((At b*256+x.toNat)/256^i%256).toUInt8) (List.map Nat.succ (List.range b.length)))=(List.range b.length).map fun i=>(At b/256^i%256).toUInt8:=by
   rw[List.map_map]
   refine List.map_congr_left fun i _=> ?_
   show((At b*256+x.toNat)/256^(i+1)%256).toUInt8=_
   rw[Nat.pow_succ,Nat.mul_comm (256^i),←Nat.div_div_eq_div_mul]
   have:(At b*256+x.toNat)/256=At b:=by rw[Nat.add_comm,Nat.add_mul_div_right _ _ (by decide),Nat.div_eq_of_lt hx,Nat.zero_add]
   rw[this]
  rw[e1,e2,ih]
theorem WR(n w s:Nat)(h:n<256^w)(hs:w≤s):List.replicate (s - w) 0++BN w (n:Int)=BN s (n:Int):=by
 have hlt:n<256^s:=Nat.lt_of_lt_of_le h (Nat.pow_le_pow_right (by decide) hs)
 rw[Ku _ _ h,Ku _ _ hlt]
 have e:s=w+(s - w):=by exact DM [_,_,_] [] [.ne (.a AT v1) AA] AA (.a v1 AT) [1, -1] [1,1] rfl (Ej (AK [_,_] [] [.nl AA v1] (.nl AA v1) [1,1] rfl hs))
 generalize hd:s - w=d at*
 subst e
 rw[List.range_add,List.map_append,List.reverse_append]
 congr 1
 rw[List.map_map]
 have:(List.map ((fun i=>(n/256^i%256).toUInt8)∘fun x=>w+x) (List.range d))=List.replicate d 0:=by
  apply List.ext_getElem
  ·simp
  ·intro i h1 h2
   simp only[List.getElem_map,List.getElem_range,Function.comp,List.getElem_replicate]
   have:n/256^(w+i)=0:=Nat.div_eq_of_lt (Nat.lt_of_lt_of_le h (Nat.pow_le_pow_right (by decide) (by exact AK [_,_] [] [] (.nl AA (.a AA v1)) [1] rfl)))
   rw[this];rfl
 rw[this,List.reverse_replicate]
theorem GR(b:List UInt8)(h:0<b.length):Ar (At b:Int)≤b.length:=by
 have h1:=Ff b
 have h2:Builtin.Int.intBits (At b:Int)≤8*b.length:=by
  refine intBits_le_iff.mpr ?_
  rw[Nat.pow_mul];exact h1
 unfold Ar;exact Nat.max_le.mpr ⟨h,Nat.le_of_lt_succ (Nat.div_lt_of_lt_mul (by omega))⟩
theorem NN(n:Nat):n<256^Ar (n:Int):=by
 have h2:=(intBits_le_iff (m:=Builtin.Int.intBits (n:Int)) (x:=(n:Int))).mp (Nat.le_refl _)
 have h3:2^Builtin.Int.intBits (n:Int)≤2^(8*Ar (n:Int)):=Nat.pow_le_pow_right (by decide) (by unfold Ar;exact Nat.le_trans (sP _) (Nat.mul_le_mul_left 8 (Nat.le_max_right ..)))
 have e:256^Ar (n:Int)=2^(8*Ar (n:Int)):=by rw[Nat.pow_mul]
 rw[e]
 have:((n:Int)).natAbs=n:=rfl
 exact AK [_,_,_,_] [] [.nt AT v3,.nl v3 v1,.ne AT AA] (.nt AA v1) [1,1,1, -1] rfl h2 h3 this
theorem GO(b:List UInt8)(h:0<b.length):List.replicate (b.length - Ar (At b:Int)) 0++BN (Ar (At b:Int)) (At b:Int)=b:=by
 rw[WR _ _ _ (NN _) (GR b h),PG]
theorem DG(a b:List Nat):BE a++BE b=BE (a++b):=by
 show Str.mk _=Str.mk _
 congr 1
 simp[BE]
theorem Cr(a:List Nat):(BE a).length=a.length:=by
 show Array.size _=_
 simp[BE]
theorem Ke(l:List Int)(h:Aw l):Txt.join (Str.ofString "") (l.map Et)=BE (l.map Int.toNat):=by
 have hj:Txt.join (Str.ofString "") (l.map Et)=Str.join (Str.ofString "") (l.map Et):=eq_of_beq (join_plain_closes _ _)
 rw[hj]
 have hd:∀b,b=0∨b=1→Et b=BE [b.toNat]:=by
  rintro b (rfl|rfl)<;>decide+kernel
 have hn:Str.ofString ""=BE []:=by decide+kernel
 induction l with
 |nil=>decide+kernel
 |cons b l ih=>
  have ihl:=ih (fun x hx=>h x (.tail _ hx)) (eq_of_beq (join_plain_closes _ _))
  cases l with
  |nil=>
   show Et b=_
   rw[hd b (h b (.head _))];rfl
  |cons c l=>
   show Et b++Str.ofString ""++Str.join (Str.ofString "") ((c::l).map Et)=_
   rw[ihl,hd b (h b (.head _)),hn,DG,DG]
   rfl
theorem IW(n:Nat)(h:n<8):Txt.mul (Str.ofString "0") (n:Int)=BE (List.replicate n 0):=by
 have:∀k:Fin 8,Txt.mul (Str.ofString "0") (k.val:Int)=BE (List.replicate k.val 0):=by decide+kernel
 exact this ⟨n,h⟩
theorem M6(l:List Int)(h:Aw l):(Dg (l.map Int.toNat):Int)=Al l:=by
 have:∀(l:List Int),Aw l→∀(a:Nat),(((l.map Int.toNat).foldl (fun acc d=>acc*2+d) a:Nat):Int)=l.foldl (fun a b=>2*a+b) (a:Int):=by
  intro l
  induction l with
  |nil=>intro _ a;rfl
  |cons b l ih=>
   intro h a
   rw[List.map_cons,List.foldl_cons,List.foldl_cons,ih (fun x hx=>h x (.tail _ hx))]
   congr 1
   rcases h b (.head _) with rfl|rfl<;>(first|exact zA (AK [_,_] [] [.ie (.c v1) k0] (.il (.c (.a (.w AA 2) v1)) (.a (.m 2 (.c AA)) k0)) [1,1] rfl (tN (AK [] [] [] (.il k0 k0) [1] rfl))) (AK [_,_] [] [] (.il (.a (.m 2 (.c AA)) k0) (.c (.a (.w AA 2) v1))) [1] rfl)|exact Ka [_,_] [] [.ie (.c v1) AO] (.c (.a (.w AA 2) v1)) (.a (.m 2 (.c AA)) AO) [1,1] [1, -1] rfl (tN (AK [] [] [] (.il k0 AO) [1] rfl)))
 exact this l h 0
end
section
abbrev MG(fn:AG):Prop:=∀(l:List Int) (C:List AB) (Q:VQ) (X:XQ),Aw l→l.length≤600→Q (.ti l) C→fn 915 [.int (Al l),.int (l.length:Int)] [] C Q X
theorem RX(P:Params)(CP:Scope→Expr→AW)(LP:Scope→Stmt→AV)(fn:AG)(hCP:XB P CP fn)(l:List Int)(hb:Aw l)(hl:l.length≤600)(Q:VQ)(X:XQ)(hQ:Q (.ti l) []):
  A4 (GA P CP LP fn) 100 915 [.int (Al l),.int (l.length:Int)] [] [] Q X:=by
 refine BB (Γ':=(GF P CP LP fn 915 (fun _ _=>0))) (b:=Bo P 915) (m:=[("value",.int (Al l)),("bits",.int (l.length:Int))]) (C':=[]) (fun R=>by kernel_rfl) ?_
 obtain⟨n0,n1⟩:=DY hb
 have hp:=Dt l.length
 have hbit:∀k,k<l.length→Builtin.bitAnd ((Al l).fdiv (2^(l.length - 1 - k))) 1=l.getD k 0:=OB hb
 have hmap:((List.range l.length).map fun k=>V.int (l.getD k 0))=l.map V.int:=by
  apply List.ext_getElem
  ·simp
  ·intro i h1 h2
   simp only[List.getElem_map,List.getElem_range]
   rw[List.length_map] at h2
   rw[List.getD_eq_getElem?_getD,List.getElem?_eq_getElem h2];rfl
 have hfin:(Al l).fdiv (2^((l.length:Int)).toNat)=0:=by
  rw[Int.toNat_natCast,Int.fdiv_eq_ediv_of_nonneg _ (by exact AK [] [_] [.it k0 AA] (.il k0 AA) [1,1] rfl hp),Int.ediv_eq_zero_of_lt n0 n1]
 refine Ad.mk (fun h1=> ?_) (fun h1=> ?_)
 ·refine Ad.mk (fun h2=> ?_) (fun h2=> ?_)
  ·have e:l=[]:=List.eq_nil_of_length_eq_zero (by
    have h2:(!((l.length:Int) !=0))=true:=h2
    simp at h2
    exact List.length_eq_zero_iff.mpr h2)
   subst e
   walk_at "vi"
   exact hQ
  ·refine hCP _ _ _ _ _ ?_
   refine aI (B3 _ (by exact AK [_] [] [.nl AA A9] (.nl AA AE) [1,1] rfl hl)) ?_
   refine CI _ (fun k=>V.int (l.getD k 0)) trivial ?_ ?_
   ·intro i hi acc K ha hK
    have e1:((l.length:Int) - 1 - (i:Int)).toNat=l.length - 1 - i:=by exact DM [_,_,_,_,_] [] [.ie (.c AA) (.s (.s (.c AT) AO) (.c v3)),.ne (.a v1 v3) v4,.ne (.a v4 AO) AT] AA v1 [1,1, -1, -1] [1, -1,1,1] rfl (tN (AK [_,_] [] [.nt v1 AA] (.il k0 (.s (.s (.c AA) AO) (.c v1))) [1,1] rfl hi)) (Ej (AK [_,_,_] [] [.nt AA AT,.ne (.a v1 AO) AT] (.nl AA v1) [1,1, -1] rfl hi (Ej (AK [_,_] [] [.nt v1 AA] (.nl AO AA) [1,1] rfl hi)))) (Ej (AK [_,_] [] [.nt v1 AA] (.nl AO AA) [1,1] rfl hi))
    refine aI (by exact AK [_,_] [] [.nl v1 A9,.nl AA v1] (.nl AA Bt) [1,1,1] rfl hl ha) ?_
    refine aI (by exact AK [_,_] [] [.nt v1 AA] (.il k0 (.s (.s (.c AA) AO) (.c v1))) [1,1] rfl hi) ?_
    rw[e1]
    refine Eq.mp ?_ hK
    show K (acc++[V.int (l.getD i 0)]) []=K (acc++[V.int (Builtin.bitAnd ((Al l).fdiv (2^(l.length - 1 - i))) 1)]) []
    rw[hbit i hi]
   ·rw[hmap,CU]
    refine aI (by exact AK [_] [] [.nl AA A9] (.nl AA AE) [1,1] rfl hl) ?_
    refine aI (by exact AK [_] [] [] (.il k0 (.c AA)) [1] rfl) ?_
    refine Ad.mk (fun h=> ?_) (fun _=> ?_)
    ·exfalso
     have h:((Al l).fdiv (2^((l.length:Int)).toNat) !=0)=true:=h
     rw[hfin] at h;cases h
    ·exact hQ
 ·refine hCP _ _ _ _ _ ?_
  refine aI (B3 _ (by exact AK [_] [] [.nl AA A9] (.nl AA AE) [1,1] rfl hl)) ?_
  refine CI _ (fun k=>V.int (l.getD k 0)) trivial ?_ ?_
  ·intro i hi acc K ha hK
   have e1:((l.length:Int) - 1 - (i:Int)).toNat=l.length - 1 - i:=by exact DM [_,_,_,_,_] [] [.ie (.c AA) (.s (.s (.c AT) AO) (.c v3)),.ne (.a v1 v3) v4,.ne (.a v4 AO) AT] AA v1 [1,1, -1, -1] [1, -1,1,1] rfl (tN (AK [_,_] [] [.nt v1 AA] (.il k0 (.s (.s (.c AA) AO) (.c v1))) [1,1] rfl hi)) (Ej (AK [_,_,_] [] [.nt AA AT,.ne (.a v1 AO) AT] (.nl AA v1) [1,1, -1] rfl hi (Ej (AK [_,_] [] [.nt v1 AA] (.nl AO AA) [1,1] rfl hi)))) (Ej (AK [_,_] [] [.nt v1 AA] (.nl AO AA) [1,1] rfl hi))
   refine aI (by exact AK [_,_] [] [.nl v1 A9,.nl AA v1] (.nl AA Bt) [1,1,1] rfl hl ha) ?_
   refine aI (by exact AK [_,_] [] [.nt v1 AA] (.il k0 (.s (.s (.c AA) AO) (.c v1))) [1,1] rfl hi) ?_
   rw[e1]
   refine Eq.mp ?_ hK
   show K (acc++[V.int (l.getD i 0)]) []=K (acc++[V.int (Builtin.bitAnd ((Al l).fdiv (2^(l.length - 1 - i))) 1)]) []
   rw[hbit i hi]
  ·rw[hmap,CU]
   refine aI (by exact AK [_] [] [.nl AA A9] (.nl AA AE) [1,1] rfl hl) ?_
   refine aI (by exact AK [_] [] [] (.il k0 (.c AA)) [1] rfl) ?_
   refine Ad.mk (fun h=> ?_) (fun _=> ?_)
   ·exfalso
    have h:((Al l).fdiv (2^((l.length:Int)).toNat) !=0)=true:=h
    rw[hfin] at h;cases h
   ·exact hQ
end
section
noncomputable abbrev D2(l:List Int):V:= .tup [.int (Al l),.int (l.length:Int),.ti (List.replicate (AS l.length) 0)]
theorem M0(x:UInt8)(r:List UInt8):BW (x::r) (some 1) none=r:=by
 unfold BW
 show((x::r).drop (clipAt (x::r).length 1)).take ((x::r).length - clipAt (x::r).length 1)=r
 have e:clipAt (x::r).length 1=1:=(Cp _ 1).trans (Nat.min_eq_left (Nat.succ_le_succ (Nat.zero_le _)))
 rw[e,List.drop_succ_cons,List.drop_zero,List.length_cons,Nat.add_sub_cancel,List.take_length]
theorem WV(P:Params)(CP:Scope→Expr→AW)(LP:Scope→Stmt→AV)(fn:AG)(hF:Pm fn)(hT:MG fn)(l:List Int)(hb:Aw l)(hl:l.length≤600)(h:List UInt8)(Q:VQ)(X:XQ)(hQ:Q (.obj 1) [.inst 387 (By false (AI l) h []),.list [D2 l]]):
  A4 {GA P CP LP fn with dm:=fun _ _=>1} 100 328 [.obj 0] [] [.inst 387 (By false (AI l) h [])] Q X:=by
 refine BB (Γ':=(GF P CP LP fn 328 (fun _ _=>1))) (b:=Bo P 328) (m:=[("self",.obj 0)]) (C':=[.inst 387 (By false (AI l) h [])]) (fun R=>by kernel_rfl) ?_
 have hk:AS l.length<8:=by unfold AS;exact AK [_] [] [.nt AA k8] (.nt AA k8) [1,1] rfl (Nat.mod_lt _ (by decide:8>0))
 have hf:=Dy l
 have hf8:=Kh l
 have hpl:=D9 l
 have hbl:(AI l).length=1+(BA l).length:=by rw[C9];simp;exact Sa [_] [] (.a AA AO) (.a AO AA) rfl
 have g0:((AI l).getD (Int.toNat 0) 0).toNat=AS l.length:=by
  show(AS l.length).toUInt8.toNat=_
  exact Nat.mod_eq_of_lt (Nat.lt_trans hk (by decide))
 have hcut:BW (AI l) (some 1) none=BA l:=M0 _ _
 have hnat:=Gr hb
 obtain⟨n0,n1⟩:=DY hb
 refine(aI ?_ ?_:)
 ·exact AK [_,_,_,_,_,_] [] [.nl v1 A9,.nt AT k8,.ne v3 (.a v1 AT),.ne v3 (.m 8 v4),.ne v5 v4,.ne AA (.a AO v5)] (.nl AA (.k 1099511627776)) [8,1,1,1, -1,8,8] rfl hl hk hf hf8 hpl hbl
 refine(aI ?_ ?_:)
 ·decide
 refine(aI ?_ ?_:)
 ·exact AK [_,_] [] [.ne AA (.a AO v1)] (.it k0 (.c AA)) [1, -1] rfl hbl
 rw[g0]
 refine(aI ?_ ?_:)
 ·exact AK [_,_,_,_,_,_] [] [.nl v1 A9,.nt AT k8,.ne v3 (.a v1 AT),.ne v3 (.m 8 v4),.ne v5 v4,.ne AA (.a AO v5)] (.nl AA Aa) [8,1,1,1, -1,8,8] rfl hl hk hf hf8 hpl hbl
 rw[hcut]
 walk_at "wh"
 refine hF (BA l) _ _ _ (by exact AK [_,_,_,_,_] [] [.nl v1 A9,.nt AT k8,.ne v3 (.a v1 AT),.ne v3 (.m 8 v4),.ne AA v4] (.nl AA A7) [8,1,1,1, -1,8] rfl hl hk hf hf8 hpl) ?_
 rw[hnat]
 refine(aI ?_ ?_:)
 ·exact AK [_,_,_,_,_,_] [] [.nl v1 A9,.nt AT k8,.ne v3 (.a v1 AT),.ne v3 (.m 8 v4),.ne v5 v4,.ne AA (.a AO v5)] (.nl AA AE) [8,1,1,1, -1,8,8] rfl hl hk hf hf8 hpl hbl
 walk_at "wh"
 refine aI (JX _ _ (by exact AK [_,_] [] [.ne AA (.a AO v1)] (.il k0 (.s (.c AA) AO)) [1, -1] rfl hbl) (by exact AK [_,_,_,_,_,_] [] [.nl v1 A9,.nt AT k8,.ne v3 (.a v1 AT),.ne v3 (.m 8 v4),.ne v5 v4,.ne AA (.a AO v5)] (.it (.s (.c AA) AO) AE) [8,1,1,1, -1,8,8] rfl hl hk hf hf8 hpl hbl) (by exact AK [] [] [] (.il k0 k8) [1] rfl) (by exact AK [] [] [] (.it k8 AE) [1] rfl)) ?_
 have hbits:(((AI l).length:Int) - 1)*8=((l.length+AS l.length:Nat):Int):=by exact Ka [_,_,_,_,_,_] [] [.ne v3 (.a v1 AT),.ne v3 (.m 8 v4),.ne v5 v4,.ne AA (.a AO v5)] (.w (.s (.c AA) AO) 8) (.c (.a v1 AT)) [1,1, -1,8,8] [1, -1,1, -8, -8] rfl hf hf8 hpl hbl
 rw[hbits]
 refine(Ad.mk (fun h1=> ?_) (fun h1=> ?_):)
 ·have e0:AS l.length=0:=by
   have h1:(!((AS l.length:Int) !=0))=true:=h1
   simp at h1;exact h1
  have hc:D2 l= .tup [.int (Al l),.int (l.length:Int),.ti []]:=by unfold D2;rw[e0];rfl
  rw[hc] at hQ
  rw[e0]
  rw[Int.pow_zero,Int.mul_one,Nat.add_zero]
  refine(aI (Nat.zero_le _) ?_:)
  refine(aI ?_ ?_:)
  ·show 3≤1000;decide
  refine(aI ?_ ?_:)
  ·show 1≤1000;decide
  exact hQ
 ·have e0:AS l.length≠0:=by
   have h1:(!((AS l.length:Int) !=0))=false:=h1
   simp at h1;exact h1
  have hz:=hT (List.replicate (AS l.length) 0)
  rw[Gn,List.length_replicate] at hz
  have hm:Builtin.bitAnd (Al l*2^AS l.length) (1*2^((AS l.length:Int)).toNat - 1)=0:=by rw[Int.toNat_natCast];exact rK _ n0 _
  have hsh:(Al l*2^AS l.length).fdiv (2^((AS l.length:Int)).toNat)=Al l:=by rw[Int.toNat_natCast];exact Tb _ n0 _
  have hlen:((l.length+AS l.length:Nat):Int) - (AS l.length:Int)=(l.length:Int):=by exact HX [_,_] [] (.s (.c (.a AA v1)) (.c v1)) (.c AA) rfl
  have i1:Builtin.Int.intBits 1=1:=by decide
  have hz2:∀(C:List AB) (Q:VQ) (X:XQ),Q (.ti (List.replicate (AS l.length) 0)) C→fn 915 [.int (Builtin.bitAnd (Al l*2^AS l.length) (1*2^((AS l.length:Int)).toNat - 1)),.int (AS l.length:Int)] [] C Q X:=by
   rw[hm]
   exact fun C Q X hq=>hz C Q X (fun b hb=> .inl (List.eq_of_mem_replicate hb)) (by exact AK [_] [] [.nt AA k8] (.nl AA A9) [1,1] rfl hk) hq
  walk_at "vi"
  refine hz2 _ _ _ ?_
  walk_at "vi"
  have hq2:Q (.obj 1) [.inst 387 (By false (AI l) h []),.list [.tup [.int ((Al l*2^AS l.length).fdiv (2^((AS l.length:Int)).toNat)),.int (((l.length+AS l.length:Nat):Int) - (AS l.length:Int)),.ti (List.replicate (AS l.length) 0)]]]:=by
   rw[hsh,hlen];exact hQ
  exact hq2
theorem Rh(P:Params)(CP:Scope→Expr→AW)(LP:Scope→Stmt→AV)(fn:AG)(at_:AU)(b h:List UInt8)(hs:I5 at_ true b h)(Q:VQ)(X:XQ)(hQ:Q (.obj 1) [.inst 387 at_,.list []]):
  A4 {GA P CP LP fn with dm:=fun _ _=>1} 100 328 [.obj 0] [] [.inst 387 at_] Q X:=by
 refine BB (Γ':=(GF P CP LP fn 328 (fun _ _=>1))) (b:=Bo P 328) (m:=[("self",.obj 0)]) (C':=[.inst 387 at_]) (fun R=>by kernel_rfl) ?_
 rcases hs with rfl|⟨_,rfl⟩
 ·refine(aI (Nat.zero_le _) ?_:)
  exact hQ
 ·refine(aI (Nat.zero_le _) ?_:)
  exact hQ
end
section
abbrev Ck:List UInt8→List (List Int)→Prop:=fun b v=>∃l,Aw l∧l.length≤600∧b=AI l∧v=[l]
abbrev XE(fn:AG):Prop:=∀(i:Nat) (l:List Int) (h:List UInt8) (C:List AB) (Q:VQ) (X:XQ),Aw l→l.length≤600→C[i]? =some (.inst 387 (By false (AI l) h []))→Q (.obj C.length) (C++[.list [D2 l]])→fn 328 [.obj i] [] C Q X
abbrev Sz(fn:AG):Prop:=∀(i:Nat) (at_:AU) (b h:List UInt8) (C:List AB) (Q:VQ) (X:XQ),I5 at_ true b h→C[i]? =some (.inst 387 at_)→Q (.obj C.length) (C++[.list []])→fn 328 [.obj i] [] C Q X
theorem Jr{l:List (List UInt8×List (List Int))}(h:∀p∈l,p.2.length≤p.1.length):(l.map (·.2)).flatten.length≤(l.map (·.1)).flatten.length:=by
 induction l with
 |nil=>exact Nat.le_refl _
 |cons p l ih=>
  have h1:=h p (.head _)
  have h2:=ih fun q hq=>h q (.tail _ hq)
  simp only[List.map_cons,List.flatten_cons,List.length_append]
  exact AK [_,_,_,_] [] [.nl AA AT,.nl v1 v3] (.nl (.a AA v1) (.a AT v3)) [1,1,1] rfl h1 h2
theorem TV.lenB:∀{k:Nat} {e:List UInt8} {v:List (List Int)},TV 387 Ck k e v→v.length≤e.length
 |0,_,_,⟨b,_,h2,⟨_,_,_,_,h3⟩⟩=>by rw[h2,h3];simp only[List.length_cons,List.length_nil];exact AK [_] [] [] (.nl (.a k0 AO) (.a (.a AA AO) AO)) [1] rfl
 |k+1,_,_,.inl ⟨b,_,h2,⟨_,_,_,_,h3⟩⟩=>by rw[h2,h3];simp only[List.length_cons,List.length_nil];exact AK [_] [] [] (.nl (.a k0 AO) (.a (.a AA AO) AO)) [1] rfl
 |k+1,_,_,.inr ⟨l,h1,h2,h3⟩=>by
  have:=Jr fun p hp=>(h1 p hp).lenB
  rw[h2,h3]
  simp only[List.length_cons,List.length_append]
  exact AK [_,_,_] [] [.nl AA v1] (.nl AA (.a (.a (.a v1 (.a (.a AT AO) AO)) AO) AO)) [1,1] rfl this
theorem KZ(C:List AB)(x:List V):Fz (C++[.list x]) (.obj C.length)=some x:=by
 unfold Fz
 simp
abbrev So(n:Nat)(fn:AG):Prop:=∀(i j:Nat) (at_:AU) (m:Bool) (b h:List UInt8) (v:List (List Int)) (C:List AB) (Q:VQ) (X:XQ),(m=false∨j<n)→TC 387 Ck j m b v→I5 at_ m b h→b.length≤1000000→C[i]? =some (.inst 387 at_)→Q (.obj C.length) (C++[.list (v.map D2)])→fn 226 [.obj i] [] C Q X
def tT(at_:AU)(l:List (List UInt8×List (List Int)))(k:Nat)(m:AU)(C:List AB):Prop:=
 ∃(done rest:List (List UInt8×List (List Int))) (J:List AB) (p:Int) (o:V) (tl:AU),l=done++rest∧k=rest.length∧C= .inst 387 at_::J∧p=((done.map (·.1)).flatten.length:Int)∧
  ((done=[]∧o= .none∧tl=[]∧J=[])∨(o= .obj 2∧(∃v,tl=([("sub_value",v)]:AU))∧∃s1 J',J=s1:: .list ((done.map (·.2)).flatten.map D2)::J'))∧
  m=([("self",.obj 0),("pointer",.int p),("contents_len",.int ((l.map (·.1)).flatten.length:Int)),("output",o)]:AU)++tl
theorem tT.next{at_:AU}{l done rest:List (List UInt8×List (List Int))}{q:List UInt8×List (List Int)}{p:Int}{J:List AB}{m2:AU}{C2:List AB}{v s1:_}(hes:l=done++q::rest)(hp:p=((done.map (·.1)).flatten.length:Int))
  (hC:C2= .inst 387 at_::s1:: .list ((done.map (·.2)).flatten.map D2++q.2.map D2)::J)
  (h2:m2=([("self",.obj 0),("pointer",.int (p+(q.1.length:Int))),("contents_len",.int ((l.map (·.1)).flatten.length:Int)),("output",.obj 2),("sub_value",v)]:AU)):∃j,j<(q::rest).length∧tT at_ l j m2 C2:=
 ⟨rest.length,Nat.lt_succ_self _,done++[q],rest,_,_,.obj 2,[("sub_value",v)],by rw[hes,List.append_assoc];rfl,rfl,hC,by rw[hp];simp,.inr ⟨rfl,⟨_,rfl⟩,s1,J,by simp⟩,h2⟩
theorem rH(P:Params)(CP:Scope→Expr→AW)(LP:Scope→Stmt→AV)(fn:AG)(hLP:Pi P CP LP fn)(hA:XE fn)(hAI:Sz fn)(hB:Wq fn)(n:Nat)(hn:n≤5)(hM:∀n',n=n'+1→So n' fn)(j:Nat)(at_:AU)(m:Bool)(b h:List UInt8)(v:List (List Int))(hj:m=false∨j<n)(hT:TC 387 Ck j m b v)(hs:I5 at_ m b h)(hl:b.length≤1000000)(Q:VQ)(X:XQ)(hQ:∀(k:Nat) (J:List AB),k≠0→(AB.inst 387 at_::J)[k]? =some (.list (v.map D2))→Q (.obj k) (.inst 387 at_::J)):
  A4 (GA P CP LP fn) 100 226 [.obj 0] [] [.inst 387 at_] Q X:=by
 refine BB (Γ':=(GF P CP LP fn 226 (fun _ _=>0))) (b:=Bo P 226) (m:=[("self",.obj 0)]) (C':=[.inst 387 at_]) (fun R=>by kernel_rfl) ?_
 cases m with
 |false=>
  obtain⟨hb,l,hbl,hll,rfl,rfl⟩:=hT
  rcases hs with rfl|⟨q,_⟩
  ·refine(hA 0 l h _ _ _ hbl hll ?_ ?_:)
   ·rfl
   ·exact hQ 1 [.list [D2 l]] (by decide) rfl
  ·cases q
 |true=>
  obtain⟨l,hlv,rfl,rfl⟩:=hT
  have f1:AP at_ "contents"=some (.bytes (l.map (·.1)).flatten):=by rcases hs with rfl|⟨_,rfl⟩<;>kernel_rfl
  have f2:AP at_ "_indefinite"=some (.bool true):=by rcases hs with rfl|⟨_,rfl⟩<;>kernel_rfl
  have f3:AP at_ "_as_chunk"=none:=by rcases hs with rfl|⟨_,rfl⟩<;>kernel_rfl
  conv=>whnf
  rw[f2]
  conv=>whnf
  rw[f1]
  conv=>whnf
  refine(aI hl ?_:)
  refine(hLP _ _ _ _ _ ?_:)
  refine⟨tT at_ l,l.length,?_,?_⟩
  ·exact⟨[],l,[],0,.none,[],rfl,rfl,rfl,rfl,.inl ⟨rfl,rfl,rfl,rfl⟩,by kernel_rfl⟩
  ·rintro k m C ⟨done,rest,J,p,o,tl,hes,rfl,rfl,hp,ho,rfl⟩
   have hfl:=Jf hes
   cases rest with
   |nil=>
    have hv:(l.map (·.2)).flatten=(done.map (·.2)).flatten:=by rw[hes,List.append_nil]
    have hb:(l.map (·.1)).flatten.length=(done.map (·.1)).flatten.length:=by rw[hes,List.append_nil]
    walk_at "vi"
    rw[hv] at hQ
    rcases ho with⟨rfl,rfl,rfl,rfl⟩|⟨rfl,⟨v,rfl⟩,s1,J,rfl⟩
    ·conv=>whnf
     rw[f3]
     refine(hAI 0 _ (l.map (·.1)).flatten h _ _ _ hs ?_ ?_:)
     ·rfl
     ·exact hQ 1 [.list []] (by decide) rfl
    ·exact hQ 2 _ (by decide) rfl
   |cons q rest=>
    obtain⟨mm,hh,bb,E,hT⟩:=(hlv q (by rw[hes];exact List.mem_append_right _ (.head _))).el
    obtain⟨n',rfl,hjn⟩:=LU (m:=true) hj
    obtain⟨t0,r0,_,hq0⟩:=E.is.head
    have hq1:0<q.1.length:=by rw[hq0];exact Nat.zero_lt_succ _
    have hq2:bb.length≤q.1.length:=E.bodyLen
    have hq3:q.2.length≤q.1.length:=(hlv q (by rw[hes];exact List.mem_append_right _ (.head _))).lenB
    have hdl:(done.map (·.2)).flatten.length≤(done.map (·.1)).flatten.length:=Jr fun p hp=>(hlv p (by rw[hes];exact List.mem_append_left _ hp)).lenB
    have hfl2:((q::rest).map (·.1)).flatten.length=q.1.length+(rest.map (·.1)).flatten.length:=List.length_append
    have hdd:(l.map (·.1)).flatten=(done.map (·.1)).flatten++(q.1++(rest.map (·.1)).flatten):=by rw[hes,List.map_append,List.flatten_append];rfl
    have hTT:∃jj,(mm=false∨jj<n')∧TC 387 Ck jj mm bb q.2:=by
     rcases hT with⟨h1,h2⟩|⟨jj,h1,h2⟩
     ·exact⟨0,.inl h1,h2⟩
     ·exact⟨jj,.inr (Nat.lt_of_succ_lt_succ (by rw[h1] at hjn;exact hjn)),h2⟩
    obtain⟨jj,hjj,hTT⟩:=hTT
    have hloc:AP (By mm bb hh (FW mm)) "_merge_chunks"=none:=by cases mm<;>kernel_rfl
    have hsub:((AB.inst 387 at_::J)++[AB.inst 387 (By mm bb hh (FW mm))])[(AB.inst 387 at_::J).length]? =some (AB.inst 387 (By mm bb hh (FW mm))):=List.getElem?_concat_length
    walk_at "vi"
    conv=>whnf
    rw[f1]
    conv=>whnf
    walk_at "wh"
    refine hB 387 mm j q.1 hh bb _ _ _ _ _ _ _ (.inr rfl) E (by exact AK [_,_] [] [.nl (.a v1 AO) (.k 5),.nt AA (.a v1 AO)] (.nl AA (.k 5)) [1,1,1] rfl hn hjn) hdd hp hl ?_
    have hqb:bb.length≤1000000:=by exact AK [_,_,_,_,_,_] [] [.nl v1 AE,.nl AA AT,.ne v3 (.a AT v4),.ne v1 (.a v5 v3)] (.nl AA AE) [1,1,1, -1, -1] rfl hl hq2 hfl2 hfl
    rcases ho with⟨rfl,rfl,rfl,rfl⟩|⟨rfl,⟨v,rfl⟩,s1,J,rfl⟩
    ·conv=>whnf
     rw[hloc]
     refine(hM n' rfl _ jj _ mm bb hh q.2 _ _ _ hjj hTT (.inl rfl) hqb hsub ?_:)
     exact tT.next (v:= .obj 1) hes hp rfl (by kernel_rfl)
    ·conv=>whnf
     rw[hsub]
     conv=>whnf
     rw[hloc]
     refine(hM n' rfl _ jj _ mm bb hh q.2 _ _ _ hjj hTT (.inl rfl) hqb hsub ?_:)
     conv=>whnf
     rw[KZ]
     refine(aI ?_ ?_:)
     ·show(List.map D2 (List.map (·.2) done).flatten).length+(List.map D2 q.2).length≤1000000
      rw[List.length_map,List.length_map];exact AK [_,_,_,_,_,_,_] [] [.nl AT AE,.ne AT (.a v3 v4),.nl v1 v5,.nl AA v3,.ne v4 (.a v5 v6)] (.nl (.a AA v1) AE) [1,1, -1,1,1, -1] rfl hl hfl hq3 hdl hfl2
     exact tT.next (v:= .obj (AB.inst 387 at_::s1:: .list ((done.map (·.2)).flatten.map D2)::J).length) hes hp rfl (by kernel_rfl)
end
section
theorem yA(x:Int)(h:0≤x):Builtin.bitAnd x 7=x%8:=by
 obtain⟨n,rfl⟩:=Int.eq_ofNat_of_zero_le h
 show((n&&&(2^3 - 1):Nat):Int)=_
 rw[Nat.and_two_pow_sub_one_eq_mod];exact Int.natCast_emod n 8
theorem Nz(a c:Int)(k:Nat)(ha:0≤a)(h0:0≤c)(h1:c<2^k):Builtin.bitOr (a*2^k) c=a*2^k+c:=by
 obtain⟨n,rfl⟩:=Int.eq_ofNat_of_zero_le ha
 obtain⟨m,rfl⟩:=Int.eq_ofNat_of_zero_le h0
 have e1:(n:Int)*2^k=((n*2^k:Nat):Int):=by rw[Int.natCast_mul,Int.natCast_pow];rfl
 have h2:m<2^k:=by
  have:((2:Int)^k)=((2^k:Nat):Int):=by rw[Int.natCast_pow];rfl
  rw[this] at h1;exact AK [_,_] [] [.it (.c AA) (.c v1)] (.nt AA v1) [1,1] rfl h1
 rw[e1]
 have e2:Builtin.bitOr ((n*2^k:Nat):Int) (m:Int)=(((n*2^k)|||m:Nat):Int):=by
  generalize n*2^k=x
  unfold Builtin.bitOr Builtin.bitAnd
  have hb:∀y:Nat,decide (0≤Builtin.bitNot (y:Int))=false:=fun y=>by unfold Builtin.bitNot;exact decide_eq_false (by exact fun q=>DF [_] [] [.il k0 (.s (.g (.c AA)) AO)] [1] rfl q)
  have hn:∀y:Nat,(Builtin.bitNot (Builtin.bitNot (y:Int))).toNat=y:=fun y=>by unfold Builtin.bitNot;exact DM [_,_] [] [.ie (.c AA) (.s (.g (.s (.g (.c v1)) AO)) AO)] AA v1 [1,1] [1, -1] rfl (tN (AK [_] [] [] (.il k0 (.s (.g (.s (.g (.c AA)) AO)) AO)) [1] rfl))
  have hnn:∀y:Nat,Builtin.bitNot (Builtin.bitNot (y:Int))=(y:Int):=fun y=>by unfold Builtin.bitNot;exact HX [_] [] (.s (.g (.s (.g (.c AA)) AO)) AO) (.c AA) rfl
  rw[hb,hb]
  show Builtin.bitNot (Builtin.bitNot (((Builtin.bitNot (Builtin.bitNot (x:Int))).toNat|||(Builtin.bitNot (Builtin.bitNot (m:Int))).toNat:Nat):Int))=_
  rw[hn,hn,hnn]
 rw[e2,←Nat.shiftLeft_eq,←Nat.shiftLeft_add_eq_or_of_lt h2]
 exact HX [_,_] [] (.c (.a AA v1)) (.a (.c AA) (.c v1)) rfl
def DH(v:List (List Int)):Prop:=∃i,i<v.length∧(v.take i).flatten.length%8≠0
noncomputable def Db(v:List (List Int)):List Int:=match v.getLast? with
 |some l=>List.replicate (AS l.length) 0
 |none=>[]
noncomputable abbrev RH(v:List (List Int)):V:= .tup [.int (Al v.flatten),.int (v.flatten.length:Int),.ti (Db v)]
theorem sF(P:Params)(CP:Scope→Expr→AW)(LP:Scope→Stmt→AV)(fn:AG)(hA:XE fn)(l:List Int)(hb:Aw l)(hl:l.length≤600)(h:List UInt8)(Q:VQ)(X:XQ)(hQ:Q (D2 l) [.inst 387 (By false (AI l) h []),.list [D2 l]]):
  A4 (GA P CP LP fn) 100 335 [.obj 0] [] [.inst 387 (By false (AI l) h [])] Q X:=by
 refine BB (Γ':=(GF P CP LP fn 335 (fun _ _=>0))) (b:=Bo P 335) (m:=[("self",.obj 0)]) (C':=[.inst 387 (By false (AI l) h [])]) (fun R=>by kernel_rfl) ?_
 refine(hA 0 l h _ _ _ hb hl ?_ ?_:)
 ·rfl
 ·refine(aI ?_ ?_:)
  ·show 1≤1000000;decide
  exact hQ
def CtI(at_:AU)(v:List (List Int))(i:Nat)(m:AU)(C:List AB):Prop:=C=[.inst 387 at_,.list (v.map D2)]∧(∀i',i'<i→(v.take i').flatten.length%8=0)∧
   ∃tl:AU,m=([("self",.obj 0),("value",.int (Al (v.take i).flatten)),("total_bits",.int ((v.take i).flatten.length:Int)),("unused_bits",.ti (Db (v.take i)))]:AU)++tl∧(tl=[]∨∃a b,tl=([("chunk",a),("bits",b)]:AU))
theorem sG(P:Params)(CP:Scope→Expr→AW)(LP:Scope→Stmt→AV)(fn:AG)(hLP:Pi P CP LP fn)(v:List (List Int))(hv:∀l∈v,Aw l)(hl:v.flatten.length≤600)(at_:AU)(b h:List UInt8)(hs:I5 at_ true b h)
  (hM:∀(C:List AB) (Q:VQ) (X:XQ),C[0]? =some (.inst 387 at_)→Q (.obj C.length) (C++[.list (v.map D2)])→fn 226 [.obj 0] [] C Q X) (Q:VQ) (X:XQ) (hX:DH v→X "ValueError" [.inst 387 at_,.list (v.map D2)]) (hQ:¬DH v→Q (RH v) [.inst 387 at_,.list (v.map D2)]):
  A4 (GA P CP LP fn) 100 335 [.obj 0] [] [.inst 387 at_] Q X:=by
 refine BB (Γ':=(GF P CP LP fn 335 (fun _ _=>0))) (b:=Bo P 335) (m:=[("self",.obj 0)]) (C':=[.inst 387 at_]) (fun R=>by kernel_rfl) ?_
 have f2:AP at_ "_indefinite"=some (.bool true):=by rcases hs with rfl|⟨_,rfl⟩<;>kernel_rfl
 have f4:AP at_ "_merge_chunks"=none:=by rcases hs with rfl|⟨_,rfl⟩<;>kernel_rfl
 conv=>whnf
 rw[f2]
 conv=>whnf
 refine(aI (Nat.zero_le _) ?_:)
 refine(hLP _ _ _ _ _ ?_:)
 conv=>whnf
 rw[f4]
 conv=>whnf
 refine(hM _ _ _ ?_ ?_:)
 ·rfl
 refine(aI trivial ?_:)
 refine G7 (CtI at_ v) _ 0 _ _ _ ?_ ?_ ?_ ?_
 ·exact⟨rfl,fun i' hi=>absurd hi (by exact fun q=>DF [_] [] [.nt AA k0] [1] rfl q),[],by kernel_rfl,.inl rfl⟩
 ·rintro i x m C K hx ⟨rfl,hi,tl,rfl,htl⟩ hK
  rw[List.getElem?_map] at hx
  cases hvi:v[i]? with
  |none=>rw[hvi] at hx;cases hx
  |some l=>
   rw[hvi] at hx
   have hx:D2 l=x:=by simpa using hx
   subst hx
   have hlt:i<v.length:=by
    rcases Nat.lt_or_ge i v.length with h1|h1
    ·exact h1
    ·rw[List.getElem?_eq_none h1] at hvi;cases hvi
   have hbl:Aw l:=hv l (List.mem_of_getElem? hvi)
   have htk:v.take (i+1)=v.take i++[l]:=by rw[List.take_succ,hvi];rfl
   have hfk:(v.take (i+1)).flatten=(v.take i).flatten++l:=by rw[htk];simp
   have hvl:v.flatten=(v.take (i+1)).flatten++(v.drop (i+1)).flatten:=by rw[←List.flatten_append,List.take_append_drop]
   have hlen:(v.take i).flatten.length+l.length≤600:=by
    have:=congrArg List.length hvl
    rw[List.length_append,hfk,List.length_append] at this
    exact AK [_,_,_,_] [] [.nl AT A9,.ne AT (.a (.a AA v1) v3)] (.nl (.a AA v1) A9) [1,1, -1] rfl hl this
   have hbt:Aw (v.take i).flatten:=by
    intro y hy
    obtain⟨z,hz,hy⟩:=List.mem_flatten.mp hy
    exact hv z (List.mem_of_mem_take hz) y hy
   obtain⟨a0,a1⟩:=DY hbt
   obtain⟨c0,c1⟩:=DY hbl
   have hib:Builtin.Int.intBits (Al (v.take i).flatten)≤(v.take i).flatten.length:=by
    refine intBits_le_iff.mpr ?_
    have:((2:Int)^(v.take i).flatten.length)=((2^(v.take i).flatten.length:Nat):Int):=by rw[Int.natCast_pow];rfl
    rw[this] at a1
    exact ED a0 a1
   have h7:=yA ((v.take i).flatten.length:Int) (by exact AK [_] [] [] (.il k0 (.c AA)) [1] rfl)
   have hval:Builtin.bitOr (Al (v.take i).flatten*2^((l.length:Int)).toNat) (Al l)=Al (v.take (i+1)).flatten:=by
    rw[Int.toNat_natCast,Nz _ _ _ a0 c0 c1,hfk,Bf]
   have htot:((v.take i).flatten.length:Int)+(l.length:Int)=((v.take (i+1)).flatten.length:Int):=by rw[hfk,List.length_append,Int.natCast_add]
   have hun:Db (v.take (i+1))=List.replicate (AS l.length) 0:=by unfold Db;rw[htk,List.getLast?_append];rfl
   rw[Nat.zero_add] at hK hi⊢
   rcases htl with rfl|⟨ta,tb,rfl⟩
   all_goals
    refine(Ad.mk (fun h1=> ?_) (fun h1=> ?_):)
    ·refine(aI ?_ ?_:)
     ·show 1≤1000;decide
     refine(hX ⟨i,hlt,?_⟩:)
     intro h2
     have h1:(Builtin.bitAnd ((v.take i).flatten.length:Int) 7 !=0)=true:=h1
     rw[h7] at h1
     have h3:((v.take i).flatten.length:Int)%8=0:=LZ.mpr h2
     rw[h3] at h1;cases h1
    ·have h1:(Builtin.bitAnd ((v.take i).flatten.length:Int) 7 !=0)=false:=h1
     rw[h7] at h1
     have h3:((v.take i).flatten.length:Int)%8=0:=by simpa using h1
     refine(aI ?_ ?_:)
     ·exact AK [_] [] [] (.il k0 (.c AA)) [1] rfl
     refine(aI ?_ ?_:)
     ·show _≤(134217728:Int);exact AK [_,_,_] [] [.nl (.a AT v1) A9,.nl AA AT] (.il (.a (.c AA) (.c v1)) (.k 134217728)) [1,1,1] rfl hlen hib
     refine(hK _ _ ⟨rfl,?_,[("chunk",.int (Al l)),("bits",.int (l.length:Int))],?_,.inr ⟨_,_,rfl⟩⟩:)
     ·intro i' hi'
      rcases Nat.lt_or_ge i' i with h4|h4
      ·exact hi i' h4
      ·have:i'=i:=by exact nQ (AK [_,_] [] [.nt AA (.a v1 AO)] (.nl AA v1) [1,1] rfl hi') (AK [_,_] [] [.nl AA v1] (.nl AA v1) [1,1] rfl h4)
       subst this;exact LZ.mp h3
     ·rw[←hval,←htot,hun]
      kernel_rfl
 ·rintro i m C ⟨rfl,_⟩
  rfl
 ·rintro m C ⟨rfl,hi,tl,rfl,htl⟩
  have hlen:(v.map D2).length=v.length:=List.length_map ..
  rw[Nat.zero_add,hlen] at hi⊢
  rw[List.take_length]
  refine(aI ?_ ?_:)
  ·show 3≤1000;decide
  exact hQ fun⟨i,h1,h2⟩=>h2 (hi i h1)
end
section
noncomputable abbrev bF(u:Bool)(b h:List UInt8):AU:=Ky u (.bytes b) 1 true (.bytes h) [0,0] .none []
noncomputable abbrev bA(u:Bool)(b h:List UInt8)(f un:List Int):AU:=Ky u (.bytes b) 1 true (.bytes h) [0,0] (.ti f) [("_unused_bits",.ti un)]
abbrev bD(u:Bool)(hd:V)(f:List Int):AU:=Ky u (.bytes (AI f)) 0 false hd [] (.ti f) [("_unused_bits",.ti (List.replicate (AS f.length) 0))]
noncomputable abbrev x9(b h:List UInt8)(f un:List Int):AU:=[("contents",.bytes b),("_header",.bytes h),("_trailer",.bytes []),("_native",.ti f),("_unused_bits",.ti un)]
theorem Vd(P:Params)(CP:Scope→Expr→AW)(LP:Scope→Stmt→AV)(fn:AG)(hT:MG fn)(l:List Int)(hb:Aw l)(hl:l.length≤600)(h:List UInt8)(hC:∀(C:List AB) (Q:VQ) (X:XQ),C[0]? =some (.inst 387 (By false (AI l) h []))→Q (D2 l) C→fn 335 [.obj 0] [] C Q X)(Q:VQ)(X:XQ)(hQ:Q (.ti l) [.inst 387 (x9 (AI l) h l (List.replicate (AS l.length) 0))]):
  A4 (GA P CP LP fn) 100 383 [.obj 0] [] [.inst 387 (By false (AI l) h [])] Q X:=by
 refine BB (Γ':=(GF P CP LP fn 383 (fun _ _=>0))) (b:=Bo P 383) (m:=[("self",.obj 0)]) (C':=[.inst 387 (By false (AI l) h [])]) (fun R=>by kernel_rfl) ?_
 refine(hC _ _ _ ?_ ?_:)
 ·rfl
 refine(hT l _ _ _ hb hl ?_:)
 exact hQ
theorem Ve(P:Params)(CP:Scope→Expr→AW)(LP:Scope→Stmt→AV)(fn:AG)(hT:MG fn)(v:List (List Int))(hv:∀l∈v,Aw l)(hl:v.flatten.length≤600)(u:Bool)(b h:List UInt8)(hC:∀(C:List AB) (Q:VQ) (X:XQ),C[0]? =some (.inst 387 (bF u b h))→(DH v→X "ValueError" C)→(¬DH v→Q (RH v) C)→fn 335 [.obj 0] [] C Q X)(Q:VQ)(X:XQ)
  (hX:DH v→X "ValueError" [.inst 387 (bF u b h)]) (hQ:¬DH v→Q (.ti v.flatten) [.inst 387 (bA u b h v.flatten (Db v))]):
  A4 (GA P CP LP fn) 100 383 [.obj 0] [] [.inst 387 (bF u b h)] Q X:=by
 refine BB (Γ':=(GF P CP LP fn 383 (fun _ _=>0))) (b:=Bo P 383) (m:=[("self",.obj 0)]) (C':=[.inst 387 (bF u b h)]) (fun R=>by kernel_rfl) ?_
 have hbits:Aw v.flatten:=by
  intro y hy
  obtain⟨z,hz,hy⟩:=List.mem_flatten.mp hy
  exact hv z hz y hy
 cases u
 all_goals
  refine(hC _ _ _ ?_ hX ?_:)
  ·rfl
  intro hnb
  refine(hT v.flatten _ _ _ hbits hl ?_:)
  exact hQ hnb
theorem Vg(P:Params)(CP:Scope→Expr→AW)(LP:Scope→Stmt→AV)(fn:AG)(u:Bool)(b h:List UInt8)(f un:List Int)(Q:VQ)(X:XQ)(hQ:Q (.ti f) [.inst 387 (bA u b h f un)]):
  A4 (GA P CP LP fn) 100 383 [.obj 0] [] [.inst 387 (bA u b h f un)] Q X:=by
 refine BB (Γ':=(GF P CP LP fn 383 (fun _ _=>0))) (b:=Bo P 383) (m:=[("self",.obj 0)]) (C':=[.inst 387 (bA u b h f un)]) (fun R=>by kernel_rfl) ?_
 cases u
 all_goals exact hQ
theorem Vf(P:Params)(CP:Scope→Expr→AW)(LP:Scope→Stmt→AV)(fn:AG)(u:Bool)(hd:V)(f:List Int)(Q:VQ)(X:XQ)(hQ:Q (.ti f) [.inst 387 (bD u hd f)]):
  A4 (GA P CP LP fn) 100 383 [.obj 0] [] [.inst 387 (bD u hd f)] Q X:=by
 refine BB (Γ':=(GF P CP LP fn 383 (fun _ _=>0))) (b:=Bo P 383) (m:=[("self",.obj 0)]) (C':=[.inst 387 (bD u hd f)]) (fun R=>by kernel_rfl) ?_
 cases u
 all_goals exact hQ
noncomputable abbrev bS(u:Bool)(h:List UInt8)(f un:List Int):AU:=Ky u .none 1 true (.bytes h) [0,0] (.ti f) [("_unused_bits",.ti un)]
theorem Ra(n:Nat)(h:n<8):BN (Ar (n:Int)) (n:Int)=[n.toUInt8]:=by
 have:∀k:Fin 8,BN (Ar (k.val:Int)) (k.val:Int)=[k.val.toUInt8]:=by decide+kernel
 exact this ⟨n,h⟩
theorem Xy(n:Nat):(List.replicate n [(0:UInt8)]).flatten=List.replicate n 0:=by
 induction n with
 |zero=>rfl
 |succ n ih=>rw[List.replicate_succ,List.flatten_cons,ih];rfl
theorem SJ(n:Nat):(List.replicate n [(0:Int)]).flatten=List.replicate n 0:=by
 induction n with
 |zero=>rfl
 |succ n ih=>rw[List.replicate_succ,List.flatten_cons,ih];rfl
end
section
theorem SH(u:Bool)(P:Params)(CP:Scope→Expr→AW)(LP:Scope→Stmt→AV)(fn:AG)(hI:tA fn)(h:List UInt8)(f un:List Int)(hb:Aw f)(hl:f.length≤600)(Q:VQ)(X:XQ)(hQ:Q .none [.inst 387 (bD u .none f),.dead]):
  A4 (GA P CP LP fn) 100 362 [.obj 0,.ti f] [] [.inst 387 (bS u h f un)] Q X:=by
 refine BB (Γ':=(GF P CP LP fn 362 (fun _ _=>0))) (b:=Bo P 362) (m:=[("self",.obj 0),("value",.ti f)]) (C':=[.inst 387 (bS u h f un)]) (fun R=>by kernel_rfl) ?_
 have hk:AS f.length<8:=by unfold AS;exact AK [_] [] [.nt AA k8] (.nt AA k8) [1,1] rfl (Nat.mod_lt _ (by decide:8>0))
 have hfl:=Dy f
 have hf8:=Kh f
 have hpl:=D9 f
 have hgl:=Ke f hb
 have hd01:∀n∈f,0≤n∧n<10:=fun n hn=>by rcases hb n hn with rfl|rfl<;>decide
 have hsl:(BE (f.map Int.toNat)).length=f.length:=by rw[Cr,List.length_map]
 have hnat:(f.length:Int).fmod 8=((f.length%8:Nat):Int):=by rw[Int.fmod_eq_emod_of_nonneg _ (by decide)];exact(Int.natCast_emod _ 8).symm
 have hlk:f.length%8≠0→8 - (f.length:Int).fmod 8=(AS f.length:Int):=fun q=>by have:=DN q;rw[hnat];exact Ka [_,_] [] [.ne (.a v1 AA) k8] (.s k8 (.c AA)) (.c v1) [1, -1] [1,1] rfl this
 have hz0:f.length%8=0→AS f.length=0:=EG
 have hz1:f.length%8≠0→AS f.length≠0:=fun q z=>by have h1:=DN q;have h2:=Nat.mod_lt f.length (by decide:8>0);rw[z,Nat.zero_add] at h1;exact Nat.lt_irrefl _ (h1▸h2)
 have hsz:((f.length:Int)+7).fdiv 8=((BA f).length:Int):=by
  rw[Int.fdiv_eq_ediv_of_nonneg _ (by decide),hpl,hfl,Mq];exact(Int.natCast_ediv (f.length+7) 8).symm
 have hfb:Aw (Af f):=Hx hb
 have hfull:f.map Int.toNat++List.replicate (AS f.length) 0=(Af f).map Int.toNat:=by unfold Af;simp
 have hbn:((Dg ((Af f).map Int.toNat):Nat):Int)=((At (BA f):Nat):Int):=by rw[M6 _ hfb,Hr,Gr hb]
 have h01:∀n∈(Af f).map Int.toNat,n<2:=by
  intro n hn
  obtain⟨x,hx,rfl⟩:=List.mem_map.mp hn
  rcases hfb x hx with rfl|rfl<;>decide
 have hib:Builtin.Int.intBits ((At (BA f):Nat):Int)≤7200:=by
  refine intBits_le_iff.mpr (Nat.lt_of_lt_of_le (Ff (BA f)) ?_)
  rw[show(256:Nat)=2^8 from rfl,←Nat.pow_mul]
  exact Nat.pow_le_pow_right (by decide) (by exact AK [_,_,_,_,_] [] [.nl v1 A9,.nt AT k8,.ne v3 (.a v1 AT),.ne v3 (.m 8 v4),.ne AA v4] (.nl (.m 8 AA) (.k 7200)) [1,1,1,1, -1,8] rfl hl hk hfl hf8 hpl)
 have hil:Builtin.Int.intBits ((AS f.length:Nat):Int)≤7200:=by
  have:=Fj ((AS f.length:Nat):Int) (by exact AK [_] [] [] (.il k0 (.c AA)) [1] rfl) (by exact AK [_] [] [.nt AA k8] (.it (.c AA) AE) [1,1] rfl hk)
  exact AK [_] [] [.nl AA Jj] (.nl AA (.k 7200)) [1,1] rfl this
 have hlen2:((Af f).map Int.toNat).length=(Af f).length:=List.length_map ..
 have hemp:(Str.ofString "").length=0:=by decide+kernel
 cases u
 all_goals
  refine(aI ?_ ?_:)
  ·exact AK [_] [] [.nl AA A9] (.nl AA Bt) [1,1] rfl hl
  refine(aI ?_ ?_:)
  ·decide
  refine(aI hd01 ?_:)
  refine(aI ?_ ?_:)
  ·exact AK [_] [] [.nl AA A9] (.nl AA Bt) [1,1] rfl hl
  rw[hgl]
  refine(aI ?_ ?_:)
  ·exact AK [_,_] [] [.nl v1 A9,.ne AA v1] (.nl AA AE) [1,1,1] rfl hl hsl
  rw[hsl]
  refine(aI ?_ ?_:)
  ·decide
  refine(Ad.mk (fun h1=> ?_) (fun h1=> ?_):)
  ·have h1:((f.length:Int).fmod 8 !=0)=true:=h1
   have hm:f.length%8≠0:=by
    intro q
    rw[hnat,q] at h1;cases h1
   have hp:0<(BA f).length:=by rw[hpl,hfl];have h1:=DN hm;have h2:=Nat.mod_le f.length 8;exact Nat.div_pos (by exact AK [_,_,_] [] [.ne (.a v1 AT) k8,.nl AT AA] (.nl k8 (.a AA v1)) [1, -1,1] rfl h1 h2) (by decide)
   have hk0:=hz1 hm
   have hk1:=hlk hm
   refine(aI ?_ ?_:)
   ·decide
   refine(aI ?_ ?_:)
   ·exact AK [_] [_] [.ie (.s k8 AA) (.c AA)] (.il (.g A7) (.s k8 AA)) [1, -1] rfl hk1
   refine(aI ?_ ?_:)
   ·exact AK [_] [_] [.ie AA (.c AA)] (.il (.s k8 AA) A7) [1, -1] rfl hnat
   rw[hk1,IW _ hk]
   refine(aI ?_ ?_:)
   ·rw[Cr,Cr,List.length_map,List.length_replicate];exact AK [_,_] [] [.nl AA A9,.nt v1 k8] (.nl (.a AA v1) AE) [1,1,1] rfl hl hk
   rw[DG,hfull]
   refine(aI ?_ ?_:)
   ·decide
   refine(aI ?_ ?_:)
   ·decide
   rw[hsz]
   refine(Ad.mk (fun _=> ?_) (fun h2=> ?_):)
   ·walk_at "wh"
    refine hI _ _ _ _ (by exact AK [_] [] [] (.il k0 (.c AA)) [1] rfl) hil ?_
    rw[Ra _ hk]
    refine(Ad.mk (fun h3=> ?_) (fun _=> ?_):)
    ·exfalso
     have h3:(BE ((Af f).map Int.toNat)==Str.ofString "")=true:=h3
     have h4:=congrArg Str.length (eq_of_beq h3)
     rw[Cr,hlen2,hemp] at h4
     exact DF [_,_,_] [] [.ne AA (.m 8 v1),.ne AT v1,.nt k0 AT,.ne AA k0] [-1,8,8,1] rfl hf8 hpl hp h4
    ·refine Exists.intro ((Af f).map Int.toNat) ?_
     refine(aI rfl ?_:)
     walk_at "wh"
     refine aI (fun q=>by rw[q] at hlen2;simp at hlen2;exact DF [_,_,_] [] [.ne AA (.m 8 v1),.ne AT v1,.ne k0 AA,.nt k0 AT] [-1,8, -1,8] rfl hf8 hpl hlen2 hp) ?_
     refine(aI h01 ?_:)
     refine(aI ?_ ?_:)
     ·exact AK [_,_,_,_] [] [.nl v1 A9,.nt AT k8,.ne v3 (.a v1 AT),.ne AA v3] (.nl AA (.k 640)) [1,1,1,1,1] rfl hl hk hfl hlen2
     rw[hbn]
     walk_at "wh"
     refine hI _ _ _ _ (by exact AK [_] [] [] (.il k0 (.c AA)) [1] rfl) hib ?_
     have hw:=GR (BA f) hp
     refine(aI ?_ ?_:)
     ·rw[Ax];exact AK [_,_,_,_,_,_] [] [.nl v1 A9,.nt AT k8,.ne v3 (.a v1 AT),.ne v3 (.m 8 v4),.ne v5 v4,.nl AA v5] (.nl AA AE) [8,1,1,1, -1,8,8] rfl hl hk hfl hf8 hpl hw
     rw[Ax]
     refine(Ad.mk (fun h4=> ?_) (fun h4=> ?_):)
     ·refine(aI ?_ ?_:)
      ·rw[Ax];exact AK [_,_,_,_,_,_] [] [.nl v1 A9,.nt AT k8,.ne v3 (.a v1 AT),.ne v3 (.m 8 v4),.ne v5 v4,.nl AA v5] (.nl AA AE) [8,1,1,1, -1,8,8] rfl hl hk hfl hf8 hpl hw
      rw[Ax]
      refine(aI ?_ ?_:)
      ·simp
      refine(aI ?_ ?_:)
      ·exact AK [_,_] [] [.nl v1 AA] (.il (.g (.k 1048576)) (.s (.c AA) (.c v1))) [1,1] rfl hw
      refine(aI ?_ ?_:)
      ·exact AK [_,_,_,_,_,_] [] [.nl AT A9,.nt v3 k8,.ne v4 (.a AT v3),.ne v4 (.m 8 v5),.ne AA v5] (.il (.s (.c AA) (.c v1)) (.k 1048576)) [8,1,1,1, -1,8] rfl hl hk hfl hf8 hpl
      refine(aI ?_ ?_:)
      ·show 1≤16;decide
      have hsub:(((BA f).length:Int) - (Ar ((At (BA f):Nat):Int):Int)).toNat=(BA f).length - Ar ((At (BA f):Nat):Int):=by exact DM [_,_,_,_] [] [.ie (.c AA) (.s (.c AT) (.c v3)),.ne (.a v1 v3) AT] AA v1 [1,1, -1] [1, -1,1] rfl (tN (AK [_,_] [] [.nl v1 AA] (.il k0 (.s (.c AA) (.c v1))) [1,1] rfl hw)) (Ej (AK [_,_] [] [.nl AA v1] (.nl AA v1) [1,1] rfl hw))
      rw[hsub,Xy]
      refine(aI ?_ ?_:)
      ·rw[List.length_replicate,Ax];exact AK [_,_,_,_,_,_,_] [] [.nl AT A9,.nt v3 k8,.ne v4 (.a AT v3),.ne v4 (.m 8 v5),.ne v6 v5,.ne (.a AA v1) v6] (.nl (.a AA v1) Aa) [8,1,1,1, -1,8,8] rfl hl hk hfl hf8 hpl (Ej (AK [_,_] [] [.nl AA v1] (.nl AA v1) [1,1] rfl hw))
      rw[GO _ hp]
      refine(aI ?_ ?_:)
      ·simp only[List.length_cons,List.length_nil];exact AK [_,_,_,_,_] [] [.nl v1 A9,.nt AT k8,.ne v3 (.a v1 AT),.ne v3 (.m 8 v4),.ne AA v4] (.nl (.a (.a k0 AO) AA) Aa) [8,1,1,1, -1,8] rfl hl hk hfl hf8 hpl
      refine(aI ?_ ?_:)
      ·show 1≤1000;decide
      refine(aI ?_ ?_:)
      ·simp
      refine(aI ?_ ?_:)
      ·show 1≤1000;decide
      refine(aI ?_ ?_:)
      ·exact AK [_] [] [] (.il k0 (.c AA)) [1] rfl
      refine(aI ?_ ?_:)
      ·exact AK [_] [] [.nt AA k8] (.il (.c AA) A7) [1,1] rfl hk
      rw[Int.toNat_natCast,SJ]
      exact hQ
     ·have h4:((Ar ((At (BA f):Nat):Int):Int) !=((BA f).length:Int))=false:=h4
      have hw2:Ar ((At (BA f):Nat):Int)=(BA f).length:=by simp at h4;exact nQ (AK [_,_] [] [.nl AA v1] (.nl AA v1) [1,1] rfl hw) (AK [_,_] [] [.ie (.c v1) (.c AA)] (.nl AA v1) [1, -1] rfl h4)
      have hbe:BN (Ar ((At (BA f):Nat):Int)) ((At (BA f):Nat):Int)=BA f:=by
       have:=GO _ hp
       rw[hw2,Nat.sub_self] at this
       rw[hw2];simpa using this
      rw[hbe]
      refine(aI ?_ ?_:)
      ·simp only[List.length_cons,List.length_nil];exact AK [_,_,_,_,_] [] [.nl v1 A9,.nt AT k8,.ne v3 (.a v1 AT),.ne v3 (.m 8 v4),.ne AA v4] (.nl (.a (.a k0 AO) AA) Aa) [8,1,1,1, -1,8] rfl hl hk hfl hf8 hpl
      refine(aI ?_ ?_:)
      ·show 1≤1000;decide
      refine(aI ?_ ?_:)
      ·simp
      refine(aI ?_ ?_:)
      ·show 1≤1000;decide
      refine(aI ?_ ?_:)
      ·exact AK [_] [] [] (.il k0 (.c AA)) [1] rfl
      refine(aI ?_ ?_:)
      ·exact AK [_] [] [.nt AA k8] (.il (.c AA) A7) [1,1] rfl hk
      rw[Int.toNat_natCast,SJ]
      exact hQ
   ·exfalso
    have h2:((AS f.length:Int) !=0)=false:=h2
    simp at h2;exact DF [_,_] [_] [.ie AA (.c AA),.ie (.s k8 AA) (.c v1),.ne v1 k0,.nt AA k8] [1,1,1,1] rfl hnat hk1 h2 (Nat.mod_lt _ (by decide:8>0))
  ·have h1:((f.length:Int).fmod 8 !=0)=false:=h1
   have hm:f.length%8=0:=by
    rw[hnat] at h1;exact Int.ofNat.inj (xd h1)
   have hk0:=hz0 hm
   have hbb:AI f=0::BA f:=by rw[C9,hk0];rfl
   unfold bD at hQ
   rw[hbb,hk0] at hQ
   have hf0:BE (f.map Int.toNat)=BE ((Af f).map Int.toNat):=by rw[←hfull,hk0];simp
   refine(aI ?_ ?_:)
   ·decide
   refine(aI ?_ ?_:)
   ·decide
   rw[hsz]
   rw[hf0]
   by_cases hp:0<(BA f).length
   ·refine(Ad.mk (fun h3=> ?_) (fun _=> ?_):)
    ·exfalso
     have h3:(BE ((Af f).map Int.toNat)==Str.ofString "")=true:=h3
     have h4:=congrArg Str.length (eq_of_beq h3)
     rw[Cr,hlen2,hemp] at h4
     exact DF [_,_,_] [] [.ne AA (.m 8 v1),.ne AT v1,.nt k0 AT,.ne AA k0] [-1,8,8,1] rfl hf8 hpl hp h4
    ·refine Exists.intro ((Af f).map Int.toNat) ?_
     refine(aI rfl ?_:)
     walk_at "wh"
     refine aI (fun q=>by rw[q] at hlen2;simp at hlen2;exact DF [_,_,_] [] [.ne AA (.m 8 v1),.ne AT v1,.ne k0 AA,.nt k0 AT] [-1,8, -1,8] rfl hf8 hpl hlen2 hp) ?_
     refine(aI h01 ?_:)
     refine(aI ?_ ?_:)
     ·exact AK [_,_,_,_] [] [.nl v1 A9,.nt AT k8,.ne v3 (.a v1 AT),.ne AA v3] (.nl AA (.k 640)) [1,1,1,1,1] rfl hl hk hfl hlen2
     rw[hbn]
     walk_at "wh"
     refine hI _ _ _ _ (by exact AK [_] [] [] (.il k0 (.c AA)) [1] rfl) hib ?_
     have hw:=GR (BA f) hp
     refine(aI ?_ ?_:)
     ·rw[Ax];exact AK [_,_,_,_,_,_] [] [.nl v1 A9,.nt AT k8,.ne v3 (.a v1 AT),.ne v3 (.m 8 v4),.ne v5 v4,.nl AA v5] (.nl AA AE) [8,1,1,1, -1,8,8] rfl hl hk hfl hf8 hpl hw
     rw[Ax]
     refine(Ad.mk (fun h4=> ?_) (fun h4=> ?_):)
     ·refine(aI ?_ ?_:)
      ·rw[Ax];exact AK [_,_,_,_,_,_] [] [.nl v1 A9,.nt AT k8,.ne v3 (.a v1 AT),.ne v3 (.m 8 v4),.ne v5 v4,.nl AA v5] (.nl AA AE) [8,1,1,1, -1,8,8] rfl hl hk hfl hf8 hpl hw
      rw[Ax]
      refine(aI ?_ ?_:)
      ·simp
      refine(aI ?_ ?_:)
      ·exact AK [_,_] [] [.nl v1 AA] (.il (.g (.k 1048576)) (.s (.c AA) (.c v1))) [1,1] rfl hw
      refine(aI ?_ ?_:)
      ·exact AK [_,_,_,_,_,_] [] [.nl AT A9,.nt v3 k8,.ne v4 (.a AT v3),.ne v4 (.m 8 v5),.ne AA v5] (.il (.s (.c AA) (.c v1)) (.k 1048576)) [8,1,1,1, -1,8] rfl hl hk hfl hf8 hpl
      refine(aI ?_ ?_:)
      ·show 1≤16;decide
      have hsub:(((BA f).length:Int) - (Ar ((At (BA f):Nat):Int):Int)).toNat=(BA f).length - Ar ((At (BA f):Nat):Int):=by exact DM [_,_,_,_] [] [.ie (.c AA) (.s (.c AT) (.c v3)),.ne (.a v1 v3) AT] AA v1 [1,1, -1] [1, -1,1] rfl (tN (AK [_,_] [] [.nl v1 AA] (.il k0 (.s (.c AA) (.c v1))) [1,1] rfl hw)) (Ej (AK [_,_] [] [.nl AA v1] (.nl AA v1) [1,1] rfl hw))
      rw[hsub,Xy]
      refine(aI ?_ ?_:)
      ·rw[List.length_replicate,Ax];exact AK [_,_,_,_,_,_,_] [] [.nl AT A9,.nt v3 k8,.ne v4 (.a AT v3),.ne v4 (.m 8 v5),.ne v6 v5,.ne (.a AA v1) v6] (.nl (.a AA v1) Aa) [8,1,1,1, -1,8,8] rfl hl hk hfl hf8 hpl (Ej (AK [_,_] [] [.nl AA v1] (.nl AA v1) [1,1] rfl hw))
      rw[GO _ hp]
      refine(aI ?_ ?_:)
      ·simp only[List.length_cons,List.length_nil];exact AK [_,_,_,_,_] [] [.nl v1 A9,.nt AT k8,.ne v3 (.a v1 AT),.ne v3 (.m 8 v4),.ne AA v4] (.nl (.a (.a k0 AO) AA) Aa) [8,1,1,1, -1,8] rfl hl hk hfl hf8 hpl
      refine(aI ?_ ?_:)
      ·show 1≤1000;decide
      refine(aI ?_ ?_:)
      ·simp
      refine(aI ?_ ?_:)
      ·show 1≤1000;decide
      refine(aI ?_ ?_:)
      ·exact AK [] [] [] (.il k0 k0) [1] rfl
      refine(aI ?_ ?_:)
      ·exact AK [] [] [] (.il k0 A7) [1] rfl
      exact hQ
     ·have h4:((Ar ((At (BA f):Nat):Int):Int) !=((BA f).length:Int))=false:=h4
      have hw2:Ar ((At (BA f):Nat):Int)=(BA f).length:=by simp at h4;exact nQ (AK [_,_] [] [.nl AA v1] (.nl AA v1) [1,1] rfl hw) (AK [_,_] [] [.ie (.c v1) (.c AA)] (.nl AA v1) [1, -1] rfl h4)
      have hbe:BN (Ar ((At (BA f):Nat):Int)) ((At (BA f):Nat):Int)=BA f:=by
       have:=GO _ hp
       rw[hw2,Nat.sub_self] at this
       rw[hw2];simpa using this
      rw[hbe]
      refine(aI ?_ ?_:)
      ·simp only[List.length_cons,List.length_nil];exact AK [_,_,_,_,_] [] [.nl v1 A9,.nt AT k8,.ne v3 (.a v1 AT),.ne v3 (.m 8 v4),.ne AA v4] (.nl (.a (.a k0 AO) AA) Aa) [8,1,1,1, -1,8] rfl hl hk hfl hf8 hpl
      refine(aI ?_ ?_:)
      ·show 1≤1000;decide
      refine(aI ?_ ?_:)
      ·simp
      refine(aI ?_ ?_:)
      ·show 1≤1000;decide
      refine(aI ?_ ?_:)
      ·exact AK [] [] [] (.il k0 k0) [1] rfl
      refine(aI ?_ ?_:)
      ·exact AK [] [] [] (.il k0 A7) [1] rfl
      exact hQ
   ·have hf00:f=[]:=List.eq_nil_of_length_eq_zero (by rw[hpl,hfl,hk0,Nat.add_zero] at hp;have h1:=Nat.div_add_mod f.length 8;rw[Nat.eq_zero_of_not_pos hp,hm] at h1;exact h1.symm)
    subst hf00
    refine(aI (Nat.zero_le _) ?_:)
    refine(aI ?_ ?_:)
    ·decide
    refine(aI ?_ ?_:)
    ·decide
    refine(aI ?_ ?_:)
    ·simp
    refine(aI ?_ ?_:)
    ·decide
    refine(aI ?_ ?_:)
    ·decide
    refine(aI ?_ ?_:)
    ·decide
    exact hQ
end
section
abbrev K9(fn:AG)(u:Bool)(b h:List UInt8)(f un:List Int):Prop:=∀(i:Nat) (C:List AB) (Q:VQ) (X:XQ),C[i]? =some (.inst 387 (bF u b h))→Q (.ti f) (C.set i (.inst 387 (bA u b h f un)))→fn 383 [.obj i] [] C Q X
abbrev Pf(fn:AG)(u:Bool)(b h:List UInt8)(f un:List Int):Prop:=∀(i:Nat) (C:List AB) (Q:VQ) (X:XQ),C[i]? =some (.inst 387 (bA u b h f un))→Q (.ti f) C→fn 383 [.obj i] [] C Q X
abbrev PT(fn:AG)(u:Bool)(h:List UInt8)(f un:List Int):Prop:=∀(i:Nat) (C:List AB) (Q:VQ) (X:XQ),C[i]? =some (.inst 387 (bS u h f un))→Q .none (C.set i (.inst 387 (bD u .none f)))→fn 362 [.obj i,.ti f] [] C Q X
abbrev I3(fn:AG)(u:Bool)(f:List Int):Prop:=∀(i:Nat) (C:List AB) (Q:VQ) (X:XQ),C[i]? =some (.inst 387 (bD u .none f))→Q (.bytes (3::(AI f).length.toUInt8::AI f)) (C.set i (.inst 387 (bD u (.bytes [3,(AI f).length.toUInt8]) f)))→fn 118 [.obj i] [] C Q X
theorem Rd(P:Params)(CP:Scope→Expr→AW)(LP:Scope→Stmt→AV)(fn:AG)(hH:W3 fn)(u:Bool)(f:List Int)(hl:(AI f).length<128)(Q:VQ)(X:XQ)(hQ:Q (.bytes (3::(AI f).length.toUInt8::AI f)) [.inst 387 (bD u (.bytes [3,(AI f).length.toUInt8]) f)]):
  A4 (GA P CP LP fn) 100 118 [.obj 0] [] [.inst 387 (bD u .none f)] Q X:=by
 refine BB (Γ':=(GF P CP LP fn 118 (fun _ _=>0))) (b:=Bo P 118) (m:=[("self",.obj 0),("force",.bool false)]) (C':=[.inst 387 (bD u .none f)]) (fun R=>by kernel_rfl) ?_
 cases u
 all_goals
  refine(hH 3 (AI f) _ _ _ (.inl rfl) hl ?_:)
  refine(aI ?_ ?_:)
  ·simp only[List.length_cons,List.length_nil];exact AK [_] [] [.nt AA CZ] (.nl (.a (.a (.a k0 AO) AO) AA) Aa) [1,1] rfl hl
  refine(aI ?_ ?_:)
  ·simp only[List.length_append,List.length_cons,List.length_nil];exact AK [_] [] [.nt AA CZ] (.nl (.a (.a (.a (.a k0 AO) AO) AA) k0) Aa) [1,1] rfl hl
  rw[List.append_nil]
  exact hQ
theorem Q9(P:Params)(CP:Scope→Expr→AW)(LP:Scope→Stmt→AV)(fn:AG)(b:List UInt8)(f un:List Int)(hN:K9 fn false b [35,128] f un)(hS:PT fn false [35,128] f un)(hD:I3 fn false f)(Q:VQ)(X:XQ)(hQ:Q (.bytes (3::(AI f).length.toUInt8::AI f)) [.inst 387 (bD false (.bytes [3,(AI f).length.toUInt8]) f)]):
  A4 (GA P CP LP fn) 100 207 [.obj 0] [] [.inst 387 (bF false b [35,128])] Q X:=by
 refine BB (Γ':=(GF P CP LP fn 207 (fun _ _=>0))) (b:=Bo P 207) (m:=[("self",.obj 0),("force",.bool false)]) (C':=[.inst 387 (bF false b [35,128])]) (fun R=>by kernel_rfl) ?_
 refine(aI ?_ ?_:)
 ·simp only[List.length_cons,List.length_nil];exact AK [] [] [] (.nl (.a (.a k0 AO) AO) Aa) [1] rfl
 refine(hN 0 _ _ _ ?_ ?_:)
 ·rfl
 refine(hS 0 _ _ _ ?_ ?_:)
 ·rfl
 refine(hD 0 _ _ _ ?_ ?_:)
 ·rfl
 exact hQ
theorem RA(P:Params)(CP:Scope→Expr→AW)(LP:Scope→Stmt→AV)(fn:AG)(u:Bool)(b:List UInt8)(f un:List Int)(hN:Pf fn u b [35,128] f un)(hS:PT fn u [35,128] f un)(hD:I3 fn u f)(Q:VQ)(X:XQ)(hQ:Q (.bytes (3::(AI f).length.toUInt8::AI f)) [.inst 387 (bD u (.bytes [3,(AI f).length.toUInt8]) f)]):
  A4 (GA P CP LP fn) 100 207 [.obj 0] [] [.inst 387 (bA u b [35,128] f un)] Q X:=by
 refine BB (Γ':=(GF P CP LP fn 207 (fun _ _=>0))) (b:=Bo P 207) (m:=[("self",.obj 0),("force",.bool false)]) (C':=[.inst 387 (bA u b [35,128] f un)]) (fun R=>by kernel_rfl) ?_
 cases u
 all_goals
  refine(aI ?_ ?_:)
  ·simp only[List.length_cons,List.length_nil];exact AK [] [] [] (.nl (.a (.a k0 AO) AO) Aa) [1] rfl
  refine(hN 0 _ _ _ ?_ ?_:)
  ·rfl
  refine(hS 0 _ _ _ ?_ ?_:)
  ·rfl
  refine(hD 0 _ _ _ ?_ ?_:)
  ·rfl
  exact hQ
end
section
theorem Bc{C:List AB}{i:Nat}{c:AB}(h:C[i]? =some c):C.set i c=C:=by
 apply List.ext_getElem?
 intro j
 rw[List.getElem?_set]
 split
 ·rename_i e
  subst e
  split
  ·exact h.symm
  ·rename_i q;rw[List.getElem?_eq_none (by exact AK [_,_] [] [.no (.nt v1 AA)] (.nl AA v1) [1,1] rfl q)] at h;cases h
 ·rfl
noncomputable abbrev rS(i:Nat):Nat→Option Nat:=fun j=>if j=i then some 0 else none
noncomputable abbrev rB(i:Nat):Nat→Option Nat:=fun j=>if j=0 then some i else none
theorem AY{S:FS}{i:Nat}{c:AB}{ws:List V}{kvs:List (Str×V)}{C:List AB}{Q:VQ}{X:XQ}(hc:C[i]? =some c)(h1:Bp (rS i) c=some c)(h2:Be (rS i) ws=some ws)(h3:B4 (rS i) kvs=some kvs)
  (h:S (.obj 0::ws) kvs [c] (EO (some i) C Q) (Hf (some i) C X)):AL S (.obj i::ws) kvs C Q X:=by
 unfold AL
 have e:Mv (fun _=>true) (.obj i::ws++kvs.map (·.2))=some i:=rfl
 rw[e]
 have e2:Be (rS i) (.obj i::ws)=some (.obj 0::ws):=by
  unfold Be Cd
  rw[h2]
  simp[rS]
 simp only[hc,AF]
 rw[h1,e2,h3]
 exact h
theorem Ap{i:Nat}{C:List AB}{Q:VQ}{v:V}{c':AB}{J:List AB}(h1:Pr (fun j=> !(j==0)) v=none)(h2:Bp (rB i) c'=some c')(h3:Cd (rB i) v=some v)(h:Q v (C.set i c')):EO (some i) C Q v (c'::J):=by
 unfold EO
 simp only[h1]
 simp only[AF]
 rw[h2,h3]
 exact h
theorem HG{i k:Nat}{C:List AB}{Q:VQ}{c' c2:AB}{J:List AB}(hk:k≠0)(hJ:(c'::J)[k]? =some c2)(h2:∀g:Nat→Option Nat,Bp g c'=some c')(h3:∀g:Nat→Option Nat,Bp g c2=some c2)(h:Q (.obj C.length) (C.set i c'++[c2])):EO (some i) C Q (.obj k) (c'::J):=by
 unfold EO
 have e:Pr (fun j=> !(j==0)) (.obj k)=some k:=by
  unfold Pr
  have:(!(k==0))=true:=by simp[hk]
  rw[this]
 simp only[e]
 have e2:(!(k==0))=true:=by simp[hk]
 rw[e2]
 simp only[AD,AF,hJ]
 rw[h2,h3]
 have e3:Cd (fun j=>if j=0 then some i else if j=k then some C.length else none) (.obj k)=some (.obj C.length):=by
  unfold Cd
  simp[hk]
 rw[e3]
 exact h
theorem H1{i:Nat}{C:List AB}{X:XQ}{cls:String}{c':AB}{J:List AB}(h2:Bp (rB i) c'=some c')(h:X cls (C.set i c')):Hf (some i) C X cls (c'::J):=by
 unfold Hf
 simp only[AF]
 rw[h2]
 exact h
section
variable{g:Gx}{d:Nat}{P:Params}
theorem Ct{fn:AG}(f:Nat)(S:FS)(HF:BI g (KF P) d fn)(h:∀(CP:Scope→Expr→AW) (LP:Scope→Stmt→AV),XB P CP fn→Pi P CP LP fn→∀Vs Kw C Q X,S Vs Kw C Q X→A4 (GA P CP LP fn) 100 f Vs Kw C Q X):
  BI g (KF P) (d+2) (BD f (AL S) fn):=by
 have h1:Bw g (KF P) (d+2) f S:=Os (n:=100) (Γ:=GA P uh ug fn) rfl rfl rfl HF S fun CP LP hC hL Vs Kw C Q X hS=>h CP LP hC hL Vs Kw C Q X hS
 exact Co (FH h1) HF.up.up
theorem sz{fn:AG}(f:Nat)(S:FS)(HF:BI g (KF P) d fn)(h:∀(CP:Scope→Expr→AW) (LP:Scope→Stmt→AV),∀Vs Kw C Q X,S Vs Kw C Q X→A4 {GA P CP LP fn with dm:=fun _ _=>1} 100 f Vs Kw C Q X):
  BI g (KF P) (d+2) (BD f (AL S) fn):=by
 have h1:Bw g (KF P) (d+2) f S:=Os (n:=100) (Γ:={GA P uh ug fn with dm:=fun _ _=>1}) rfl rfl rfl HF S fun CP LP hC hL Vs Kw C Q X hS=>h CP LP Vs Kw C Q X hS
 exact Co (FH h1) HF.up.up
theorem G5{fn:AG}(f:Nat)(HF:BI g (KF P) d fn):Bw g (KF P) (d+2) f (Ez P fn f):=by
 have:=SY (g:=g) (d:=d) (Γ:=GA P uh ug fn) (N:=100) (a:=f) HF fun sc=>⟨Se,sM,Fy,Fy⟩
 exact this.imp fun vs kvs C Q X hS=>by rw[LJ];exact hS
end
end
section
abbrev HW:=List V→List (Str×V)→List AB→VQ→XQ→Prop
inductive Ru:HW
 |mk {n:Int} {Q:VQ} {X:XQ}:0≤n→n<256→Q (.li [n]) []→Ru [.int n,.int 256] [] [] Q X
inductive J4:HW
 |mk {t:Int} {b:List UInt8} {Q:VQ} {X:XQ}:0≤t→t<256→b.length<128→Q (.bytes (t.toNat.toUInt8::b.length.toUInt8::b)) []→J4 [.li [t],.bytes b] [] [] Q X
inductive K3:HW
 |mk {l:List Int} {Q:VQ} {X:XQ}:Aw l→l.length≤800→Q (.bytes (3::(AI l).length.toUInt8::AI l)) []→K3 [.li l] [] [] Q X
inductive uo:HW
 |mk {n:Int} {Q:VQ} {X:XQ}:0≤n→n<256→Q (.bytes [n.toNat.toUInt8]) []→uo [.int n] [] [] Q X
inductive Wn:HW
 |mk {x:Int} {Q:VQ} {X:XQ}:0≤x→Builtin.Int.intBits x≤7200→Q (.bytes (BN (Ar x) x)) []→Wn [.int x] [] [] Q X
inductive XM:HW
 |mk {b:List UInt8} {Q:VQ} {X:XQ}:b.length≤1000→Q (.int (At b)) []→XM [.bytes b] [] [] Q X
inductive Wm:HW
 |mk {t:Int} {b:List UInt8} {Q:VQ} {X:XQ}:t=3∨t=4→b.length<128→Q (.bytes [t.toNat.toUInt8,b.length.toUInt8]) []→Wm [.int 0,.int 0,.int t,.bytes b] [] [] Q X
inductive K5(k:Nat):HW
 |mk {j:Nat} {d:List UInt8} {p:Int} {pre e post:List UInt8} {dep:Int} {Q:VQ} {X:XQ}:j≤k→d=pre++(e++post)→p=(pre.length:Int)→Dj j e→d.length≤1000000→0≤dep→dep+j≤10→(∀x,Q (.ti [x,p+(e.length:Int)]) [])→K5 k [.bytes d,.int (d.length:Int),.int p] [("lengths_only",.bool true),("depth",.int dep)] [] Q X
inductive Rv:HW
 |mk {c:Nat} {m:Bool} {k:Nat} {e h b d:List UInt8} {p:Int} {pre post:List UInt8} {Q:VQ} {X:XQ}:El c m k e h b→k≤5→d=pre++(e++post)→p=(pre.length:Int)→d.length≤1000000→
   Q (.tup [.tup [.int 0,.int (mI m),.int (DU c).toNat,.bytes h,.bytes b,.bytes (FW m)],.int (p+(e.length:Int))]) []→Rv [.bytes d,.int (d.length:Int),.int p] [] [] Q X
inductive K4:HW
 |mk {l:List Int} {Q:VQ} {X:XQ}:Aw l→l.length≤600→Q (.ti l) []→K4 [.int (Al l),.int (l.length:Int)] [] [] Q X
def T1(P:Params):AG:=BD 939 (AL Ru) Qa
def T2(P:Params):AG:=BD 946 (AL J4) (T1 P)
def T3(P:Params):AG:=BD 951 (AL K3) (T2 P)
def T4(P:Params):AG:=BD 35 (AL uo) (T3 P)
def T5(P:Params):AG:=BD 50 (AL Wn) (T4 P)
def T6(P:Params):AG:=BD 58 (AL XM) (T5 P)
def T7(P:Params):AG:=BD 73 (AL Wm) (T6 P)
def TP(P:Params):Nat→AG
 |0=>BD 66 (AL (K5 0)) (T7 P)
 |k+1=>BD 66 (AL (K5 (k+1))) (TP P k)
def T8(P:Params):AG:=BD 66 (AL Rv) (TP P 5)
def T9(P:Params):AG:=BD 915 (AL K4) (T8 P)
def L7(P:Params):AG:=BD 924 (AL (Ez P (HQ P) 924)) (T9 P)
section
variable{g:Gx}{P:Params}
theorem Xb:BI g (KF P) 2 (T1 P):=Ct 939 Ru H0 fun CP LP hC hL Vs Kw C Q X h=>by
 cases h with
 |mk h0 h1 hQ=>exact WD P CP LP _ hL _ h0 h1 Q X hQ
theorem Xa:BI g (KF P) 4 (T2 P):=Ct 946 J4 Xb fun CP LP hC hL Vs Kw C Q X h=>by
 cases h with
 |mk h0 h1 h2 hQ=>exact WE P CP LP _ (fun n C Q X h0 h1 hQ=>Ru.mk h0 h1 hQ) _ _ h0 h1 h2 Q X hQ
theorem XZ:BI g (KF P) 6 (T3 P):=Ct 951 K3 Xa fun CP LP hC hL Vs Kw C Q X h=>by
 cases h with
 |mk h0 h1 hQ=>exact RZ P CP LP _ hC (fun t b C Q X h0 h1 h2 hQ=>J4.mk h0 h1 h2 hQ) _ h0 h1 Q X hQ
theorem XY:BI g (KF P) 8 (T4 P):=Ct 35 uo XZ fun CP LP hC hL Vs Kw C Q X h=>by
 cases h with
 |mk h0 h1 hQ=>exact WH P CP LP _ _ h0 h1 Q X hQ
theorem XX:BI g (KF P) 10 (T5 P):=Ct 50 Wn XY fun CP LP hC hL Vs Kw C Q X h=>by
 cases h with
 |mk h0 h1 hQ=>exact TG P CP LP _ _ h0 h1 Q X hQ
theorem XW:BI g (KF P) 12 (T6 P):=Ct 58 XM XX fun CP LP hC hL Vs Kw C Q X h=>by
 cases h with
 |mk h0 hQ=>exact Op P CP LP _ _ h0 Q X hQ
theorem XV:BI g (KF P) 14 (T7 P):=Ct 73 Wm XW fun CP LP hC hL Vs Kw C Q X h=>by
 cases h with
 |mk h0 h1 hQ=>exact Vx P CP LP _ (fun n C Q X h0 h1 hQ=>uo.mk h0 h1 hQ) _ _ h0 h1 Q X hQ
theorem yO(k j:Nat)(hj:j≤k):EL j (TP P k):=by
 intro d p pre e post dep C Q X h1 h2 h3 h4 h5 h6 hQ
 cases k with
 |zero=>exact K5.mk hj h1 h2 h3 h4 h5 h6 hQ
 |succ k=>exact K5.mk hj h1 h2 h3 h4 h5 h6 hQ
theorem SC:∀k:Nat,BI g (KF P) (16+2*k) (TP P k)
 |0=>Ct 66 (K5 0) XV fun CP LP hC hL Vs Kw C Q X h=>by
  cases h with
  |mk h0 h1 h2 h3 h4 h5 h6 hQ=>
   have:=Nat.le_zero.mp h0
   subst this
   exact Hp P CP LP _ hL 0 (fun j e=>by exact(DF [_] [] [.ne k0 (.a AA AO)] [-1] rfl e).elim) _ _ _ _ _ h2 h3 h1 h4 _ h5 h6 Q X hQ
 |k+1=>Ct 66 (K5 (k+1)) (SC k) fun CP LP hC hL Vs Kw C Q X h=>by
  cases h with
  |mk h0 h1 h2 h3 h4 h5 h6 hQ=>exact Hp P CP LP _ hL _ (fun j e=>yO k j (by exact AK [_,_,_] [] [.nl AT (.a v1 AO),.ne AT (.a AA AO)] (.nl AA v1) [1,1, -1] rfl h0 e)) _ _ _ _ _ h2 h3 h1 h4 _ h5 h6 Q X hQ
theorem XU:BI g (KF P) 28 (T8 P):=Ct 66 Rv (SC 5) fun CP LP hC hL Vs Kw C Q X h=>by
 cases h with
 |mk h0 h1 h2 h3 h4 hQ=>exact Mb P CP LP _ hL (fun j hj=>yO 5 j hj) _ _ _ _ _ _ _ _ _ _ h0 h1 h2 h3 h4 Q X hQ
theorem XT:BI g (KF P) 30 (T9 P):=Ct 915 K4 XU fun CP LP hC hL Vs Kw C Q X h=>by
 cases h with
 |mk h0 h1 hQ=>exact RX P CP LP _ hC _ h0 h1 Q X hQ
theorem XS:Bw g (KF P) 6 924 (Ez P (HQ P) 924):=by
 have a:BI g (KF P) 2 (zq P):=Co (G5 110 H0) H0
 have b:BI g (KF P) 4 (BD 903 (Ez P Qa 903) Qa):=Co ((G5 903 (d:=0) H0).up.up) H0
 exact G5 924 (Co (G5 192 a) b)
theorem Bw.ups{f:Nat}{S:FS}{d:Nat}:∀(n:Nat),Bw g (KF P) d f S→Bw g (KF P) (d+n) f S
 |0,h=>h
 |n+1,h=>(Bw.ups n h).up
theorem TZ:BI g (KF P) 32 (L7 P):=Co (FH (XS.ups 26)) XT.up.up
end
end
section
theorem Ao{f:Nat}{S:FS}{fn:AG}:BD f S fn f=S:=by
 funext vs kvs C Q X
 unfold BD
 simp
def Cu(P:Params):FS:=Ez P (HQ P) 924
theorem OY(P:Params)(b h:List UInt8)(Q:VQ)(X:XQ):Cu P [.int 0,.int 0,.int 4,.bytes h,.bytes b,.bytes [],.glob 448,.obj 0] [] [.dict []] Q X=(0≤1000000∧0≤1000000∧0≤1000000∧0≤1000000∧0≤1099511627776∧Q (.obj 1) [.dict [],.inst 448 (By false b h []),.dict []]):=by
 unfold Cu
 rw[Ea]
theorem Oc(P:Params)(b h:List UInt8)(Q:VQ)(X:XQ):Cu P [.int 0,.int 0,.int 4,.bytes h,.bytes b,.bytes [],.glob 448,.none] [] [] Q X=(0≤1099511627776∧Q (.obj 0) [.inst 448 (By false b h []),.dict []]):=by
 unfold Cu
 rw[Ee]
theorem OW(P:Params)(b h:List UInt8)(Q:VQ)(X:XQ):Cu P [.int 0,.int 1,.int 4,.bytes h,.bytes b,.bytes [0,0],.glob 448,.obj 0] [] [.dict []] Q X=(0≤1000000∧0≤1000000∧0≤1000000∧0≤1000000∧2≤1099511627776∧Q (.obj 1) [.dict [],.inst 448 (By true b h [0,0]),.dict []]):=by
 unfold Cu
 rw[EY]
theorem Oa(P:Params)(b h:List UInt8)(Q:VQ)(X:XQ):Cu P [.int 0,.int 1,.int 4,.bytes h,.bytes b,.bytes [0,0],.glob 448,.none] [] [] Q X=(2≤1099511627776∧Q (.obj 0) [.inst 448 (By true b h [0,0]),.dict []]):=by
 unfold Cu
 rw[Ec]
theorem OU(P:Params)(b h:List UInt8)(Q:VQ)(X:XQ):Cu P [.int 0,.int 1,.int 4,.bytes h,.bytes b,.bytes [0,0],.none,.obj 0] [] [.dict []] Q X=(0≤1000000∧2≤1099511627776∧Q (.obj 1) [.dict [],.inst 448 (Lw b h [0,0]),.dict [("class_",.int 0)]]):=by
 unfold Cu
 rw[EW]
theorem OZ(P:Params)(b h:List UInt8)(Q:VQ)(X:XQ):Cu P [.int 0,.int 0,.int 3,.bytes h,.bytes b,.bytes [],.glob 387,.obj 0] [] [.dict []] Q X=(0≤1000000∧0≤1000000∧0≤1000000∧0≤1000000∧0≤1099511627776∧Q (.obj 1) [.dict [],.inst 387 (By false b h []),.dict []]):=by
 unfold Cu
 rw[Eb]
theorem Od(P:Params)(b h:List UInt8)(Q:VQ)(X:XQ):Cu P [.int 0,.int 0,.int 3,.bytes h,.bytes b,.bytes [],.glob 387,.none] [] [] Q X=(0≤1099511627776∧Q (.obj 0) [.inst 387 (By false b h []),.dict []]):=by
 unfold Cu
 rw[Ef]
theorem OX(P:Params)(b h:List UInt8)(Q:VQ)(X:XQ):Cu P [.int 0,.int 1,.int 3,.bytes h,.bytes b,.bytes [0,0],.glob 387,.obj 0] [] [.dict []] Q X=(0≤1000000∧0≤1000000∧0≤1000000∧0≤1000000∧2≤1099511627776∧Q (.obj 1) [.dict [],.inst 387 (By true b h [0,0]),.dict []]):=by
 unfold Cu
 rw[EZ]
theorem Ob(P:Params)(b h:List UInt8)(Q:VQ)(X:XQ):Cu P [.int 0,.int 1,.int 3,.bytes h,.bytes b,.bytes [0,0],.glob 387,.none] [] [] Q X=(2≤1099511627776∧Q (.obj 0) [.inst 387 (By true b h [0,0]),.dict []]):=by
 unfold Cu
 rw[Ed]
theorem OV(P:Params)(b h:List UInt8)(Q:VQ)(X:XQ):Cu P [.int 0,.int 1,.int 3,.bytes h,.bytes b,.bytes [0,0],.none,.obj 0] [] [.dict []] Q X=(0≤1000000∧2≤1099511627776∧Q (.obj 1) [.dict [],.inst 387 (Lw b h [0,0]),.dict [("class_",.int 0)]]):=by
 unfold Cu
 rw[EX]
theorem ul{S:FS}{a b c:Int}{x y z:List UInt8}{k:Nat}{Q:VQ}{X:XQ}:AL S [.int a,.int b,.int c,.bytes x,.bytes y,.bytes z,.glob k,.obj 0] [] [.dict []] Q X=S [.int a,.int b,.int c,.bytes x,.bytes y,.bytes z,.glob k,.obj 0] [] [.dict []] (EO (some 0) [.dict []] Q) (Hf (some 0) [.dict []] X):=rfl
theorem zh{S:FS}{a b c:Int}{x y z:List UInt8}{Q:VQ}{X:XQ}:AL S [.int a,.int b,.int c,.bytes x,.bytes y,.bytes z,.none,.obj 0] [] [.dict []] Q X=S [.int a,.int b,.int c,.bytes x,.bytes y,.bytes z,.none,.obj 0] [] [.dict []] (EO (some 0) [.dict []] Q) (Hf (some 0) [.dict []] X):=rfl
theorem uk{S:FS}{a b c:Int}{x y z:List UInt8}{k:Nat}{Q:VQ}{X:XQ}:AL S [.int a,.int b,.int c,.bytes x,.bytes y,.bytes z,.glob k,.none] [] [] Q X=S [.int a,.int b,.int c,.bytes x,.bytes y,.bytes z,.glob k,.none] [] [] (EO none [] Q) (Hf none [] X):=rfl
theorem Iu(P:Params):L7 P 924=AL (Cu P):=by
 unfold L7 Cu
 exact Ao
theorem WA:(((DU 448).toNat:Nat):Int)=4:=rfl
theorem WB:(((DU 387).toNat:Nat):Int)=3:=rfl
theorem WL(P:Params):R5 (L7 P):=by
 intro c m b h Q X hc hQ
 rw[Iu]
 rcases hc with rfl|rfl<;>cases m<;>simp only[WA,WB,mI,FW] at hQ⊢
 ·rw[ul,OY]
  exact⟨Nat.zero_le _,Nat.zero_le _,Nat.zero_le _,Nat.zero_le _,by decide,hQ⟩
 ·rw[ul,OW]
  exact⟨Nat.zero_le _,Nat.zero_le _,Nat.zero_le _,Nat.zero_le _,by decide,hQ⟩
 ·rw[ul,OZ]
  exact⟨Nat.zero_le _,Nat.zero_le _,Nat.zero_le _,Nat.zero_le _,by decide,hQ⟩
 ·rw[ul,OX]
  exact⟨Nat.zero_le _,Nat.zero_le _,Nat.zero_le _,Nat.zero_le _,by decide,hQ⟩
theorem WM(P:Params):ME (L7 P):=by
 intro c m b h Q X hc hQ
 rw[Iu]
 rcases hc with rfl|rfl<;>cases m<;>simp only[WA,WB,mI,FW] at hQ⊢
 ·rw[uk,Oc]
  exact⟨by decide,hQ⟩
 ·rw[uk,Oa]
  exact⟨by decide,hQ⟩
 ·rw[uk,Od]
  exact⟨by decide,hQ⟩
 ·rw[uk,Ob]
  exact⟨by decide,hQ⟩
theorem WK(P:Params):R4 (L7 P):=by
 intro c b h Q X hc hQ
 rw[Iu]
 rcases hc with rfl|rfl<;>simp only[WA,WB]
 ·rw[zh,OU]
  exact⟨Nat.zero_le _,by decide,hQ⟩
 ·rw[zh,OV]
  exact⟨Nat.zero_le _,by decide,hQ⟩
end
section
def Iz(c:Nat)(m:Bool)(b h:List UInt8)(sp:V)(cell:AB):Prop:=(sp= .glob c∧cell= .inst c (By m b h (FW m)))∨(sp= .none∧m=true∧cell= .inst c (Lw b h [0,0]))
inductive GD:HW
 |n {c:Nat} {m:Bool} {k:Nat} {e h b pre post d:List UInt8} {p:Int} {Q:VQ} {X:XQ}:CW c→El c m k e h b→k≤5→d=pre++(e++post)→p=(pre.length:Int)→d.length≤1000000→Q (.tup [.obj 0,.int (p+(e.length:Int))]) [.inst c (By m b h (FW m))]→GD [.bytes d,.int p] [("spec",.glob c)] [] Q X
 |a {c:Nat} {m st:Bool} {k:Nat} {e h b post d:List UInt8} {sp:V} {cell:AB} {Q:VQ} {X:XQ}:CW c→Iz c m b h sp cell→El c m k e h b→k≤5→d=e++post→d.length≤1000000→(st=true→post≠[]→X "ValueError" [.dict []])→((st=true→post=[])→Q (.tup [.obj 1,.int (0+(e.length:Int))]) [.dict [],cell])→GD [.bytes d] [("spec",sp),("spec_params",.obj 0),("strict",.bool st)] [.dict []] Q X
inductive PV:HW
 |c {c:Nat} {m st:Bool} {k:Nat} {e h b post d:List UInt8} {Q:VQ} {X:XQ}:CW c→El c m k e h b→k≤5→d=e++post→d.length≤1000000→(st=true→post≠[]→X "ValueError" [.dict []])→((st=true→post=[])→Q (.obj 1) [.dict [],.inst c (By m b h (FW m))])→PV [.glob c,.bytes d] [("strict",.bool st)] [] Q X
 |z {c:Nat} {m:Bool} {k:Nat} {e h b post d:List UInt8} {Q:VQ} {X:XQ}:CW c→El c m k e h b→k≤5→d=e++post→d.length≤1000000→Q (.obj 1) [.dict [],.inst c (By m b h (FW m))]→PV [.glob c,.bytes d] [] [] Q X
 |u {c:Nat} {k:Nat} {e h b post d:List UInt8} {Q:VQ} {X:XQ}:CW c→El c true k e h b→k≤5→d=e++post→d.length≤1000000→Q (.obj 1) [.dict [],.inst c (Lw b h [0,0])]→PV [.glob 121,.bytes d] [("strict",.bool false)] [] Q X
inductive XL:HW
 |u {c:Nat} {k:Nat} {e h b post d:List UInt8} {Q:VQ} {X:XQ}:CW c→El c true k e h b→k≤5→d=e++post→d.length≤1000000→Q (.obj 0) [.inst c (Lw b h [0,0])]→XL [.bytes d] [] [] Q X
def Ps(P:Params):AG:=BD 932 (AL GD) (L7 P)
def Rr(P:Params):AG:=BD 99 (AL PV) (Ps P)
def IC(P:Params):AG:=BD 84 (AL XL) (Rr P)
theorem X1(m:Bool)(b h:List UInt8)(c:Nat)(g:Nat→Option Nat):Bp g (.inst c (By m b h (FW m)))=some (.inst c (By m b h (FW m))):=by cases m<;>rfl
theorem Xz(b h:List UInt8)(c:Nat)(g:Nat→Option Nat):Bp g (.inst c (Lw b h [0,0]))=some (.inst c (Lw b h [0,0])):=rfl
theorem Iz.ren{c:Nat}{m:Bool}{b h:List UInt8}{sp:V}{cell:AB}(H:Iz c m b h sp cell)(g:Nat→Option Nat):Bp g cell=some cell∧Cd g sp=some sp:=by
 rcases H with⟨rfl,rfl⟩|⟨rfl,_,rfl⟩
 ·exact⟨X1 ..,rfl⟩
 ·exact⟨Xz ..,rfl⟩
theorem Tl(P:Params){c:Nat}{m st:Bool}{k:Nat}{e h b post d:List UInt8}{sp:V}{cell:AB}(hc:CW c)(H:Iz c m b h sp cell)(E:El c m k e h b)(hk:k≤5)(hd:d=e++post)(hl:d.length≤1000000):ur (Ps P) c m st e h b post d sp cell:=by
 intro Q X hX hQ
 rcases H with⟨rfl,rfl⟩|⟨rfl,rfl,rfl⟩
 ·refine GD.a (k:=k) (m:=m) hc (.inl ⟨rfl,rfl⟩) E hk hd hl hX fun q=> ?_
  have:=hQ q
  cases m<;>exact this
 ·refine GD.a (k:=k) (m:=true) hc (.inr ⟨rfl,rfl,rfl⟩) E hk hd hl hX fun q=> ?_
  exact hQ q
section
variable{g:Gx}{P:Params}
theorem TY:BI g (KF P) 34 (Ps P):=Ct 932 GD TZ fun CP LP hC hL Vs Kw C Q X h=>by
 have hE:Iy (L7 P):=fun c m k e h b d p pre post C Q X h1 h2 h3 h4 h5 hQ=>Rv.mk h1 h2 h3 h4 h5 hQ
 cases h with
 |n h0 h1 h2 h3 h4 h5 hQ=>exact vz P CP LP _ hE (WM P) _ h0 _ _ _ _ _ _ _ _ _ h4 h3 h1 h2 h5 Q X hQ
 | @a c m st k e h b post d sp cell _ _ h0 h1 h2 h3 h4 h5 hX hQ=>
  refine v7 P CP LP _ hE c m st k e h b post d sp cell (fun Q X hq=> ?_) h4 h2 h3 h5 Q X hX hQ
  rcases h1 with⟨rfl,rfl⟩|⟨rfl,rfl,rfl⟩
  ·exact WL P _ _ _ _ _ _ h0 hq
  ·exact WK P _ _ _ _ _ h0 hq
theorem TX:BI g (KF P) 36 (Rr P):=Ct 99 PV TY fun CP LP hC hL Vs Kw C Q X h=>by
 cases h with
 |c h0 h1 h2 h3 h4 hX hQ=>exact Vk P CP LP _ _ h0 _ _ _ _ _ _ _ _ h4 (Tl P h0 (.inl ⟨rfl,rfl⟩) h1 h2 h3 h4) Q X hX hQ
 |z h0 h1 h2 h3 h4 hQ=>exact Vl P CP LP _ _ h0 _ _ _ _ _ _ _ h4 (Tl P h0 (.inl ⟨rfl,rfl⟩) h1 h2 h3 h4) Q X hQ
 |u h0 h1 h2 h3 h4 hQ=>exact Vj P CP LP _ _ true _ _ _ _ _ _ h4 (Tl P h0 (.inr ⟨rfl,rfl,rfl⟩) h1 h2 h3 h4) Q X hQ
theorem TW:BI g (KF P) 38 (IC P):=Ct 84 XL TX fun CP LP hC hL Vs Kw C Q X h=>by
 cases h with
 |u h0 h1 h2 h3 h4 hQ=>exact OQ P CP LP _ _ _ (fun Q X hq=>PV.u h0 h1 h2 h3 h4 hq) Q X hQ
end
end
section
theorem I5.ren{at_:AU}{m:Bool}{b h:List UInt8}(H:I5 at_ m b h)(g:Nat→Option Nat)(c:Nat):Bp g (.inst c at_)=some (.inst c at_):=by
 rcases H with rfl|⟨_,rfl⟩
 ·exact X1 ..
 ·exact Xz ..
theorem JI(g:Nat→Option Nat):∀v:List (List Int),Be g (v.map D2)=some (v.map D2)
 |[]=>rfl
 |l::v=>by
  rw[List.map_cons]
  unfold Be
  rw[JI g v]
  rfl
theorem LR(g:Nat→Option Nat)(v:List (List Int)):Bp g (.list (v.map D2))=some (.list (v.map D2)):=by
 show(match Be g (v.map D2) with|some l=>some (AB.list l)|none=>none)=_
 rw[JI]
inductive K6:HW
 |o {at_:AU} {m:Bool} {b h:List UInt8} {Q:VQ} {X:XQ}:I5 at_ m b h→Q (.bytes b) [.inst 448 at_]→K6 [.obj 0] [] [.inst 448 at_] Q X
inductive HR:HW
 |p {l:List Int} {h:List UInt8} {Q:VQ} {X:XQ}:Aw l→l.length≤600→Q (.obj 1) [.inst 387 (By false (AI l) h []),.list [D2 l]]→HR [.obj 0] [] [.inst 387 (By false (AI l) h [])] Q X
 |i {at_:AU} {b h:List UInt8} {Q:VQ} {X:XQ}:I5 at_ true b h→Q (.obj 1) [.inst 387 at_,.list []]→HR [.obj 0] [] [.inst 387 at_] Q X
inductive FR(n:Nat):HW
 |o {j:Nat} {at_:AU} {m:Bool} {b h v:List UInt8} {Q:VQ} {X:XQ}:(m=false∨j<n)→TC 448 Dl j m b v→I5 at_ m b h→b.length≤1000000→(∀J,Q (.bytes v) (.inst 448 at_::J))→FR n [.obj 0] [] [.inst 448 at_] Q X
 |b {j:Nat} {at_:AU} {m:Bool} {b h:List UInt8} {v:List (List Int)} {Q:VQ} {X:XQ}:(m=false∨j<n)→TC 387 Ck j m b v→I5 at_ m b h→b.length≤1000000→(∀(k:Nat) (J:List AB),k≠0→(AB.inst 387 at_::J)[k]? =some (.list (v.map D2))→Q (.obj k) (.inst 387 at_::J))→FR n [.obj 0] [] [.inst 387 at_] Q X
def tE(P:Params):AG:=BD 233 (AL K6) (IC P)
def Sk(P:Params):AG:=BD 328 (AL HR) (tE P)
def TM(P:Params):Nat→AG
 |0=>BD 226 (AL (FR 0)) (Sk P)
 |k+1=>BD 226 (AL (FR (k+1))) (TM P k)
theorem sx{fn:AG}(e:fn 233=AL K6):ub fn:=by
 intro i at_ m b h C Q X hs hc hQ
 rw[e]
 exact AY hc (hs.ren _ _) rfl rfl (K6.o hs (Ap rfl (hs.ren _ _) rfl (by rw[Bc hc];exact hQ)))
theorem Sh{fn:AG}(e:fn 328=AL HR):XE fn:=by
 intro i l h C Q X hb hl hc hQ
 rw[e]
 exact AY hc rfl rfl rfl (HR.p hb hl (HG (k:=1) (J:=[.list [D2 l]]) (by decide) rfl (fun _=>rfl) (fun g=>LR g [l]) (by rw[Bc hc];exact hQ)))
theorem WW{fn:AG}(e:fn 328=AL HR):Sz fn:=by
 intro i at_ b h C Q X hs hc hQ
 rw[e]
 exact AY hc (hs.ren _ _) rfl rfl (HR.i hs (HG (k:=1) (J:=[.list []]) (by decide) rfl (fun g=>hs.ren _ _) (fun _=>rfl) (by rw[Bc hc];exact hQ)))
theorem SN{fn:AG}(e:fn 932=AL GD):Wq fn:=by
 intro c m k el h b pre post d p C Q X hc E hk hd hp hl hQ
 rw[e]
 refine GD.n (m:=m) (k:=k) hc E hk hd hp hl ?_
 cases m<;>exact hQ
theorem KT{fn:AG}{n:Nat}(e:fn 226=AL (FR n)):Sn n fn:=by
 intro i j at_ m b h v C Q X hj hT hs hl hc hQ
 rw[e]
 exact AY hc (hs.ren _ _) rfl rfl (FR.o hj hT hs hl fun J=>Ap rfl (hs.ren _ _) rfl (by rw[Bc hc];exact hQ))
theorem OK{fn:AG}{n:Nat}(e:fn 226=AL (FR n)):So n fn:=by
 intro i j at_ m b h v C Q X hj hT hs hl hc hQ
 rw[e]
 exact AY hc (hs.ren _ _) rfl rfl (FR.b hj hT hs hl fun k J hk hJ=>HG hk hJ (fun g=>hs.ren _ _) (fun g=>LR g v) (by rw[Bc hc];exact hQ))
theorem AC{f g:Nat}{S:FS}{fn:AG}(h:(g==f)=false):BD f S fn g=fn g:=by
 funext vs kvs C Q X
 unfold BD
 rw[h]
theorem Rs(P:Params):Ps P 932=AL GD:=Ao
theorem Rq(P:Params):IC P 932=AL GD:=by
 unfold IC;rw[AC rfl];unfold Rr;rw[AC rfl];exact Rs P
theorem L4(P:Params):Sk P 932=AL GD:=by
 unfold Sk;rw[AC rfl];unfold tE;rw[AC rfl];exact Rq P
theorem L5(P:Params):Sk P 233=AL K6:=by
 unfold Sk;rw[AC rfl];unfold tE;exact Ao
theorem It(P:Params):Sk P 328=AL HR:=Ao
theorem K1(P:Params)(k:Nat):TM P k 226=AL (FR k):=by
 cases k<;>exact Ao
theorem IB(P:Params){g:Nat}(h:(g==226)=false):∀k:Nat,TM P k g=Sk P g
 |0=>AC h
 |k+1=>(AC h).trans (IB P h k)
section
variable{g:Gx}{P:Params}
theorem TU:BI g (KF P) 40 (tE P):=Ct 233 K6 TW fun CP LP hC hL Vs Kw C Q X h=>by
 cases h with
 |o h0 hQ=>exact WU P CP LP _ _ _ _ _ h0 Q X hQ
theorem V6{fn:AG}(e:fn 58=AL XM):Pm fn:=by
 intro b C Q X h hQ
 rw[e]
 exact XM.mk h hQ
theorem Kp{fn:AG}(e:fn 915=AL K4):MG fn:=by
 intro l C Q X h h1 hQ
 rw[e]
 exact K4.mk h h1 hQ
theorem We(P:Params):IC P 58=AL XM:=by
 unfold IC;rw[AC rfl];unfold Rr;rw[AC rfl];unfold Ps;rw[AC rfl];unfold L7;rw[AC rfl];unfold T9;rw[AC rfl];unfold T8;rw[AC rfl]
 unfold TP;rw[AC rfl];unfold TP;rw[AC rfl];unfold TP;rw[AC rfl];unfold TP;rw[AC rfl];unfold TP;rw[AC rfl];unfold TP;rw[AC rfl]
 unfold T7;rw[AC rfl];unfold T6;exact Ao
theorem L6(P:Params):IC P 915=AL K4:=by
 unfold IC;rw[AC rfl];unfold Rr;rw[AC rfl];unfold Ps;rw[AC rfl];unfold L7;rw[AC rfl];unfold T9;exact Ao
theorem PO(P:Params){g:Nat}(h:(g==233)=false):tE P g=IC P g:=AC h
theorem TT:BI g (KF P) 42 (Sk P):=sz 328 HR TU fun CP LP Vs Kw C Q X h=>by
 cases h with
 |p h0 h1 hQ=>exact WV P CP LP _ (V6 ((PO P rfl).trans (We P))) (Kp ((PO P rfl).trans (L6 P))) _ h0 h1 _ Q X hQ
 |i h0 hQ=>exact Rh P CP LP _ _ _ _ h0 Q X hQ
theorem LL{n:Nat}{fn:AG}(hn:n≤5)(e1:fn 932=AL GD)(e2:fn 233=AL K6)(e3:fn 328=AL HR)(e4:∀n',n=n'+1→fn 226=AL (FR n'))(CP:Scope→Expr→AW)(LP:Scope→Stmt→AV)(hL:Pi P CP LP fn)(Vs:List V)(Kw:List (Str×V))(C:List AB)(Q:VQ)(X:XQ)(h:FR n Vs Kw C Q X):A4 (GA P CP LP fn) 100 226 Vs Kw C Q X:=by
 cases h with
 |o h0 h1 h2 h3 hQ=>exact rG P CP LP fn hL (sx e2) (SN e1) n hn (fun n' q=>KT (e4 n' q)) _ _ _ _ _ _ h0 h1 h2 h3 Q X hQ
 |b h0 h1 h2 h3 hQ=>exact rH P CP LP fn hL (Sh e3) (WW e3) (SN e1) n hn (fun n' q=>OK (e4 n' q)) _ _ _ _ _ _ h0 h1 h2 h3 Q X hQ
theorem SG:∀k:Nat,k≤5→BI g (KF P) (44+2*k) (TM P k)
 |0,_=>Ct 226 (FR 0) TT fun CP LP hC hL Vs Kw C Q X h=>LL (by decide) (L4 P) (L5 P) (It P) (fun n' q=>absurd q (Nat.succ_ne_zero n').symm) CP LP hL Vs Kw C Q X h
 |k+1,hk=>Ct 226 (FR (k+1)) (SG k (by exact AK [_] [] [.nl (.a AA AO) (.k 5)] (.nl AA (.k 5)) [1,1] rfl hk)) fun CP LP hC hL Vs Kw C Q X h=>LL hk ((IB P rfl k).trans (L4 P)) ((IB P rfl k).trans (L5 P)) ((IB P rfl k).trans (It P)) (fun n' q=>by
  have:k=n':=Nat.succ.inj q
  subst this
  exact K1 P k) CP LP hL Vs Kw C Q X h
end
end
section
inductive Iv:HW
 |p {l:List Int} {h:List UInt8} {Q:VQ} {X:XQ}:Aw l→l.length≤600→Q (D2 l) [.inst 387 (By false (AI l) h []),.list [D2 l]]→Iv [.obj 0] [] [.inst 387 (By false (AI l) h [])] Q X
 |i {j:Nat} {v:List (List Int)} {at_:AU} {b h:List UInt8} {Q:VQ} {X:XQ}:(∀l∈v,Aw l)→v.flatten.length≤600→I5 at_ true b h→j<2→TC 387 Ck j true b v→b.length≤1000000→(DH v→X "ValueError" [.inst 387 at_,.list (v.map D2)])→(¬DH v→Q (RH v) [.inst 387 at_,.list (v.map D2)])→Iv [.obj 0] [] [.inst 387 at_] Q X
inductive EP:HW
 |f {j:Nat} {u:Bool} {b h v:List UInt8} {Q:VQ} {X:XQ}:j<2→TC 448 Dl j true b v→b.length≤1000000→Q (.bytes v) [.inst 448 (oA u b h v)]→EP [.obj 0] [] [.inst 448 (oF u b h)] Q X
 |a {u:Bool} {b h v:List UInt8} {Q:VQ} {X:XQ}:Q (.bytes v) [.inst 448 (oA u b h v)]→EP [.obj 0] [] [.inst 448 (oA u b h v)] Q X
 |d {u:Bool} {hd:V} {v:List UInt8} {Q:VQ} {X:XQ}:Q (.bytes v) [.inst 448 (oD u hd v)]→EP [.obj 0] [] [.inst 448 (oD u hd v)] Q X
 |p {b h:List UInt8} {Q:VQ} {X:XQ}:b.length<128→Q (.bytes b) [.inst 448 (v8 b h)]→EP [.obj 0] [] [.inst 448 (By false b h [])] Q X
inductive Dp:HW
 |p {l:List Int} {h:List UInt8} {Q:VQ} {X:XQ}:Aw l→l.length≤600→Q (.ti l) [.inst 387 (x9 (AI l) h l (List.replicate (AS l.length) 0))]→Dp [.obj 0] [] [.inst 387 (By false (AI l) h [])] Q X
 |f {j:Nat} {v:List (List Int)} {u:Bool} {b h:List UInt8} {Q:VQ} {X:XQ}:(∀l∈v,Aw l)→v.flatten.length≤600→j<2→TC 387 Ck j true b v→b.length≤1000000→(DH v→X "ValueError" [.inst 387 (bF u b h)])→(¬DH v→Q (.ti v.flatten) [.inst 387 (bA u b h v.flatten (Db v))])→Dp [.obj 0] [] [.inst 387 (bF u b h)] Q X
 |a {u:Bool} {b h:List UInt8} {f un:List Int} {Q:VQ} {X:XQ}:Q (.ti f) [.inst 387 (bA u b h f un)]→Dp [.obj 0] [] [.inst 387 (bA u b h f un)] Q X
 |d {u:Bool} {hd:V} {f:List Int} {Q:VQ} {X:XQ}:Q (.ti f) [.inst 387 (bD u hd f)]→Dp [.obj 0] [] [.inst 387 (bD u hd f)] Q X
inductive NF:HW
 |mk {u:Bool} {h v:List UInt8} {Q:VQ} {X:XQ}:Q .none [.inst 448 (oD u .none v)]→NF [.obj 0,.bytes v] [] [.inst 448 (Ky u .none 1 true (.bytes h) [0,0] .none [("_bytes",.bytes v)])] Q X
inductive NG:HW
 |mk {u:Bool} {h:List UInt8} {f un:List Int} {Q:VQ} {X:XQ}:Aw f→f.length≤600→Q .none [.inst 387 (bD u .none f),.dead]→NG [.obj 0,.ti f] [] [.inst 387 (bS u h f un)] Q X
inductive Iw:HW
 |o {u:Bool} {v:List UInt8} {Q:VQ} {X:XQ}:v.length<128→Q (.bytes (4::v.length.toUInt8::v)) [.inst 448 (oD u (.bytes [4,v.length.toUInt8]) v)]→Iw [.obj 0] [] [.inst 448 (oD u .none v)] Q X
 |b {u:Bool} {f:List Int} {Q:VQ} {X:XQ}:(AI f).length<128→Q (.bytes (3::(AI f).length.toUInt8::AI f)) [.inst 387 (bD u (.bytes [3,(AI f).length.toUInt8]) f)]→Iw [.obj 0] [] [.inst 387 (bD u .none f)] Q X
def Sj(P:Params):AG:=BD 335 (AL Iv) (TM P 2)
def Si(P:Params):AG:=BD 444 (AL EP) (Sj P)
def tD(P:Params):AG:=BD 383 (AL Dp) (Si P)
def Wc(P:Params):AG:=BD 430 (AL NF) (tD P)
def Wb(P:Params):AG:=BD 362 (AL NG) (Wc P)
def PL(P:Params):AG:=BD 118 (AL Iw) (Wb P)
theorem Nu(u:Bool)(b h:List UInt8)(g:Nat→Option Nat):Bp g (.inst 448 (oF u b h))=some (.inst 448 (oF u b h)):=by cases u<;>rfl
theorem IO(u:Bool)(b h v:List UInt8)(g:Nat→Option Nat):Bp g (.inst 448 (oA u b h v))=some (.inst 448 (oA u b h v)):=by cases u<;>rfl
theorem LO(u:Bool)(v:List UInt8)(g:Nat→Option Nat):Bp g (.inst 448 (oD u .none v))=some (.inst 448 (oD u .none v)):=by cases u<;>rfl
theorem E3(u:Bool)(x v:List UInt8)(g:Nat→Option Nat):Bp g (.inst 448 (oD u (.bytes x) v))=some (.inst 448 (oD u (.bytes x) v)):=by cases u<;>rfl
theorem Tg(u:Bool)(h v:List UInt8)(g:Nat→Option Nat):Bp g (.inst 448 (Ky u .none 1 true (.bytes h) [0,0] .none [("_bytes",.bytes v)]))=some (.inst 448 (Ky u .none 1 true (.bytes h) [0,0] .none [("_bytes",.bytes v)])):=by cases u<;>rfl
theorem Ek(u:Bool)(b h:List UInt8)(g:Nat→Option Nat):Bp g (.inst 387 (bF u b h))=some (.inst 387 (bF u b h)):=by cases u<;>rfl
theorem Gc(u:Bool)(b h:List UInt8)(f un:List Int)(g:Nat→Option Nat):Bp g (.inst 387 (bA u b h f un))=some (.inst 387 (bA u b h f un)):=by cases u<;>rfl
theorem Th(u:Bool)(h:List UInt8)(f un:List Int)(g:Nat→Option Nat):Bp g (.inst 387 (bS u h f un))=some (.inst 387 (bS u h f un)):=by cases u<;>rfl
theorem LQ(u:Bool)(f:List Int)(g:Nat→Option Nat):Bp g (.inst 387 (bD u .none f))=some (.inst 387 (bD u .none f)):=by cases u<;>rfl
theorem E4(u:Bool)(x:List UInt8)(f:List Int)(g:Nat→Option Nat):Bp g (.inst 387 (bD u (.bytes x) f))=some (.inst 387 (bD u (.bytes x) f)):=by cases u<;>rfl
theorem Wh(u:Bool)(b h:List UInt8):I5 (oF u b h) true b h:=by
 cases u
 ·exact .inl rfl
 ·exact .inr ⟨rfl,rfl⟩
theorem Wi(u:Bool)(b h:List UInt8):I5 (bF u b h) true b h:=by
 cases u
 ·exact .inl rfl
 ·exact .inr ⟨rfl,rfl⟩
section
variable{g:Gx}{P:Params}
theorem Ip(P:Params){g:Nat}(h1:(g==226)=false)(h2:(g==328)=false)(h3:(g==233)=false):TM P 2 g=IC P g:=(IB P h1 2).trans ((AC h2).trans (AC h3))
theorem Wf(P:Params):IC P 50=AL Wn:=by
 unfold IC;rw[AC rfl];unfold Rr;rw[AC rfl];unfold Ps;rw[AC rfl];unfold L7;rw[AC rfl];unfold T9;rw[AC rfl];unfold T8;rw[AC rfl]
 unfold TP;rw[AC rfl];unfold TP;rw[AC rfl];unfold TP;rw[AC rfl];unfold TP;rw[AC rfl];unfold TP;rw[AC rfl];unfold TP;rw[AC rfl]
 unfold T7;rw[AC rfl];unfold T6;rw[AC rfl];unfold T5;exact Ao
theorem Wd(P:Params):IC P 73=AL Wm:=by
 unfold IC;rw[AC rfl];unfold Rr;rw[AC rfl];unfold Ps;rw[AC rfl];unfold L7;rw[AC rfl];unfold T9;rw[AC rfl];unfold T8;rw[AC rfl]
 unfold TP;rw[AC rfl];unfold TP;rw[AC rfl];unfold TP;rw[AC rfl];unfold TP;rw[AC rfl];unfold TP;rw[AC rfl];unfold TP;rw[AC rfl]
 unfold T7;exact Ao
theorem TS:BI g (KF P) 50 (Sj P):=Ct 335 Iv (SG 2 (by decide)) fun CP LP hC hL Vs Kw C Q X h=>by
 have e3:TM P 2 328=AL HR:=(IB P rfl 2).trans (It P)
 cases h with
 |p h0 h1 hQ=>exact sF P CP LP _ (Sh e3) _ h0 h1 _ Q X hQ
 |i h0 h1 h2 h3 h4 h5 hX hQ=>exact sG P CP LP _ hL _ h0 h1 _ _ _ h2 (fun C Q X hc hq=>OK (K1 P 2) 0 _ _ true _ _ _ C Q X (.inr h3) h4 h2 h5 hc hq) Q X hX hQ
theorem TR:BI g (KF P) 52 (Si P):=Ct 444 EP TS fun CP LP hC hL Vs Kw C Q X h=>by
 have e:Sj P 226=AL (FR 2):=by unfold Sj;rw[AC rfl];exact K1 P 2
 cases h with
 |f h0 h1 h2 hQ=>exact Va P CP LP _ _ _ _ _ (fun C Q X hc hq=>KT e 0 _ _ true _ _ _ C Q X (.inr h0) h1 (Wh ..) h2 hc hq) Q X hQ
 |a hQ=>exact Vc P CP LP _ _ _ _ _ Q X hQ
 |d hQ=>exact Vb P CP LP _ _ _ _ Q X hQ
 |p h0 hQ=>exact VZ P CP LP _ _ _ (fun C Q X hc hq=>KT e 0 0 _ false _ _ _ C Q X (.inl rfl) ⟨h0,rfl⟩ (.inl rfl) (by exact AK [_] [] [.nt AA CZ] (.nl AA AE) [1,1] rfl h0) hc hq) Q X hQ
theorem L2(P:Params):Si P 915=AL K4:=by
 unfold Si;rw[AC rfl];unfold Sj;rw[AC rfl];exact(Ip P rfl rfl rfl).trans (L6 P)
theorem L3(P:Params):Si P 335=AL Iv:=by
 unfold Si;rw[AC rfl];unfold Sj;exact Ao
theorem sI{fn:AG}(e:fn 335=AL Iv)(l:List Int)(h:List UInt8)(hb:Aw l)(hl:l.length≤600)(C:List AB)(Q:VQ)(X:XQ)(hc:C[0]? =some (.inst 387 (By false (AI l) h [])))(hQ:Q (D2 l) C):fn 335 [.obj 0] [] C Q X:=by
 rw[e]
 exact AY hc rfl rfl rfl (Iv.p hb hl (Ap rfl rfl rfl (by rw[Bc hc];exact hQ)))
theorem WG{fn:AG}(e:fn 335=AL Iv){j:Nat}{v:List (List Int)}(u:Bool){b h:List UInt8}(hv:∀l∈v,Aw l)(hl:v.flatten.length≤600)(hj:j<2)(hT:TC 387 Ck j true b v)(hbl:b.length≤1000000)(C:List AB)(Q:VQ)(X:XQ)(hc:C[0]? =some (.inst 387 (bF u b h)))(hX:DH v→X "ValueError" C)(hQ:¬DH v→Q (RH v) C):fn 335 [.obj 0] [] C Q X:=by
 rw[e]
 exact AY hc (Ek ..) rfl rfl (Iv.i hv hl (Wi u b h) hj hT hbl (fun q=>H1 (Ek ..) (by rw[Bc hc];exact hX q)) (fun q=>Ap rfl (Ek ..) rfl (by rw[Bc hc];exact hQ q)))
theorem TQ:BI g (KF P) 54 (tD P):=Ct 383 Dp TR fun CP LP hC hL Vs Kw C Q X h=>by
 cases h with
 |p h0 h1 hQ=>exact Vd P CP LP _ (Kp (L2 P)) _ h0 h1 _ (fun C Q X hc hq=>sI (L3 P) _ _ h0 h1 C Q X hc hq) Q X hQ
 |f h0 h1 h2 h3 h4 hX hQ=>exact Ve P CP LP _ (Kp (L2 P)) _ h0 h1 _ _ _ (fun C Q X hc hx hq=>WG (L3 P) _ h0 h1 h2 h3 h4 C Q X hc hx hq) Q X hX hQ
 |a hQ=>exact Vg P CP LP _ _ _ _ _ _ Q X hQ
 |d hQ=>exact Vf P CP LP _ _ _ _ Q X hQ
theorem Na:Bw g (KF P) 2 430 NF:=(G5 430 H0).imp fun vs kvs C Q X h=>by
 cases h with
 | @mk u h v Q X hQ=>
  cases u
  ·rw[QD];exact hQ
  ·rw[QC];exact hQ
theorem TO:BI g (KF P) 56 (Wc P):=Co (FH (Na.ups 54)) TQ.up.up
theorem SD{fn:AG}(e:fn 50=AL Wn):tA fn:=by
 intro x C Q X h h1 hQ
 rw[e]
 exact Wn.mk h h1 hQ
theorem PN(P:Params):Wc P 50=AL Wn:=by
 unfold Wc;rw[AC rfl];unfold tD;rw[AC rfl];unfold Si;rw[AC rfl];unfold Sj;rw[AC rfl];exact(Ip P rfl rfl rfl).trans (Wf P)
theorem TN:BI g (KF P) 58 (Wb P):=Ct 362 NG TO fun CP LP hC hL Vs Kw C Q X h=>by
 cases h with
 | @mk u h f un Q X h0 h1 hQ=>
  cases u
  ·exact SH false P CP LP _ (SD (PN P)) _ _ _ h0 h1 Q X hQ
  ·exact SH true P CP LP _ (SD (PN P)) _ _ _ h0 h1 Q X hQ
theorem SX{fn:AG}(e:fn 73=AL Wm):W3 fn:=by
 intro t b C Q X h h1 hQ
 rw[e]
 exact Wm.mk h h1 hQ
theorem PM(P:Params):Wb P 73=AL Wm:=by
 unfold Wb;rw[AC rfl];unfold Wc;rw[AC rfl];unfold tD;rw[AC rfl];unfold Si;rw[AC rfl];unfold Sj;rw[AC rfl];exact(Ip P rfl rfl rfl).trans (Wd P)
theorem TL:BI g (KF P) 60 (PL P):=Ct 118 Iw TN fun CP LP hC hL Vs Kw C Q X h=>by
 cases h with
 |o h0 hQ=>exact Rc P CP LP _ (SX (PM P)) _ _ h0 Q X hQ
 |b h0 hQ=>exact Rd P CP LP _ (SX (PM P)) _ _ h0 Q X hQ
end
end
section
inductive Ev:HW
 |f {j:Nat} {b v:List UInt8} {Q:VQ} {X:XQ}:j<2→TC 448 Dl j true b v→b.length≤1000000→v.length<128→Q (.bytes (4::v.length.toUInt8::v)) [.inst 448 (oD false (.bytes [4,v.length.toUInt8]) v)]→Ev [.obj 0] [] [.inst 448 (oF false b [36,128])] Q X
 |a {u:Bool} {b v:List UInt8} {Q:VQ} {X:XQ}:v.length<128→Q (.bytes (4::v.length.toUInt8::v)) [.inst 448 (oD u (.bytes [4,v.length.toUInt8]) v)]→Ev [.obj 0] [] [.inst 448 (oA u b [36,128] v)] Q X
 |bf {j:Nat} {v:List (List Int)} {b:List UInt8} {Q:VQ} {X:XQ}:(∀l∈v,Aw l)→v.flatten.length≤600→j<2→TC 387 Ck j true b v→b.length≤1000000→¬DH v→(AI v.flatten).length<128→Q (.bytes (3::(AI v.flatten).length.toUInt8::AI v.flatten)) [.inst 387 (bD false (.bytes [3,(AI v.flatten).length.toUInt8]) v.flatten)]→Ev [.obj 0] [] [.inst 387 (bF false b [35,128])] Q X
 |ba {u:Bool} {b:List UInt8} {f un:List Int} {Q:VQ} {X:XQ}:Aw f→f.length≤600→(AI f).length<128→Q (.bytes (3::(AI f).length.toUInt8::AI f)) [.inst 387 (bD u (.bytes [3,(AI f).length.toUInt8]) f)]→Ev [.obj 0] [] [.inst 387 (bA u b [35,128] f un)] Q X
def NL(P:Params):AG:=BD 207 (AL Ev) (PL P)
theorem GQ(P:Params):PL P 118=AL Iw:=Ao
theorem Lz(P:Params):PL P 362=AL NG:=by unfold PL;rw[AC rfl];exact Ao
theorem Ly(P:Params):PL P 430=AL NF:=by unfold PL;rw[AC rfl];unfold Wb;rw[AC rfl];exact Ao
theorem Ir(P:Params):PL P 383=AL Dp:=by unfold PL;rw[AC rfl];unfold Wb;rw[AC rfl];unfold Wc;rw[AC rfl];exact Ao
theorem Iq(P:Params):PL P 444=AL EP:=by unfold PL;rw[AC rfl];unfold Wb;rw[AC rfl];unfold Wc;rw[AC rfl];unfold tD;rw[AC rfl];exact Ao
theorem La{fn:AG}(e:fn 444=AL EP){j:Nat}(u:Bool){b h v:List UInt8}(hj:j<2)(hT:TC 448 Dl j true b v)(hl:b.length≤1000000):K8 fn u b h v:=by
 intro i C Q X hc hQ
 rw[e]
 exact AY hc (Nu ..) rfl rfl (EP.f hj hT hl (Ap rfl (IO ..) rfl hQ))
theorem Qd{fn:AG}(e:fn 444=AL EP)(u:Bool)(b h v:List UInt8):Pb fn u b h v:=by
 intro i C Q X hc hQ
 rw[e]
 exact AY hc (IO ..) rfl rfl (EP.a (Ap rfl (IO ..) rfl (by rw[Bc hc];exact hQ)))
theorem Nb{fn:AG}(e:fn 430=AL NF):PS fn:=by
 intro u h v i C Q X hc hQ
 rw[e]
 exact AY hc (Tg ..) rfl rfl (NF.mk (Ap rfl (LO ..) rfl hQ))
theorem J1{fn:AG}(e:fn 118=AL Iw):I2 fn:=by
 intro u v i C Q X hl hc hQ
 rw[e]
 exact AY hc (LO ..) rfl rfl (Iw.o hl (Ap rfl (E3 ..) rfl hQ))
theorem Lb{fn:AG}(e:fn 383=AL Dp){j:Nat}(u:Bool){v:List (List Int)}{b h:List UInt8}(hv:∀l∈v,Aw l)(hl:v.flatten.length≤600)(hj:j<2)(hT:TC 387 Ck j true b v)(hb:b.length≤1000000)(hn:¬DH v):K9 fn u b h v.flatten (Db v):=by
 intro i C Q X hc hQ
 rw[e]
 exact AY hc (Ek ..) rfl rfl (Dp.f hv hl hj hT hb (fun q=>absurd q hn) fun _=>Ap rfl (Gc ..) rfl hQ)
theorem Qh{fn:AG}(e:fn 383=AL Dp)(u:Bool)(b h:List UInt8)(f un:List Int):Pf fn u b h f un:=by
 intro i C Q X hc hQ
 rw[e]
 exact AY hc (Gc ..) rfl rfl (Dp.a (Ap rfl (Gc ..) rfl (by rw[Bc hc];exact hQ)))
theorem Nc{fn:AG}(e:fn 362=AL NG)(u:Bool)(h:List UInt8)(f un:List Int)(hb:Aw f)(hl:f.length≤600):PT fn u h f un:=by
 intro i C Q X hc hQ
 rw[e]
 exact AY hc (Th ..) rfl rfl (NG.mk hb hl (Ap rfl (LQ ..) rfl hQ))
theorem J2{fn:AG}(e:fn 118=AL Iw)(u:Bool)(f:List Int)(hl:(AI f).length<128):I3 fn u f:=by
 intro i C Q X hc hQ
 rw[e]
 exact AY hc (LQ ..) rfl rfl (Iw.b hl (Ap rfl (E4 ..) rfl hQ))
theorem Fi{v:List (List Int)}(hv:∀l∈v,Aw l):Aw v.flatten:=by
 intro y hy
 obtain⟨z,hz,hy⟩:=List.mem_flatten.mp hy
 exact hv z hz y hy
section
variable{g:Gx}{P:Params}
theorem TK:BI g (KF P) 62 (NL P):=Ct 207 Ev TL fun CP LP hC hL Vs Kw C Q X h=>by
 cases h with
 |f h0 h1 h2 h3 hQ=>exact Q7 P CP LP _ false _ _ (La (Iq P) false h0 h1 h2) (Nb (Ly P)) (J1 (GQ P)) h3 Q X hQ
 |a h0 hQ=>exact Q8 P CP LP _ _ _ _ (Qd (Iq P) _ _ _ _) (Nb (Ly P)) (J1 (GQ P)) h0 Q X hQ
 |bf h0 h1 h2 h3 h4 h5 h6 hQ=>exact Q9 P CP LP _ _ _ _ (Lb (Ir P) false h0 h1 h2 h3 h4 h5) (Nc (Lz P) _ _ _ _ (Fi h0) h1) (J2 (GQ P) _ _ h6) Q X hQ
 |ba h0 h1 h2 hQ=>exact RA P CP LP _ _ _ _ _ (Qh (Ir P) _ _ _ _ _) (Nc (Lz P) _ _ _ _ h0 h1) (J2 (GQ P) _ _ h2) Q X hQ
end
end
section
theorem An{Γ:EC}{n:Nat}{s:Stmt}{r:List Stmt}{m:AU}{C:List AB}{Q:A5}(h:KB Γ n s m C (Q.sN fun m C=>Av Γ n r m C Q)):Av Γ (n+1) (s::r) m C Q:=by
 unfold Av;exact h
theorem LH{Γ:EC}{n k:Nat}{ts:List Expr}{p q:Pos}{e:Expr}{m:AU}{C:List AB}{Q:A5}:(AD (!Γ.hd&&(ts.all Az&&(Cf Γ.sc ts e).isSome))<|BV (Γ.sX fun c C=>Q.exc c m C) n e m C fun v C=>AF (IH v) fun l=>AD (l.length==ts.length) (match Cf Γ.sc ts e with
      |some r=>(match r with
       |none=>FT Γ n ts l m C Q
       |some names=>AD (names.length==ts.length&&names.all (Cz Γ))<|Q.next (EE m names.reverse l.reverse) C)
      |none=>False))=KB Γ (n+1) (.Assign [.Tuple ts k p] e q) m C Q:=by kernel_rfl
theorem LI{Γ:EC}{n:Nat}{t it:Expr}{b o:List Stmt}{p:Pos}{m:AU}{C:List AB}{Q:A5}(h:Γ.hd=false)(k:Γ.lp Γ.sc (.For t it b o p) m C Q):KB Γ (n+1) (.For t it b o p) m C Q:=by
 refine Eq.mp (by kernel_rfl:AD (!Γ.hd) (Γ.lp Γ.sc (.For t it b o p) m C Q)=KB Γ (n+1) (.For t it b o p) m C Q) ?_
 rw[h]
 exact k
theorem Dq{Γ:EC}{n k:Nat}{ts:List Expr}{p q:Pos}{e:Expr}{m:AU}{C:List AB}{Q:A5}{names:List Str}(h0:(!Γ.hd&&ts.all Az)=true)(h:Cf Γ.sc ts e=some (some names))(hn:(names.length==ts.length&&names.all (Cz Γ))=true)
  (he:BV (Γ.sX fun c C=>Q.exc c m C) n e m C fun v C=>AF (IH v) fun l=>AD (l.length==ts.length) (Q.next (EE m names.reverse l.reverse) C)):KB Γ (n+1) (.Assign [.Tuple ts k p] e q) m C Q:=by
 refine Eq.mp LH ?_
 rw[h]
 have h0:=AZ h0
 rw[h0.1,h0.2]
 dsimp only
 rw[hn]
 exact he
theorem Pz{Γ:EC}{n k:Nat}{ts:List Expr}{p q:Pos}{e:Expr}{m:AU}{C:List AB}{Q:A5}(h0:(!Γ.hd&&ts.all Az)=true)(h:Cf Γ.sc ts e=some none)
  (he:BV (Γ.sX fun c C=>Q.exc c m C) n e m C fun v C=>AF (IH v) fun l=>AD (l.length==ts.length) (FT Γ n ts l m C Q)):KB Γ (n+1) (.Assign [.Tuple ts k p] e q) m C Q:=by
 refine Eq.mp LH ?_
 rw[h]
 have h0:=AZ h0
 rw[h0.1,h0.2]
 exact he
def Cc(P:Params)(i:Nat):Stmt:=(Bo P 956).getD i default
noncomputable def SA(s:Stmt):List Expr:=match s with| .Assign [.Tuple ts _ _] _ _=>ts|_=>[]
noncomputable def eA(s:Stmt):Expr:=match s with| .Assign _ e _=>e|_=>default
noncomputable def qA(s:Stmt):Pos:=match s with| .Assign _ _ q=>q|_=>default
noncomputable def pA(s:Stmt):Pos×Nat:=match s with| .Assign [.Tuple _ k p] _ _=>(p,k)|_=>default
theorem st0(P:Params):Cc P 0= .Assign [.Tuple (SA (Cc P 0)) (pA (Cc P 0)).2 (pA (Cc P 0)).1] (eA (Cc P 0)) (qA (Cc P 0)):=by kernel_rfl
theorem uz(P:Params):Cf (Nf P 956) (SA (Cc P 0)) (eA (Cc P 0))=some (some (["mode","numbers"].map Str.ofString)):=by kernel_rfl
theorem bdr(P:Params):Bo P 956=Cc P 0::(Bo P 956).drop 1:=by kernel_rfl
theorem xi(P:Params):(Bo P 956).drop 1=Cc P 1::(Bo P 956).drop 2:=by kernel_rfl
theorem st1(P:Params):Cc P 1= .Assign [.Tuple (SA (Cc P 1)) (pA (Cc P 1)).2 (pA (Cc P 1)).1] (eA (Cc P 1)) (qA (Cc P 1)):=by kernel_rfl
theorem ux(P:Params):Cf (Nf P 956) (SA (Cc P 1)) (eA (Cc P 1))=some none:=by kernel_rfl
noncomputable def sA(l c:Nat):Nat:=if l=1212 then(if c=44 then 2 else if c=48 then 1 else 0) else 0
def GL(P:Params)(CP:Scope→Expr→AW)(LP LT:Scope→Stmt→AV)(fn:AG):EC:={GA P CP LP fn with sc:=Nf P 956,top:=true,lpT:=LT,dm:=sA}
noncomputable abbrev m1(zs:List Int):AU:=[("script",.li zs),("numbers",.li (BW zs (some 1) (some 9))),("mode",.int (zs.getD 0 0))]
noncomputable abbrev m2(zs nums:List Int)(mode:Int):AU:=[("script",.li zs),("numbers",.li nums),("mode",.int mode),("octets",.bytes []),("bits",.lst []),("parts",.obj 0),("count",.int 0),("cut",.bool ((mode.fdiv 2).fmod 4==3))]
theorem rX(P:Params)(CP:Scope→Expr→AW)(LP LT:Scope→Stmt→AV)(fn:AG)(zs:List Int)(hl:zs.length≤63)(Q:A5)(h:Av (GL P CP LP LT fn) 99 ((Bo P 956).drop 1) (m1 zs) [] Q):Av (GL P CP LP LT fn) 100 (Bo P 956) [("script",.li zs)] [] Q:=by
 rw[bdr,st0]
 refine An (Dq (by kernel_rfl) (uz P) (by kernel_rfl) ?_)
 refine aI (by exact AK [_] [] [.nl AA (.k 63)] (.nl AA AE) [1,1] rfl hl) ?_
 refine Ad.mk (fun h1=> ?_) (fun h1=> ?_)
 ·have h1:=of_decide_eq_true h1
  refine aI (by decide) ?_
  refine aI (by exact AK [_] [] [.nt k0 AA] (.it k0 (.c AA)) [1,1] rfl h1) ?_
  refine aI (by exact AK [_] [] [.nl AA (.k 63)] (.nl AA AE) [1,1] rfl hl) ?_
  refine aI (by exact AK [_] [] [.nl AA (.k 63)] (.nl AA AE) [1,1] rfl hl) ?_
  refine aI ?_ ?_
  ·show 2≤1000;decide
  exact h
 ·have h1:=of_decide_eq_false h1
  have e:zs=[]:=List.eq_nil_of_length_eq_zero (by exact nQ (AK [_] [] [.no (.nt k0 AA)] (.nl AA k0) [1,1] rfl h1) (AK [_] [] [] (.nl k0 AA) [1] rfl))
  subst e
  refine aI (by decide) ?_
  refine aI ?_ ?_
  ·show 2≤1000;decide
  exact h
theorem rW(P:Params)(CP:Scope→Expr→AW)(LP LT:Scope→Stmt→AV)(fn:AG)(zs nums:List Int)(mode:Int)(Q:A5)(h:Av (GL P CP LP LT fn) 98 ((Bo P 956).drop 2) (m2 zs nums mode) [.list []] Q):Av (GL P CP LP LT fn) 99 ((Bo P 956).drop 1) [("script",.li zs),("numbers",.li nums),("mode",.int mode)] [] Q:=by
 rw[xi,st1]
 refine An (Pz (by kernel_rfl) (ux P) ?_)
 walk_at "vi"
 exact h
theorem xh(P:Params):(Bo P 956).drop 2=Cc P 2::(Bo P 956).drop 3:=by kernel_rfl
noncomputable def zk(s:Stmt):Expr:=match s with| .For t _ _ _ _=>t|_=>default
noncomputable def zm(s:Stmt):Expr:=match s with| .For _ i _ _ _=>i|_=>default
noncomputable def xZ(s:Stmt):List Stmt:=match s with| .For _ _ b _ _=>b|_=>[]
noncomputable def zl(s:Stmt):Pos:=match s with| .For _ _ _ _ p=>p|_=>default
theorem st2(P:Params):Cc P 2= .For (zk (Cc P 2)) (zm (Cc P 2)) (xZ (Cc P 2)) [] (zl (Cc P 2)):=by kernel_rfl
noncomputable def pl(n:Int):Nat:=((n/3)%4).toNat
noncomputable def BC(n:Int):List UInt8:=(List.range (pl n)).map fun(k:Nat)=>(((n+(k:Int))%256).toNat).toUInt8
noncomputable def IP(p:List UInt8):List Int:=p.flatMap fun o=>(List.range 8).map fun(k:Nat)=>Builtin.bitAnd ((o.toNat:Int).fdiv (2^(7 - k))) 1
section
variable(nums:List Int)(cut odd:Bool)
noncomputable def Fw(j:Nat):Int:=nums.getD j 0
noncomputable def Vi(j:Nat):Bool:=(((j:Int)+1)==(nums.length:Int))||(cut&&(Fw nums j%5==1))
noncomputable def own(j:Nat):List Int:=IP (BC (Fw nums j))++(if Vi nums cut j then[1,0,1].take ((Fw nums j/7)%4).toNat else[])
def Cq(j:Nat):List (List Int):=if Fw nums j%3=0 then[(own nums cut j).take 8,(own nums cut j).drop 8] else[own nums cut j]
noncomputable abbrev Do(b:List UInt8):List UInt8:=4::b.length.toUInt8::b
abbrev DP(l:List Int):List UInt8:=3::(AI l).length.toUInt8::AI l
noncomputable def Ci(j:Nat):List UInt8:=if odd then(if Fw nums j%3=0 then[35,128]++DP ((own nums cut j).take 8)++DP ((own nums cut j).drop 8)++[0,0] else DP (own nums cut j))
 else if Fw nums j%3=0 then[36,128]++Do ((BC (Fw nums j)).take 1)++Do ((BC (Fw nums j)).drop 1)++[0,0] else Do (BC (Fw nums j))
noncomputable def Cj(i:Nat):List UInt8:=(List.range i).flatMap fun j=>BC (Fw nums j)
noncomputable def Bu(i:Nat):List (List Int):=(List.range i).flatMap fun j=>Cq nums cut j
def Bd(i:Nat):List (List UInt8):=(List.range i).map fun j=>Ci nums cut odd j
end
noncomputable abbrev mL(zs nums:List Int)(mode:Int)(cut:Bool)(i:Nat):AU:=[("script",.li zs),("numbers",.li nums),("mode",.int mode),("octets",.bytes (Cj nums i)),("bits",.lst ((Bu nums cut i).map V.li)),("parts",.obj 0),("count",.int (i:Int)),("cut",.bool cut)]
def Wg(m' m:AU):Prop:=∀p∈m',AP m p.1=some p.2
noncomputable def uc(Q:A5):A5:={Q with next:=fun m C=>∃m',Wg m' m∧Q.next m' C}
abbrev L8(P:Params)(CP:Scope→Expr→AW)(LP LT:Scope→Stmt→AV)(fn:AG):Prop:=∀st m C Q,Eh {GA P CP LP fn with dm:=sA,lp:=fun _ _ _ _ _=>False} 100 (Nf P 956) st m C (uc Q)→LP (Nf P 956) st m C Q
noncomputable abbrev mR(nums:List Int)(mode:Int)(cut:Bool)(i:Nat):AU:=[("mode",.int mode),("octets",.bytes (Cj nums i)),("bits",.lst ((Bu nums cut i).map V.li)),("parts",.obj 0)]
theorem F4{keep:List AB→Prop}{elt:V→List V→List AB→(List V→List AB→Prop)→Prop}{C:List AB}{Q:List V→List AB→Prop}(n N:Nat)(f:Nat→V)(acc:List V)(hk:keep C)(hs:∀i,i<n→∀acc K,acc.length≤N→K (acc++[f i]) C→elt (.int i) acc C K)(hN:acc.length+n≤N)(hQ:Q (acc++(List.range n).map f) C):
  AF (G2 C (.rng 0 (n:Int) 1)) fun items=>C8 keep elt items acc C Q:=by
 show C8 keep elt ((Ni 0 (n:Int) 1).map V.int) acc C Q
 have e:((List.range n).map fun i:Nat=>V.int (i:Int)).flatMap (fun v=>match v with| .int i=>[f i.toNat]|_=>[])=(List.range n).map f:=by
  rw[List.flatMap_map,List.map_eq_flatMap]
  congr 1
 have e2:((V.int∘fun i:Nat=>(i:Int)))=fun i:Nat=>V.int (i:Int):=rfl
 rw[JF,List.map_map,e2]
 refine Ce (f:=fun v=>match v with| .int i=>[f i.toNat]|_=>[]) N hk _ acc Q ?_ ?_ ?_
 ·intro i hi acc K ha hK
  obtain⟨j,hj,rfl⟩:=List.mem_map.mp hi
  exact hs j (List.mem_range.mp hj) acc K ha hK
 ·rw[e];simpa using hN
 ·rw[e];exact hQ
noncomputable def Tm:V→List V
 | .int o=>(List.range 8).map fun(k:Nat)=>V.int (Builtin.bitAnd (o.fdiv (2^(7 - k))) 1)
 |_=>[]
theorem EA(p:List UInt8):(p.map fun c=>V.int ((c.toNat:Nat):Int)).flatMap Tm=(IP p).map V.int:=by
 rw[List.flatMap_map]
 unfold IP
 rw[List.map_flatMap]
 congr 1
theorem Du(p:List UInt8):(IP p).length=8*p.length:=by
 unfold IP
 induction p with
 |nil=>rfl
 |cons x p ih=>rw[List.flatMap_cons,List.length_append,ih,List.length_map,List.length_range,List.length_cons];exact Sa [_] [] (.a k8 (.m 8 AA)) (.m 8 (.a AA AO)) rfl
theorem BS(n:Int):(BC n).length=pl n:=by unfold BC;simp
end
section
def GB(P:Params)(CP:Scope→Expr→AW)(LP:Scope→Stmt→AV)(fn:AG):EC:={GA P CP LP fn with dm:=sA,lp:=fun _ _ _ _ _=>False,sc:=Nf P 956}
abbrev bR(P:Params)(k:Nat):List Stmt:=(xZ (Cc P 2)).drop k
theorem bR4(P:Params):bR P 4=(bR P 4).headD default::bR P 5:=by kernel_rfl
theorem x7(P:Params):(bR P 4).headD default= .Assign [.Tuple (SA ((bR P 4).headD default)) (pA ((bR P 4).headD default)).2 (pA ((bR P 4).headD default)).1] (eA ((bR P 4).headD default)) (qA ((bR P 4).headD default)):=by kernel_rfl
theorem x8(P:Params):Cf (Nf P 956) (SA ((bR P 4).headD default)) (eA ((bR P 4).headD default))=some (some (["octets","one","two"].map Str.ofString)):=by kernel_rfl
noncomputable abbrev mB(zs nums:List Int)(mode:Int)(oc:List UInt8)(bs:List V)(c:Int)(cut:Bool)(n:Int)(p:List UInt8)(ow:List Int)(tl:AU):AU:=("script",.li zs)::("numbers",.li nums)::("mode",.int mode)::("octets",.bytes oc)::("bits",.lst bs)::("parts",.obj 0)::("count",.int c)::("cut",.bool cut)::("number",.int n)::("piece",.bytes p)::("own",.li ow)::tl
abbrev xV(tl:AU):Prop:=tl=[]∨∃d e,tl=([("two",d),("one",e)]:AU)
theorem FL{α:Type}(p:List α)(k:Nat):BW p none (some (k:Int))=p.take k:=by
 unfold BW
 show(p.drop 0).take (clipAt p.length (k:Int) - 0)=_
 have e:clipAt p.length (k:Int)=min k p.length:=Cp _ _
 rw[e,List.drop_zero,Nat.sub_zero,Nat.min_comm]
 rcases Nat.le_total k p.length with h|h
 ·rw[Nat.min_eq_right h]
 ·rw[Nat.min_eq_left h,List.take_of_length_le (Nat.le_refl _),List.take_of_length_le h]
theorem HK{α:Type}(p:List α)(k:Nat):BW p (some (k:Int)) none=p.drop k:=by
 unfold BW
 show(p.drop (clipAt p.length (k:Int))).take (p.length - clipAt p.length (k:Int))=_
 have e:clipAt p.length (k:Int)=min k p.length:=Cp _ _
 rw[e]
 rcases Nat.le_total k p.length with h|h
 ·rw[Nat.min_eq_left h,List.take_of_length_le (by rw[List.length_drop];exact Nat.le_refl _)]
 ·rw[Nat.min_eq_right h,List.drop_of_length_le (Nat.le_refl _),List.drop_of_length_le h,List.take_nil]
theorem PA(P:Params)(CP:Scope→Expr→AW)(LP:Scope→Stmt→AV)(fn:AG)(zs nums:List Int)(mode:Int)(oc:List UInt8)(bs ps:List V)(c:Int)(cut:Bool)(n:Int)(p:List UInt8)(ow:List Int)(tl:AU)(ht:xV tl)(ho:oc.length≤1000)(hp:p.length≤10)(Q:A5)
  (h:Av (GB P CP LP fn) 95 (bR P 5) (mB zs nums mode (oc++p) bs c cut n p ow [("two",.bytes (p.drop 1)),("one",.bytes (p.take 1))]) [.list ps] Q):Av (GB P CP LP fn) 96 (bR P 4) (mB zs nums mode oc bs c cut n p ow tl) [.list ps] Q:=by
 rw[bR4,x7]
 refine An (Dq (by kernel_rfl) (x8 P) (by kernel_rfl) ?_)
 refine(aI ?_ ?_:)
 ·exact AK [_,_] [] [.nl AA A7,.nl v1 Fg] (.nl (.a AA v1) Aa) [1,1,1] rfl ho hp
 refine(aI ?_ ?_:)
 ·exact AK [_] [] [.nl AA Fg] (.nl AA Aa) [1,1] rfl hp
 refine(aI ?_ ?_:)
 ·exact AK [_] [] [.nl AA Fg] (.nl AA Aa) [1,1] rfl hp
 refine(aI ?_ ?_:)
 ·show 3≤1000;decide
 have e1:BW p none (some 1)=p.take 1:=FL p 1
 have e2:BW p (some 1) none=p.drop 1:=HK p 1
 rw[e1,e2]
 rcases ht with rfl|⟨d,e,rfl⟩
 ·exact h
 ·exact h
theorem bR5(P:Params):bR P 5=(bR P 5).headD default::bR P 6:=by kernel_rfl
theorem O9(P:Params)(CP:Scope→Expr→AW)(LP:Scope→Stmt→AV)(fn:AG)(zs nums:List Int)(mode:Int)(oc:List UInt8)(bs ps:List V)(c:Int)(cut:Bool)(n:Int)(p:List UInt8)(ow:List Int)(tl:AU)(hb:bs.length≤1000)(ho:ow.length≤1000)(Q:A5)
  (h:Av (GB P CP LP fn) 94 (bR P 6) (mB zs nums mode oc (bs++(if n%3=0 then[ow.take 8,ow.drop 8] else[ow]).map V.li) c cut n p ow tl) [.list ps] Q):Av (GB P CP LP fn) 95 (bR P 5) (mB zs nums mode oc bs c cut n p ow tl) [.list ps] Q:=by
 rw[bR5]
 refine An ?_
 have e1:BW ow none (some 8)=ow.take 8:=FL ow 8
 have e2:BW ow (some 8) none=ow.drop 8:=HK ow 8
 have e3:n.fmod 3=n%3:=Int.fmod_eq_emod_of_nonneg _ (by decide)
 refine(aI ?_ ?_:)
 ·decide
 rw[e3]
 refine(Ad.mk (fun h1=> ?_) (fun h1=> ?_):)
 ·have h1:(n%3==0)=true:=h1
  rw[if_pos (by simpa using h1)] at h
  refine(aI ?_ ?_:)
  ·exact AK [_] [] [.nl AA A7] (.nl AA AE) [1,1] rfl ho
  refine(aI ?_ ?_:)
  ·exact AK [_] [] [.nl AA A7] (.nl AA AE) [1,1] rfl ho
  refine(aI ?_ ?_:)
  ·show 2≤1000;decide
  rw[e1,e2]
  refine(aI ?_ ?_:)
  ·show bs.length+2≤1000000;exact AK [_] [] [.nl AA A7] (.nl (.a AA J9) AE) [1,1] rfl hb
  exact h
 ·have h1:(n%3==0)=false:=h1
  rw[if_neg (by simpa using h1)] at h
  refine(aI ?_ ?_:)
  ·show 1≤1000;decide
  refine(aI ?_ ?_:)
  ·show bs.length+1≤1000000;exact AK [_] [] [.nl AA A7] (.nl (.a AA AO) AE) [1,1] rfl hb
  exact h
theorem bR6(P:Params):bR P 6=(bR P 6).headD default::[]:=by kernel_rfl
abbrev MF(fn:AG):Prop:=∀(l:List Int) (C:List AB) (Q:VQ) (X:XQ),Aw l→l.length≤800→Q (.bytes (DP l)) C→fn 951 [.li l] [] C Q X
def Gg(odd:Bool)(n:Int)(p:List UInt8)(ow:List Int):List UInt8:=if odd then(if n%3=0 then[35,128]++DP (ow.take 8)++DP (ow.drop 8)++[0,0] else DP ow)
 else if n%3=0 then[36,128]++Do (p.take 1)++Do (p.drop 1)++[0,0] else Do p
theorem O8(P:Params)(CP:Scope→Expr→AW)(LP:Scope→Stmt→AV)(fn:AG)(hB:MF fn)(hD:Pp fn)(zs nums:List Int)(mode:Int)(oc:List UInt8)(bs ps:List V)(c:Int)(cut:Bool)(n:Int)(p:List UInt8)(ow:List Int)(hps:ps.length≤1000)(hp:p.length≤10)(ho:ow.length≤100)(hob:Aw ow)(odd:Bool)(hodd:(mode.fmod 2==1)=odd)(Q:A5)
  (h:Q.next (mB zs nums mode oc bs c cut n p ow [("two",.bytes (p.drop 1)),("one",.bytes (p.take 1))]) [.list (ps++[.bytes (Gg odd n p ow)])]):Av (GB P CP LP fn) 94 (bR P 6) (mB zs nums mode oc bs c cut n p ow [("two",.bytes (p.drop 1)),("one",.bytes (p.take 1))]) [.list ps] Q:=by
 rw[bR6]
 refine An ?_
 have e1:BW ow none (some 8)=ow.take 8:=FL ow 8
 have e2:BW ow (some 8) none=ow.drop 8:=HK ow 8
 have e3:n.fmod 3=n%3:=Int.fmod_eq_emod_of_nonneg _ (by decide)
 have hbl:∀l:List Int,l.length≤100→(AI l).length≤20:=by
  intro l hl
  rw[C9,List.length_cons,D9,Dy]
  unfold AS;exact AK [_,_,_,_] [] [.nl v1 DO,.ne (.a (.m 8 AA) AT) (.a v1 v3),.nt v3 k8] (.nl (.a AA AO) Jj) [8,1,1,1] rfl hl (Nat.div_add_mod _ 8) (Nat.mod_lt _ (by decide:8>0))
 refine(aI ?_ ?_:)
 ·decide
 refine(Ad.mk (fun h1=> ?_) (fun h1=> ?_):)
 ·have h1:(mode.fmod 2==1)=true:=h1
  have ho1:odd=true:=by rw[←hodd];exact h1
  subst ho1
  refine(aI ?_ ?_:)
  ·decide
  rw[e3]
  refine(Ad.mk (fun h2=> ?_) (fun h2=> ?_):)
  ·have h2:(n%3==0)=true:=h2
   unfold Gg at h
   rw[if_pos rfl,if_pos (by simpa using h2)] at h
   have l1:=hbl (ow.take 8) (by rw[List.length_take];exact AK [_] [] [.nl AA k8] (.nl AA DO) [1,1] rfl (Nat.min_le_left _ _))
   have l2:=hbl (ow.drop 8) (by rw[List.length_drop];exact AK [_,_] [] [.nl v1 DO,.nl AA v1] (.nl AA DO) [1,1,1] rfl ho (Nat.sub_le _ _))
   refine(aI ?_ ?_:)
   ·show 2≤1000;decide
   refine(aI ?_ ?_:)
   ·decide
   refine(aI ?_ ?_:)
   ·show 2≤1000000;decide
   refine(aI ?_ ?_:)
   ·exact AK [_] [] [.nl AA DO] (.nl AA AE) [1,1] rfl ho
   rw[e1]
   walk_at "wh"
   refine hB _ _ _ _ (hob.take 8) (by rw[List.length_take];exact AK [_] [] [.nl AA k8] (.nl AA (.k 800)) [1,1] rfl (Nat.min_le_left _ _)) ?_
   refine(aI ?_ ?_:)
   ·simp only[List.length_map,List.length_cons,List.length_nil];exact AK [_] [] [.nl AA Jj] (.nl (.a (.a (.a k0 AO) AO) (.a (.a AA AO) AO)) Aa) [1,1] rfl l1
   refine(aI ?_ ?_:)
   ·exact AK [_] [] [.nl AA DO] (.nl AA AE) [1,1] rfl ho
   rw[e2]
   walk_at "wh"
   refine hB _ _ _ _ (hob.drop 8) (by rw[List.length_drop];exact AK [_,_] [] [.nl v1 DO,.nl AA v1] (.nl AA (.k 800)) [1,1,1] rfl ho (Nat.sub_le _ _)) ?_
   refine(aI ?_ ?_:)
   ·simp only[List.length_append,List.length_map,List.length_cons,List.length_nil];exact AK [_,_] [] [.nl AA Jj,.nl v1 Jj] (.nl (.a (.a (.a (.a k0 AO) AO) (.a (.a AA AO) AO)) (.a (.a v1 AO) AO)) Aa) [1,1,1] rfl l1 l2
   refine(aI ?_ ?_:)
   ·show 2≤1000;decide
   refine(aI ?_ ?_:)
   ·decide
   refine(aI ?_ ?_:)
   ·show 2≤1000000;decide
   refine(aI ?_ ?_:)
   ·simp only[List.length_append,List.length_map,List.length_cons,List.length_nil];exact AK [_,_] [] [.nl AA Jj,.nl v1 Jj] (.nl (.a (.a (.a (.a (.a k0 AO) AO) (.a (.a AA AO) AO)) (.a (.a v1 AO) AO)) (.a (.a k0 AO) AO)) Aa) [1,1,1] rfl l1 l2
   refine(aI ?_ ?_:)
   ·exact AK [_] [] [.nl AA A7] (.nl AA AE) [1,1] rfl hps
   exact h
  ·have h2:(n%3==0)=false:=h2
   walk_at "wh"
   refine hB ow _ _ _ hob (by exact AK [_] [] [.nl AA DO] (.nl AA (.k 800)) [1,1] rfl ho) ?_
   refine(aI ?_ ?_:)
   ·exact AK [_] [] [.nl AA A7] (.nl AA AE) [1,1] rfl hps
   unfold Gg at h
   rw[if_pos rfl,if_neg (by simpa using h2)] at h
   exact h
 ·have h1:(mode.fmod 2==1)=false:=h1
  have ho1:odd=false:=by rw[←hodd];exact h1
  subst ho1
  refine(aI ?_ ?_:)
  ·decide
  rw[e3]
  refine(Ad.mk (fun h2=> ?_) (fun h2=> ?_):)
  ·have h2:(n%3==0)=true:=h2
   unfold Gg at h
   rw[if_neg (by decide),if_pos (by simpa using h2)] at h
   have l1:(p.take 1).length≤10:=by rw[List.length_take];exact AK [_] [] [.nl AA AO] (.nl AA Fg) [1,1] rfl (Nat.min_le_left _ _)
   have l2:(p.drop 1).length≤10:=by rw[List.length_drop];exact AK [_,_] [] [.nl v1 Fg,.nl AA v1] (.nl AA Fg) [1,1,1] rfl hp (Nat.sub_le _ _)
   refine(aI ?_ ?_:)
   ·show 2≤1000;decide
   refine(aI ?_ ?_:)
   ·decide
   refine(aI ?_ ?_:)
   ·show 2≤1000000;decide
   refine(aI ?_ ?_:)
   ·show 1≤1000;decide
   walk_at "wh"
   refine hD 4 _ _ _ _ (by decide) (by decide) (by exact AK [_] [] [.nl AA Fg] (.nt AA CZ) [1,1] rfl l1) ?_
   refine(aI ?_ ?_:)
   ·simp only[List.length_map,List.length_cons,List.length_nil];exact AK [_] [] [.nl AA Fg] (.nl (.a (.a (.a k0 AO) AO) (.a (.a AA AO) AO)) Aa) [1,1] rfl l1
   refine(aI ?_ ?_:)
   ·show 1≤1000;decide
   walk_at "wh"
   refine hD 4 _ _ _ _ (by decide) (by decide) (by exact AK [_] [] [.nl AA Fg] (.nt AA CZ) [1,1] rfl l2) ?_
   refine(aI ?_ ?_:)
   ·simp only[List.length_append,List.length_map,List.length_cons,List.length_nil];exact AK [_,_] [] [.nl AA Fg,.nl v1 Fg] (.nl (.a (.a (.a (.a k0 AO) AO) (.a (.a AA AO) AO)) (.a (.a v1 AO) AO)) Aa) [1,1,1] rfl l1 l2
   refine(aI ?_ ?_:)
   ·show 2≤1000;decide
   refine(aI ?_ ?_:)
   ·decide
   refine(aI ?_ ?_:)
   ·show 2≤1000000;decide
   refine(aI ?_ ?_:)
   ·simp only[List.length_append,List.length_map,List.length_cons,List.length_nil];exact AK [_,_] [] [.nl AA Fg,.nl v1 Fg] (.nl (.a (.a (.a (.a (.a k0 AO) AO) (.a (.a AA AO) AO)) (.a (.a v1 AO) AO)) (.a (.a k0 AO) AO)) Aa) [1,1,1] rfl l1 l2
   refine(aI ?_ ?_:)
   ·exact AK [_] [] [.nl AA A7] (.nl AA AE) [1,1] rfl hps
   exact h
  ·have h2:(n%3==0)=false:=h2
   unfold Gg at h
   rw[if_neg (by decide),if_neg (by simpa using h2)] at h
   refine(aI ?_ ?_:)
   ·show 1≤1000;decide
   walk_at "wh"
   refine hD 4 _ _ _ _ (by decide) (by decide) (by exact AK [_] [] [.nl AA Fg] (.nt AA CZ) [1,1] rfl hp) ?_
   refine(aI ?_ ?_:)
   ·exact AK [_] [] [.nl AA A7] (.nl AA AE) [1,1] rfl hps
   exact h
theorem bR3(P:Params):bR P 3=(bR P 3).headD default::bR P 4:=by kernel_rfl
theorem PB(P:Params)(CP:Scope→Expr→AW)(LP:Scope→Stmt→AV)(fn:AG)(zs nums:List Int)(mode:Int)(oc:List UInt8)(bs ps:List V)(c:Int)(cut:Bool)(n:Int)(p:List UInt8)(ow:List Int)(tl:AU)(hn:nums.length≤8)(ho:ow.length≤50)(Q:A5)
  (h:Av (GB P CP LP fn) 96 (bR P 4) (mB zs nums mode oc bs c cut n p (ow++(if((c==(nums.length:Int))||(cut&&(n%5==1))) then[1,0,1].take ((n/7)%4).toNat else[])) tl) [.list ps] Q):Av (GB P CP LP fn) 97 (bR P 3) (mB zs nums mode oc bs c cut n p ow tl) [.list ps] Q:=by
 rw[bR3]
 refine An ?_
 have e5:n.fmod 5=n%5:=Int.fmod_eq_emod_of_nonneg _ (by decide)
 have e7:(n.fdiv 7).fmod 4=(((n/7)%4).toNat:Int):=by
  rw[Int.fdiv_eq_ediv_of_nonneg _ (by decide),Int.fmod_eq_emod_of_nonneg _ (by decide)];exact Ka [_] [_] [.ie (.c AA) AA] AA (.c AA) [1, -1] [1,1] rfl (tN (AK [] [_] [.il k0 AA] (.il k0 AA) [1,1] rfl (Int.emod_nonneg _ (by decide:(4:Int)≠0))))
 have hslice:BW [(1:Int),0,1] none (some ((n.fdiv 7).fmod 4))=[1,0,1].take ((n/7)%4).toNat:=by rw[e7];exact FL _ _
 have hlen:([(1:Int),0,1].take ((n/7)%4).toNat).length≤3:=by rw[List.length_take];exact Nat.min_le_right ..
 refine(aI ?_ ?_:)
 ·exact AK [_] [] [.nl AA k8] (.nl AA AE) [1,1] rfl hn
 refine(Ad.mk (fun h1=> ?_) (fun h1=> ?_):)
 ·have h1:(c==(nums.length:Int))=true:=h1
  rw[h1,Bool.true_or,if_pos rfl] at h
  refine(aI ?_ ?_:)
  ·show 3≤1000;decide
  refine(aI ?_ ?_:)
  ·decide
  refine(aI ?_ ?_:)
  ·decide
  refine(aI ?_ ?_:)
  ·decide
  refine(aI ?_ ?_:)
  ·show 3≤1000000;decide
  rw[hslice]
  refine(aI ?_ ?_:)
  ·exact AK [_,_] [] [.nl AA (.k 50),.nl v1 (.k 3)] (.nl (.a AA v1) AE) [1,1,1] rfl ho hlen
  exact h
 ·have h1:(c==(nums.length:Int))=false:=h1
  rw[h1,Bool.false_or] at h
  refine(Ad.mk (fun h2=> ?_) (fun h2=> ?_):)
  ·have h2:cut=true:=h2
   subst h2
   rw[Bool.true_and] at h
   refine(aI ?_ ?_:)
   ·decide
   rw[e5]
   refine(Ad.mk (fun h3=> ?_) (fun h3=> ?_):)
   ·have h3:(n%5==1)=true:=h3
    rw[h3,if_pos rfl] at h
    refine(aI ?_ ?_:)
    ·show 3≤1000;decide
    refine(aI ?_ ?_:)
    ·decide
    refine(aI ?_ ?_:)
    ·decide
    refine(aI ?_ ?_:)
    ·decide
    refine(aI ?_ ?_:)
    ·show 3≤1000000;decide
    rw[hslice]
    refine(aI ?_ ?_:)
    ·exact AK [_,_] [] [.nl AA (.k 50),.nl v1 (.k 3)] (.nl (.a AA v1) AE) [1,1,1] rfl ho hlen
    exact h
   ·have h3:(n%5==1)=false:=h3
    rw[h3,if_neg (by decide),List.append_nil] at h
    exact h
  ·have h2:cut=false:=h2
   subst h2
   rw[Bool.false_and,if_neg (by decide),List.append_nil] at h
   exact h
end
section
theorem Gl(nums:List Int)(i:Nat):Cj nums (i+1)=Cj nums i++BC (Fw nums i):=by
 unfold Cj;rw[List.range_succ,List.flatMap_append];simp
theorem Eu(nums:List Int)(cut:Bool)(i:Nat):Bu nums cut (i+1)=Bu nums cut i++Cq nums cut i:=by
 unfold Bu;rw[List.range_succ,List.flatMap_append];simp
theorem Fs(nums:List Int)(cut odd:Bool)(i:Nat):Bd nums cut odd (i+1)=Bd nums cut odd i++[Ci nums cut odd i]:=by
 unfold Bd;rw[List.range_succ,List.map_append];simp
theorem JN(n:Int):pl n<4:=by exact(Int.toNat_lt (Int.emod_nonneg _ (by decide))).mpr (Int.emod_lt_of_pos _ (by decide))
theorem EB(nums:List Int):∀i,(Cj nums i).length≤3*i
 |0=>by unfold Cj;simp
 |i+1=>by
  have:=EB nums i
  have h2:=JN (Fw nums i)
  rw[Gl,List.length_append,BS];exact AK [_,_,_] [] [.nl AA (.m 3 AT),.nt v1 k4] (.nl (.a AA v1) (.m 3 (.a AT AO))) [1,1,1] rfl this h2
theorem Kr(nums:List Int)(cut:Bool)(j:Nat):(Cq nums cut j).length≤2:=by
 unfold Cq;split<;>simp
theorem EJ(nums:List Int)(cut:Bool):∀i,(Bu nums cut i).length≤2*i
 |0=>by unfold Bu;simp
 |i+1=>by
  have:=EJ nums cut i
  have h2:=Kr nums cut i
  rw[Eu,List.length_append];exact AK [_,_,_] [] [.nl AA (.m 2 AT),.nl v1 J9] (.nl (.a AA v1) (.m 2 (.a AT AO))) [1,1,1] rfl this h2
theorem Gf(nums:List Int)(cut odd:Bool)(i:Nat):(Bd nums cut odd i).length=i:=by unfold Bd;simp
theorem DV(nums:List Int)(cut:Bool)(j:Nat):(own nums cut j).length≤27:=by
 have h2:=JN (Fw nums j)
 unfold own
 rw[List.length_append,Du,BS]
 have:(if Vi nums cut j then[(1:Int),0,1].take ((Fw nums j/7)%4).toNat else[]).length≤3:=by
  split
  ·rw[List.length_take];exact Nat.min_le_right ..
  ·simp
 exact AK [_,_] [] [.nt AA k4,.nl v1 (.k 3)] (.nl (.a (.m 8 AA) v1) Ll) [1,8,1] rfl h2 this
theorem E8(nums:List Int)(cut:Bool)(j:Nat):Aw (own nums cut j):=by
 intro b hb
 unfold own at hb
 rcases List.mem_append.mp hb with q|q
 ·unfold IP at q
  obtain⟨o,_,q⟩:=List.mem_flatMap.mp q
  obtain⟨k,_,rfl⟩:=List.mem_map.mp q
  have h0:0≤((o.toNat:Nat):Int).fdiv (2^(7 - k)):=Int.fdiv_nonneg (by exact AK [_] [] [] (.il k0 (.c AA)) [1] rfl) (by have:=Dt (7 - k);exact AK [] [_] [.it k0 AA] (.il k0 AA) [1,1] rfl this)
  rw[sy _ h0];exact Int.emod_two_eq _
 ·split at q
  ·have:=List.mem_of_mem_take q
   simp at this;exact this.elim (fun q=> .inr q) id
  ·cases q
theorem ST(P:Params)(CP:Scope→Expr→AW)(LP LT:Scope→Stmt→AV)(fn:AG)(hCP:XB P CP fn)(hB:MF fn)(hD:Pp fn)(hLP:L8 P CP LP LT fn)(zs nums:List Int)(hn:nums.length≤8)(mode:Int)(cut:Bool)(hcut:((mode.fdiv 2).fmod 4==3)=cut)(odd:Bool)(hodd:(mode.fmod 2==1)=odd)(Q:A5)
  (h:Av (GL P CP LP LT fn) 97 ((Bo P 956).drop 3) (mR nums mode cut nums.length) [.list ((Bd nums cut odd nums.length).map V.bytes)] Q):Av (GL P CP LP LT fn) 98 ((Bo P 956).drop 2) (m2 zs nums mode) [.list []] Q:=by
 rw[xh]
 refine An ?_
 rw[st2]
 refine LI rfl ?_
 refine(hLP _ _ _ _ ?_:)
 refine(aI trivial ?_:)
 refine G7 (fun i m C=>i≤nums.length∧C=[.list ((Bd nums cut odd i).map V.bytes)]∧∃tl:AU,m=mL zs nums mode cut i++tl∧(tl=[]∨∃a b c d e,tl=([("number",a),("piece",b),("own",c),("two",d),("one",e)]:AU))) _ 0 _ _ _ ?_ ?_ ?_ ?_
 ·refine⟨Nat.zero_le _,rfl,[],?_,.inl rfl⟩
  show m2 zs nums mode=mL zs nums mode cut 0++[]
  rw[←hcut];rfl
 ·intro i x m C K hx hI hK
  obtain⟨hi,rfl,tl,rfl,ht⟩:=hI
  rw[Nat.zero_add] at hi hK⊢
  rw[List.getElem?_map] at hx
  cases hvi:nums[i]? with
  |none=>rw[hvi] at hx;cases hx
  |some n=>
   rw[hvi] at hx
   have hx:V.int n=x:=by simpa using hx
   subst hx
   have hnth:Fw nums i=n:=by unfold Fw;rw[List.getD_eq_getElem?_getD,hvi];rfl
   have hpl:(n.fdiv 3).fmod 4=(pl n:Int):=by
    rw[Int.fdiv_eq_ediv_of_nonneg _ (by decide),Int.fmod_eq_emod_of_nonneg _ (by decide)];unfold pl;exact Ka [_] [_] [.ie (.c AA) AA] AA (.c AA) [1, -1] [1,1] rfl (tN (AK [] [_] [.il k0 AA] (.il k0 AA) [1,1] rfl (Int.emod_nonneg _ (by decide:(4:Int)≠0))))
   have hpl4:=JN n
   have hpm:((List.range (pl n)).map fun(k:Nat)=>V.int ((n+(k:Int))%256))=((List.range (pl n)).map fun(k:Nat)=>(n+(k:Int))%256).map V.int:=by rw[List.map_map];rfl
   have hpb:∀x∈((List.range (pl n)).map fun(k:Nat)=>(n+(k:Int))%256),0≤x∧x<256:=by
    intro x hx
    obtain⟨k,_,rfl⟩:=List.mem_map.mp hx
    exact⟨AK [] [_] [.il k0 AA] (.il k0 AA) [1,1] rfl (Int.emod_nonneg _ (by decide:(256:Int)≠0)),AK [] [_] [.it AA (.k 256)] (.it AA (.k 256)) [1,1] rfl (Int.emod_lt_of_pos _ (by decide:(0:Int)<256))⟩
   have hpp:(((List.range (pl n)).map fun(k:Nat)=>(n+(k:Int))%256).map fun x=>x.toNat.toUInt8)=BC n:=by unfold BC;rw[List.map_map];rfl
   have hlt:i<nums.length:=by
    rcases Nat.lt_or_ge i nums.length with h1|h1
    ·exact h1
    ·rw[List.getElem?_eq_none h1] at hvi;cases hvi
   have how:IP (BC n)++(if(((i:Int)+1==(nums.length:Int))||(cut&&(n%5==1))) then[1,0,1].take ((n/7)%4).toNat else[])=own nums cut i:=by
    unfold own Vi;rw[hnth]
   have hfin:K (mB zs nums mode (Cj nums i++BC n) ((Bu nums cut i).map V.li++(if n%3=0 then[(own nums cut i).take 8,(own nums cut i).drop 8] else[own nums cut i]).map V.li) ((i:Int)+1) cut n (BC n) (own nums cut i) [("two",.bytes ((BC n).drop 1)),("one",.bytes ((BC n).take 1))]) [.list ((Bd nums cut odd i).map V.bytes++[.bytes (Gg odd n (BC n) (own nums cut i))])]:=by
    refine(hK _ _ ⟨hlt,?_,[("number",.int n),("piece",.bytes (BC n)),("own",.li (own nums cut i)),("two",.bytes ((BC n).drop 1)),("one",.bytes ((BC n).take 1))],?_,.inr ⟨_,_,_,_,_,rfl⟩⟩:)
    ·rw[Fs,List.map_append]
     unfold Ci Gg
     rw[hnth];rfl
    ·rw[←List.map_append]
     have e1:Cj nums i++BC n=Cj nums (i+1):=by rw[Gl,hnth]
     have e2:Bu nums cut i++(if n%3=0 then[(own nums cut i).take 8,(own nums cut i).drop 8] else[own nums cut i])=Bu nums cut (i+1):=by rw[Eu];unfold Cq;rw[hnth]
     rw[e1,e2]
     rfl
   rcases ht with rfl|⟨a,b,c,d,e,rfl⟩
   ·refine(hCP _ _ _ _ _ ?_:)
    refine(aI ?_ ?_:)
    ·decide
    refine(aI ?_ ?_:)
    ·decide
    refine(aI ?_ ?_:)
    ·decide
    rw[hpl]
    walk_at "wh"
    refine aI (B3 _ (by exact AK [_] [] [.nt AA k4] (.nl AA AE) [1,1] rfl hpl4)) ?_
    refine CI _ (fun k=>V.int ((n+(k:Int))%256)) trivial ?_ ?_
    ·intro k hk acc K ha hK
     refine(aI ?_ ?_:)
     ·exact AK [_,_] [] [.nt v1 k4,.nl AA v1] (.nl AA Bt) [1,1,1] rfl hpl4 ha
     refine(aI ?_ ?_:)
     ·decide
     rw[Int.fmod_eq_emod_of_nonneg _ (by decide)]
     exact hK
    rw[hpm,CU]
    refine(aI hpb ?_:)
    refine(aI ?_ ?_:)
    ·rw[List.length_map,List.length_range];exact AK [_] [] [.nt AA k4] (.nl AA AE) [1,1] rfl hpl4
    rw[hpp]
    refine(hCP _ _ _ _ _ ?_:)
    refine(aI trivial ?_:)
    refine Ce (f:=Tm) 100 trivial _ [] _ ?_ ?_ ?_
    ·intro x hx acc K ha hK
     obtain⟨o,ho,rfl⟩:=List.mem_map.mp hx
     walk_at "wh"
     refine aI (B3 8 (by decide)) ?_
     refine F4 8 200 (fun k=>V.int (Builtin.bitAnd (((o.toNat:Nat):Int).fdiv (2^(7 - k))) 1)) acc trivial ?_ (by exact AK [_] [] [.nl AA DO] (.nl (.a AA k8) (.k 200)) [1,1] rfl ha) hK
     intro k hk acc K ha hK
     refine(aI ?_ ?_:)
     ·exact AK [_] [] [.nl AA (.k 200)] (.nl AA Bt) [1,1] rfl ha
     refine(aI ?_ ?_:)
     ·exact AK [_] [] [.nt AA k8] (.il k0 (.s k7 (.c AA))) [1,1] rfl hk
     have e7:(7 - (k:Int)).toNat=7 - k:=by exact DM [_,_,_] [] [.ie (.c AA) (.s k7 (.c AT)),.ne (.a v1 AT) k7] AA v1 [1,1, -1] [1, -1,1] rfl (tN (AK [_] [] [.nt AA k8] (.il k0 (.s k7 (.c AA))) [1,1] rfl hk)) (Ej (AK [_] [] [.nt AA k8] (.nl AA k7) [1,1] rfl hk))
     rw[e7]
     exact hK
    ·rw[EA,List.length_map,Du,BS]
     show 0+_≤_
     exact AK [_] [] [.nt AA k4] (.nl (.a k0 (.m 8 AA)) DO) [1,8] rfl hpl4
    rw[List.nil_append,EA,CU]
    refine PB P CP LP fn zs nums mode (Cj nums i) ((Bu nums cut i).map V.li) ((Bd nums cut odd i).map V.bytes) ((i:Int)+1) cut n (BC n) (IP (BC n)) [] hn (by rw[Du,BS];exact AK [_] [] [.nt AA k4] (.nl (.m 8 AA) (.k 50)) [1,8] rfl hpl4) _ ?_
    refine PA P CP LP fn zs nums mode _ _ _ _ cut n (BC n) _ [] (.inl rfl) ?_ ?_ _ ?_
    ·have:=EB nums i;exact AK [_,_,_] [] [.nl v1 k8,.nl AT v1,.nl AA (.m 3 AT)] (.nl AA A7) [1,3,3,1] rfl hn hi this
    ·rw[BS];exact AK [_] [] [.nt AA k4] (.nl AA Fg) [1,1] rfl hpl4
    rw[how]
    refine O9 P CP LP fn zs nums mode _ _ _ _ cut n (BC n) (own nums cut i) _ ?_ ?_ _ ?_
    ·rw[List.length_map];have:=EJ nums cut i;exact AK [_,_,_] [] [.nl v1 k8,.nl AT v1,.nl AA (.m 2 AT)] (.nl AA A7) [1,2,2,1] rfl hn hi this
    ·have:=DV nums cut i;exact AK [_] [] [.nl AA Ll] (.nl AA A7) [1,1] rfl this
    refine O8 P CP LP fn hB hD zs nums mode _ _ _ _ cut n (BC n) (own nums cut i) ?_ ?_ ?_ (E8 nums cut i) odd hodd _ ?_
    ·rw[List.length_map,Gf];exact AK [_,_] [] [.nl v1 k8,.nl AA v1] (.nl AA A7) [1,1,1] rfl hn hi
    ·rw[BS];exact AK [_] [] [.nt AA k4] (.nl AA Fg) [1,1] rfl hpl4
    ·have:=DV nums cut i;exact AK [_] [] [.nl AA Ll] (.nl AA DO) [1,1] rfl this
    exact hfin
   ·refine(hCP _ _ _ _ _ ?_:)
    refine(aI ?_ ?_:)
    ·decide
    refine(aI ?_ ?_:)
    ·decide
    refine(aI ?_ ?_:)
    ·decide
    rw[hpl]
    walk_at "wh"
    refine aI (B3 _ (by exact AK [_] [] [.nt AA k4] (.nl AA AE) [1,1] rfl hpl4)) ?_
    refine CI _ (fun k=>V.int ((n+(k:Int))%256)) trivial ?_ ?_
    ·intro k hk acc K ha hK
     refine(aI ?_ ?_:)
     ·exact AK [_,_] [] [.nt v1 k4,.nl AA v1] (.nl AA Bt) [1,1,1] rfl hpl4 ha
     refine(aI ?_ ?_:)
     ·decide
     rw[Int.fmod_eq_emod_of_nonneg _ (by decide)]
     exact hK
    rw[hpm,CU]
    refine(aI hpb ?_:)
    refine(aI ?_ ?_:)
    ·rw[List.length_map,List.length_range];exact AK [_] [] [.nt AA k4] (.nl AA AE) [1,1] rfl hpl4
    rw[hpp]
    refine(hCP _ _ _ _ _ ?_:)
    refine(aI trivial ?_:)
    refine Ce (f:=Tm) 100 trivial _ [] _ ?_ ?_ ?_
    ·intro x hx acc K ha hK
     obtain⟨o,ho,rfl⟩:=List.mem_map.mp hx
     walk_at "wh"
     refine aI (B3 8 (by decide)) ?_
     refine F4 8 200 (fun k=>V.int (Builtin.bitAnd (((o.toNat:Nat):Int).fdiv (2^(7 - k))) 1)) acc trivial ?_ (by exact AK [_] [] [.nl AA DO] (.nl (.a AA k8) (.k 200)) [1,1] rfl ha) hK
     intro k hk acc K ha hK
     refine(aI ?_ ?_:)
     ·exact AK [_] [] [.nl AA (.k 200)] (.nl AA Bt) [1,1] rfl ha
     refine(aI ?_ ?_:)
     ·exact AK [_] [] [.nt AA k8] (.il k0 (.s k7 (.c AA))) [1,1] rfl hk
     have e7:(7 - (k:Int)).toNat=7 - k:=by exact DM [_,_,_] [] [.ie (.c AA) (.s k7 (.c AT)),.ne (.a v1 AT) k7] AA v1 [1,1, -1] [1, -1,1] rfl (tN (AK [_] [] [.nt AA k8] (.il k0 (.s k7 (.c AA))) [1,1] rfl hk)) (Ej (AK [_] [] [.nt AA k8] (.nl AA k7) [1,1] rfl hk))
     rw[e7]
     exact hK
    ·rw[EA,List.length_map,Du,BS]
     show 0+_≤_
     exact AK [_] [] [.nt AA k4] (.nl (.a k0 (.m 8 AA)) DO) [1,8] rfl hpl4
    rw[List.nil_append,EA,CU]
    refine PB P CP LP fn zs nums mode (Cj nums i) ((Bu nums cut i).map V.li) ((Bd nums cut odd i).map V.bytes) ((i:Int)+1) cut n (BC n) (IP (BC n)) [("two",d),("one",e)] hn (by rw[Du,BS];exact AK [_] [] [.nt AA k4] (.nl (.m 8 AA) (.k 50)) [1,8] rfl hpl4) _ ?_
    refine PA P CP LP fn zs nums mode _ _ _ _ cut n (BC n) _ [("two",d),("one",e)] (.inr ⟨_,_,rfl⟩) ?_ ?_ _ ?_
    ·have:=EB nums i;exact AK [_,_,_] [] [.nl v1 k8,.nl AT v1,.nl AA (.m 3 AT)] (.nl AA A7) [1,3,3,1] rfl hn hi this
    ·rw[BS];exact AK [_] [] [.nt AA k4] (.nl AA Fg) [1,1] rfl hpl4
    rw[how]
    refine O9 P CP LP fn zs nums mode _ _ _ _ cut n (BC n) (own nums cut i) _ ?_ ?_ _ ?_
    ·rw[List.length_map];have:=EJ nums cut i;exact AK [_,_,_] [] [.nl v1 k8,.nl AT v1,.nl AA (.m 2 AT)] (.nl AA A7) [1,2,2,1] rfl hn hi this
    ·have:=DV nums cut i;exact AK [_] [] [.nl AA Ll] (.nl AA A7) [1,1] rfl this
    refine O8 P CP LP fn hB hD zs nums mode _ _ _ _ cut n (BC n) (own nums cut i) ?_ ?_ ?_ (E8 nums cut i) odd hodd _ ?_
    ·rw[List.length_map,Gf];exact AK [_,_] [] [.nl v1 k8,.nl AA v1] (.nl AA A7) [1,1,1] rfl hn hi
    ·rw[BS];exact AK [_] [] [.nt AA k4] (.nl AA Fg) [1,1] rfl hpl4
    ·have:=DV nums cut i;exact AK [_] [] [.nl AA Ll] (.nl AA DO) [1,1] rfl this
    exact hfin
 ·rintro i m C _;exact trivial
 ·rintro m C ⟨_,rfl,tl,rfl,ht⟩
  refine⟨mR nums mode cut (0+(nums.map V.int).length),?_,?_⟩
  ·intro p hp
   simp only[List.mem_cons,List.not_mem_nil,or_false] at hp
   rcases hp with rfl|rfl|rfl|rfl<;>rfl
  ·rw[Nat.zero_add,List.length_map]
   exact h
end
section
abbrev HV(fn:AG):Prop:=∀(c:Nat) (m st:Bool) (k:Nat) (el h b post d:List UInt8) (C:List AB) (Q:VQ) (X:XQ),CW c→El c m k el h b→k≤5→d=el++post→d.length≤1000000→(st=true→post≠[]→X "ValueError" C)→((st=true→post=[])→Q (.obj C.length) (C++[.inst c (By m b h (FW m))]))→fn 99 [.glob c,.bytes d] [("strict",.bool st)] C Q X
theorem Qs{fn:AG}(e:fn 99=AL PV):HV fn:=by
 intro c m st k el h b post d C Q X hc E hk hd hl hX hQ
 rw[e]
 refine PV.c hc E hk hd hl hX fun q=> ?_
 have:=hQ q
 cases m<;>exact this
abbrev LA(fn:AG):Prop:=∀(c:Nat) (m:Bool) (k:Nat) (el h b post d:List UInt8) (C:List AB) (Q:VQ) (X:XQ),CW c→El c m k el h b→k≤5→d=el++post→d.length≤1000000→Q (.obj C.length) (C++[.inst c (By m b h (FW m))])→fn 99 [.glob c,.bytes d] [] C Q X
theorem Qq{fn:AG}(e:fn 99=AL PV):LA fn:=by
 intro c m k el h b post d C Q X hc E hk hd hl hQ
 rw[e]
 refine PV.z hc E hk hd hl ?_
 cases m<;>exact hQ
abbrev LB(fn:AG):Prop:=∀(c k:Nat) (el h b post d:List UInt8) (C:List AB) (Q:VQ) (X:XQ),CW c→El c true k el h b→k≤5→d=el++post→d.length≤1000000→Q (.obj C.length) (C++[.inst c (Lw b h [0,0])])→fn 84 [.bytes d] [] C Q X
theorem Qr{fn:AG}(e:fn 84=AL XL):LB fn:=by
 intro c k el h b post d C Q X hc E hk hd hl hQ
 rw[e]
 exact XL.u hc E hk hd hl hQ
abbrev Pa(fn:AG):Prop:=∀(u:Bool) (x v:List UInt8) (i:Nat) (C:List AB) (Q:VQ) (X:XQ),C[i]? =some (.inst 448 (oD u (.bytes x) v))→Q (.bytes v) C→fn 444 [.obj i] [] C Q X
theorem Qc{fn:AG}(e:fn 444=AL EP):Pa fn:=by
 intro u x v i C Q X hc hQ
 rw[e]
 exact AY hc (E3 ..) rfl rfl (EP.d (Ap rfl (E3 ..) rfl (by rw[Bc hc];exact hQ)))
abbrev PZ(fn:AG):Prop:=∀(b h:List UInt8) (i:Nat) (C:List AB) (Q:VQ) (X:XQ),b.length<128→C[i]? =some (.inst 448 (By false b h []))→Q (.bytes b) (C.set i (.inst 448 (v8 b h)))→fn 444 [.obj i] [] C Q X
theorem Qb{fn:AG}(e:fn 444=AL EP):PZ fn:=by
 intro b h i C Q X hb hc hQ
 rw[e]
 exact AY hc rfl rfl rfl (EP.p hb (Ap rfl rfl rfl hQ))
abbrev MA(fn:AG)(b v:List UInt8):Prop:=∀(i:Nat) (C:List AB) (Q:VQ) (X:XQ),C[i]? =some (.inst 448 (oF false b [36,128]))→Q (.bytes (Do v)) (C.set i (.inst 448 (oD false (.bytes [4,v.length.toUInt8]) v)))→fn 207 [.obj i] [] C Q X
theorem Ov{fn:AG}(e:fn 207=AL Ev){j:Nat}{b v:List UInt8}(hj:j<2)(hT:TC 448 Dl j true b v)(hl:b.length≤1000000)(hv:v.length<128):MA fn b v:=by
 intro i C Q X hc hQ
 rw[e]
 exact AY hc (Nu ..) rfl rfl (Ev.f hj hT hl hv (Ap rfl (E3 ..) rfl hQ))
abbrev MB(fn:AG)(u:Bool)(b v:List UInt8):Prop:=∀(i:Nat) (C:List AB) (Q:VQ) (X:XQ),C[i]? =some (.inst 448 (oA u b [36,128] v))→Q (.bytes (Do v)) (C.set i (.inst 448 (oD u (.bytes [4,v.length.toUInt8]) v)))→fn 207 [.obj i] [] C Q X
theorem Ow{fn:AG}(e:fn 207=AL Ev)(u:Bool)(b v:List UInt8)(hv:v.length<128):MB fn u b v:=by
 intro i C Q X hc hQ
 rw[e]
 exact AY hc (IO ..) rfl rfl (Ev.a hv (Ap rfl (E3 ..) rfl hQ))
abbrev Pe(fn:AG):Prop:=∀(u:Bool) (x:List UInt8) (f:List Int) (i:Nat) (C:List AB) (Q:VQ) (X:XQ),C[i]? =some (.inst 387 (bD u (.bytes x) f))→Q (.ti f) C→fn 383 [.obj i] [] C Q X
theorem Qg{fn:AG}(e:fn 383=AL Dp):Pe fn:=by
 intro u x f i C Q X hc hQ
 rw[e]
 exact AY hc (E4 ..) rfl rfl (Dp.d (Ap rfl (E4 ..) rfl (by rw[Bc hc];exact hQ)))
abbrev Pd(fn:AG):Prop:=∀(l:List Int) (h:List UInt8) (i:Nat) (C:List AB) (Q:VQ) (X:XQ),Aw l→l.length≤600→C[i]? =some (.inst 387 (By false (AI l) h []))→Q (.ti l) (C.set i (.inst 387 (x9 (AI l) h l (List.replicate (AS l.length) 0))))→fn 383 [.obj i] [] C Q X
theorem Qf{fn:AG}(e:fn 383=AL Dp):Pd fn:=by
 intro l h i C Q X hb hl hc hQ
 rw[e]
 exact AY hc rfl rfl rfl (Dp.p hb hl (Ap rfl rfl rfl hQ))
abbrev Pc(fn:AG)(u:Bool)(b h:List UInt8)(v:List (List Int)):Prop:=∀(i:Nat) (C:List AB) (Q:VQ) (X:XQ),C[i]? =some (.inst 387 (bF u b h))→(DH v→X "ValueError" C)→(¬DH v→Q (.ti v.flatten) (C.set i (.inst 387 (bA u b h v.flatten (Db v)))))→fn 383 [.obj i] [] C Q X
theorem Qe{fn:AG}(e:fn 383=AL Dp){j:Nat}(u:Bool){v:List (List Int)}{b h:List UInt8}(hv:∀l∈v,Aw l)(hl:v.flatten.length≤600)(hj:j<2)(hT:TC 387 Ck j true b v)(hb:b.length≤1000000):Pc fn u b h v:=by
 intro i C Q X hc hX hQ
 rw[e]
 exact AY hc (Ek ..) rfl rfl (Dp.f hv hl hj hT hb (fun q=>H1 (Ek ..) (by rw[Bc hc];exact hX q)) fun q=>Ap rfl (Gc ..) rfl (hQ q))
abbrev MC(fn:AG)(b:List UInt8)(f:List Int):Prop:=∀(i:Nat) (C:List AB) (Q:VQ) (X:XQ),C[i]? =some (.inst 387 (bF false b [35,128]))→Q (.bytes (DP f)) (C.set i (.inst 387 (bD false (.bytes [3,(AI f).length.toUInt8]) f)))→fn 207 [.obj i] [] C Q X
theorem Ox{fn:AG}(e:fn 207=AL Ev){j:Nat}{v:List (List Int)}{b:List UInt8}(hv:∀l∈v,Aw l)(hl:v.flatten.length≤600)(hj:j<2)(hT:TC 387 Ck j true b v)(hb:b.length≤1000000)(hn:¬DH v)(h8:(AI v.flatten).length<128):MC fn b v.flatten:=by
 intro i C Q X hc hQ
 rw[e]
 exact AY hc (Ek ..) rfl rfl (Ev.bf hv hl hj hT hb hn h8 (Ap rfl (E4 ..) rfl hQ))
abbrev MD(fn:AG)(u:Bool)(b:List UInt8)(f un:List Int):Prop:=∀(i:Nat) (C:List AB) (Q:VQ) (X:XQ),C[i]? =some (.inst 387 (bA u b [35,128] f un))→Q (.bytes (DP f)) (C.set i (.inst 387 (bD u (.bytes [3,(AI f).length.toUInt8]) f)))→fn 207 [.obj i] [] C Q X
theorem Oy{fn:AG}(e:fn 207=AL Ev)(u:Bool)(b:List UInt8)(f un:List Int)(hb:Aw f)(hl:f.length≤600)(h8:(AI f).length<128):MD fn u b f un:=by
 intro i C Q X hc hQ
 rw[e]
 exact AY hc (Gc ..) rfl rfl (Ev.ba hb hl h8 (Ap rfl (E4 ..) rfl hQ))
end
section
noncomputable abbrev mS(mode:Int)(oc:List UInt8)(bs:List V)(tl:AU):AU:=("mode",.int mode)::("octets",.bytes oc)::("bits",.lst bs)::("parts",.obj 0)::tl
noncomputable def hdO(odd:Bool):UInt8:=if odd then 35 else 36
noncomputable abbrev zn(ps:List (List UInt8)):List UInt8:=ps.flatten
noncomputable abbrev CD(odd:Bool)(ps:List (List UInt8)):List UInt8:=hdO odd::128::(ps.flatten++[0,0])
theorem HO(l:List (List UInt8)):CJ (l.map V.bytes)=some l:=by
 induction l with
 |nil=>rfl
 |cons b l ih=>show(match CJ (l.map V.bytes) with|some l=>some (b::l)|none=>none)=_;rw[ih]
theorem xg(P:Params):(Bo P 956).drop 3=Cc P 3::Cc P 4::(Bo P 956).drop 5:=by kernel_rfl
theorem Xc(P:Params)(CP:Scope→Expr→AW)(LP LT:Scope→Stmt→AV)(fn:AG)(m:AU)(C:List AB)(Q:A5):KB (GL P CP LP LT fn) 95 (Cc P 4) m C Q=Q.next (Ae m (Str.ofString "odd") (.int 0)) C:=by kernel_rfl
theorem SR(P:Params)(CP:Scope→Expr→AW)(LP LT:Scope→Stmt→AV)(fn:AG)(mode:Int)(oc:List UInt8)(bs:List V)(ps:List (List UInt8))(hps:ps.flatten.length≤1000)(odd:Bool)(hodd:(mode.fmod 2==1)=odd)(Q:A5)
  (h:Av (GL P CP LP LT fn) 95 ((Bo P 956).drop 5) (mS mode oc bs [("data",.bytes (CD odd ps)),("odd",.int 0)]) [.list (ps.map V.bytes)] Q):
  Av (GL P CP LP LT fn) 97 ((Bo P 956).drop 3) (mS mode oc bs []) [.list (ps.map V.bytes)] Q:=by
 rw[xg]
 refine An ?_
 refine(aI ?_ ?_:)
 ·decide
 have e36:(List.map (fun n:Int=>n.toNat.toUInt8) [36,128]++ps.flatten++List.map (fun n:Int=>n.toNat.toUInt8) [0,0])=CD false ps:=by kernel_rfl
 have e35:(List.map (fun n:Int=>n.toNat.toUInt8) [35,128]++ps.flatten++List.map (fun n:Int=>n.toNat.toUInt8) [0,0])=CD true ps:=by kernel_rfl
 cases odd
 ·refine(Ad.mk (fun h1=> ?_) (fun h1=> ?_):)
  ·exact absurd (h1.symm.trans hodd) (by decide)
  walk_at "vi"
  conv=>whnf;rw[HO]
  iterate 6 (refine aI ?_ ?_;(·walk_at "lf"))
  rw[e36]
  refine An ?_
  rw[Xc]
  exact h
 ·refine(Ad.mk (fun h1=> ?_) (fun h1=> ?_):)
  rotate_left
  ·exact absurd (h1.symm.trans hodd) (by decide)
  walk_at "vi"
  conv=>whnf;rw[HO]
  iterate 6 (refine aI ?_ ?_;(·walk_at "lf"))
  rw[e35]
  refine An ?_
  rw[Xc]
  exact h
end
section
theorem sQ(P:Params):(Bo P 956).drop 5=Cc P 5::Cc P 6::(Bo P 956).drop 7:=by kernel_rfl
theorem SZ{mode:Int}{odd:Bool}(hodd:(mode.fmod 2==1)=odd):(mode.fmod 2==0)= !odd:=by
 rw[Int.fmod_eq_emod_of_nonneg _ (by decide)] at hodd⊢
 rcases Int.emod_two_eq mode with h|h<;>rw[h] at hodd⊢<;>subst hodd<;>rfl
theorem rV(P:Params)(CP:Scope→Expr→AW)(LP LT:Scope→Stmt→AV)(fn:AG)(mode:Int)(oc:List UInt8)(bs:List V)(ps:List (List UInt8))(hps:ps.flatten.length≤1000)(hoc:oc.length<128)(hodd:(mode.fmod 2==1)=false)(hL:HV fn)(hZ:LA fn)(hU:LB fn)(hD:Pp fn)
  (hN:∀u,K8 fn u ps.flatten [36,128] oc) (hDF:MA fn ps.flatten oc) (hDA:∀u,MB fn u ps.flatten oc) (hND:Pa fn) (hNP:PZ fn) (hE:El 448 true 2 (CD false ps) [36,128] ps.flatten) (Q:A5)
  (h:∀b C,b=true→Q.ret (.bool b) C):
  Av (GL P CP LP LT fn) 95 ((Bo P 956).drop 5) (mS mode oc bs [("data",.bytes (CD false ps)),("odd",.int 0)]) [.list (ps.map V.bytes)] Q:=by
 rw[sQ]
 refine An ?_
 have h2:=SZ hodd
 have hl:(CD false ps).length+1≤1000000:=by simp only[List.length_cons,List.length_append,List.length_nil];exact AK [_] [] [.nl AA A7] (.nl (.a (.a (.a (.a AA (.a (.a k0 AO) AO)) AO) AO) AO) AE) [1,1] rfl hps
 refine(aI ?_ ?_:)
 ·decide
 refine(Ad.mk (fun h1=> ?_) (fun h1=> ?_):)
 rotate_left
 ·exact absurd (h1.symm.trans h2) (by decide)
 refine(aI (show(CD false ps).length+1≤16777216 by exact AK [_] [] [.nl (.a AA AO) AE] (.nl (.a AA AO) Aa) [1,1] rfl hl) ?_:)
 walk_at "wh"
 refine hL 448 true true 2 _ _ _ [48] _ _ _ _ (.inl rfl) hE (by decide) rfl (by rw[List.length_append];exact hl) (fun _ _=> ?_) (fun q=>absurd (q rfl) (by decide))
 refine(aI ?_ ?_:)
 ·decide
 refine(Ad.mk (fun h1=> ?_) (fun h1=> ?_):)
 rotate_left
 ·exact absurd (h1.symm.trans h2) (by decide)
 refine An ?_
 refine(aI ?_ ?_:)
 ·decide
 walk_at "wh"
 refine hD 4 oc _ _ _ (by decide) (by decide) hoc ?_
 refine An (Dq (names:=["read","other","plain"].map Str.ofString) (by kernel_rfl) (by kernel_rfl) (by kernel_rfl) ?_)
 walk_at "wh"
 refine hL 448 true true 2 _ _ _ [] _ _ _ _ (.inl rfl) hE (by decide) (List.append_nil _).symm (by exact AK [_] [] [.nl (.a AA AO) AE] (.nl AA AE) [1,1] rfl hl) (fun _ q=>absurd rfl q) (fun _=> ?_)
 walk_at "wh"
 refine hZ 448 true 2 _ _ _ [] _ _ _ _ (.inl rfl) hE (by decide) (List.append_nil _).symm (by exact AK [_] [] [.nl (.a AA AO) AE] (.nl AA AE) [1,1] rfl hl) ?_
 walk_at "wh"
 refine hU 448 2 _ _ _ [] _ _ _ _ (.inl rfl) hE (by decide) (List.append_nil _).symm (by exact AK [_] [] [.nl (.a AA AO) AE] (.nl AA AE) [1,1] rfl hl) ?_
 refine(aI (show 3≤1000 by decide) ?_:)
 refine An ?_
 walk_at "wh"
 refine hN false 1 _ _ _ rfl ?_
 walk_at "wh"
 refine Ad.mk (fun h1=>absurd (show(oc !=oc)=true from h1) (by simp)) (fun h1=> ?_)
 walk_at "wh"
 refine hDF 2 _ _ _ rfl ?_
 walk_at "wh"
 refine Ad.mk (fun h1=>absurd (show(Do oc !=Do oc)=true from h1) (by simp)) (fun h1=> ?_)
 walk_at "wh"
 refine hDA false 1 _ _ _ rfl ?_
 walk_at "wh"
 refine Ad.mk (fun h1=>absurd (show(Do oc !=Do oc)=true from h1) (by simp)) (fun h1=> ?_)
 walk_at "wh"
 refine hN true 3 _ _ _ rfl ?_
 walk_at "wh"
 refine Ad.mk (fun h1=>absurd (show(oc !=oc)=true from h1) (by simp)) (fun h1=> ?_)
 walk_at "wh"
 refine hDA true 3 _ _ _ rfl ?_
 walk_at "wh"
 refine Ad.mk (fun h1=>absurd (show(Do oc !=Do oc)=true from h1) (by simp)) (fun h1=> ?_)
 refine An ?_
 walk_at "wh"
 refine hND false _ oc 1 _ _ _ rfl ?_
 walk_at "wh"
 refine Ad.mk (fun h1=> ?_) (fun h1=>absurd (show(oc==oc)=false from h1) (by simp))
 walk_at "wh"
 refine hND false _ oc 2 _ _ _ rfl ?_
 walk_at "wh"
 refine Ad.mk (fun h1=> ?_) (fun h1=>absurd (show(oc==oc)=false from h1) (by simp))
 walk_at "wh"
 refine hL 448 false true 0 (Do oc) [4,oc.length.toUInt8] oc [] _ _ _ _ (.inl rfl) ⟨hoc,rfl,rfl⟩ (by decide) (List.append_nil _).symm (show oc.length+1+1≤1000000 by exact AK [_] [] [.nt AA CZ] (.nl (.a (.a AA AO) AO) AE) [1,1] rfl hoc) (fun _ q=>absurd rfl q) (fun _=> ?_)
 walk_at "wh"
 refine hNP oc [4,oc.length.toUInt8] 4 _ _ _ hoc rfl ?_
 exact h _ _ (show(oc==oc)=true by simp)
end
section
noncomputable def zd:V→List V
 | .li l=>l.map V.int
 |_=>[]
noncomputable def ze(v:V):List V:=[v]
theorem Lf(v:List (List Int)):(v.map V.li).flatMap zd=v.flatten.map V.int:=by
 induction v with
 |nil=>rfl
 |cons l v ih=>rw[List.map_cons,List.flatMap_cons,ih,List.flatten_cons,List.map_append];rfl
theorem Ln(l:List V):l.flatMap ze=l:=by
 induction l with
 |nil=>rfl
 |cons l v ih=>rw[List.flatMap_cons,ih];rfl
theorem Qt{v:List (List Int)}{l:List Int}(h:l∈v):l.length≤v.flatten.length:=by
 induction v with
 |nil=>cases h
 |cons a v ih=>
  rw[List.flatten_cons,List.length_append]
  rcases List.mem_cons.mp h with rfl|h
  ·exact AK [_,_] [] [] (.nl AA (.a AA v1)) [1] rfl
  ·have:=ih h;exact AK [_,_,_] [] [.nl AA AT] (.nl AA (.a v1 AT)) [1,1] rfl this
theorem Vn(P:Params)(CP:Scope→Expr→AW)(LP LT:Scope→Stmt→AV)(fn:AG)(mode:Int)(oc:List UInt8)(bs:List (List Int))(ps:List (List UInt8))(hps:ps.flatten.length≤1000)(hbs:bs.length≤20)(hfl:bs.flatten.length≤600)(hodd:(mode.fmod 2==1)=true)(hCP:XB P CP fn)(hL:HV fn)(hE:El 387 true 2 (CD true ps) [35,128] ps.flatten)(Q:A5)
  (h:Av (GL P CP LP LT fn) 91 ((Bo P 956).drop 9) (mS mode oc (bs.map V.li) [("data",.bytes (CD true ps)),("odd",.int 1),("bad",.bool false),("lone",.li []),("flat",.li bs.flatten)]) [.list (ps.map V.bytes)] Q):
  Av (GL P CP LP LT fn) 95 ((Bo P 956).drop 5) (mS mode oc (bs.map V.li) [("data",.bytes (CD true ps)),("odd",.int 0)]) [.list (ps.map V.bytes)] Q:=by
 rw[sQ]
 refine An ?_
 have h2:=SZ hodd
 have hl:(CD true ps).length+1≤1000000:=by simp only[List.length_cons,List.length_append,List.length_nil];exact AK [_] [] [.nl AA A7] (.nl (.a (.a (.a (.a AA (.a (.a k0 AO) AO)) AO) AO) AO) AE) [1,1] rfl hps
 refine(aI ?_ ?_:)
 ·decide
 walk_at "wh"
 refine Ad.mk (fun h1=>absurd (h1.symm.trans h2) (by decide)) (fun h1=> ?_)
 refine(aI (show(CD true ps).length+1≤16777216 by exact AK [_] [] [.nl (.a AA AO) AE] (.nl (.a AA AO) Aa) [1,1] rfl hl) ?_:)
 walk_at "wh"
 refine hL 387 true true 2 _ _ _ [48] _ _ _ _ (.inr rfl) hE (by decide) rfl (by rw[List.length_append];exact hl) (fun _ _=> ?_) (fun q=>absurd (q rfl) (by decide))
 refine(aI ?_ ?_:)
 ·decide
 walk_at "wh"
 refine Ad.mk (fun h1=>absurd (h1.symm.trans h2) (by decide)) (fun h1=> ?_)
 refine An (Dq (names:=["flat","lone","bad"].map Str.ofString) (by kernel_rfl) (by kernel_rfl) (by kernel_rfl) ?_)
 refine(hCP _ _ _ _ _ ?_:)
 refine(aI trivial ?_:)
 refine Ce (f:=zd) 600 trivial _ [] _ ?_ ?_ ?_
 ·intro x hx acc K ha hK
  obtain⟨l,hlm,rfl⟩:=List.mem_map.mp hx
  refine(aI trivial ?_:)
  refine Ce (f:=ze) 1300 trivial _ acc _ ?_ ?_ ?_
  ·intro y hy acc K ha hK
   refine(aI ?_ ?_:)
   ·exact AK [_] [] [.nl AA (.k 1300)] (.nl AA Bt) [1,1] rfl ha
   exact hK
  ·rw[Ln,List.length_map];have:=Qt hlm;exact AK [_,_,_] [] [.nl AT A9,.nl AA A9,.nl v1 AT] (.nl (.a AA v1) (.k 1300)) [1,1,1,1] rfl hfl ha this
  ·rw[Ln];exact hK
 ·rw[Lf,List.length_map]
  show 0+_≤_
  exact AK [_] [] [.nl AA A9] (.nl (.a k0 AA) A9) [1,1] rfl hfl
 rw[List.nil_append,Lf,CU]
 refine(aI (show 0≤1000 by decide) ?_:)
 refine(aI (show 3≤1000 by decide) ?_:)
 exact h
noncomputable def FO(v:List (List Int))(i:Nat):Bool:=(List.range i).any fun k=>(v.take k).flatten.length%8 !=0
theorem ND(v:List (List Int))(i:Nat):FO v (i+1)=(FO v i||((v.take i).flatten.length%8 !=0)):=by
 unfold FO;rw[List.range_succ,List.any_append];simp
theorem J3(v:List (List Int)):FO v v.length=true↔DH v:=by
 unfold FO DH
 rw[List.any_eq_true]
 constructor
 ·rintro⟨k,hk,h⟩
  exact⟨k,List.mem_range.mp hk,by simpa using h⟩
 ·rintro⟨k,hk,h⟩
  exact⟨k,List.mem_range.mpr hk,by simpa using h⟩
theorem Hm{v:List (List Int)}{i:Nat}{l:List Int}(h:v[i]? =some l):(v.take (i+1)).flatten=(v.take i).flatten++l:=by
 rw[List.take_add_one,List.flatten_append,h]
 simp
theorem ES(v:List (List Int))(i:Nat):(v.take i).flatten.length≤v.flatten.length:=by
 have:=congrArg (fun v=>(List.flatten v).length) (List.take_append_drop i v)
 simp only[List.flatten_append,List.length_append] at this
 exact AK [_,_,_] [] [.ne (.a AA AT) v1] (.nl AA v1) [1,1] rfl this
theorem xf(P:Params):(Bo P 956).drop 9=Cc P 9::(Bo P 956).drop 10:=by kernel_rfl
theorem st9(P:Params):Cc P 9= .For (zk (Cc P 9)) (zm (Cc P 9)) (xZ (Cc P 9)) [] (zl (Cc P 9)):=by kernel_rfl
theorem rU(P:Params)(CP:Scope→Expr→AW)(LP LT:Scope→Stmt→AV)(fn:AG)(mode:Int)(oc d:List UInt8)(v:List (List Int))(hv:v.length≤20)(hfl:v.flatten.length≤600)(C0:List AB)(hLP:L8 P CP LP LT fn)(Q:A5)
  (h:Av (GL P CP LP LT fn) 90 ((Bo P 956).drop 10) [("data",.bytes d),("bad",.bool (FO v v.length)),("flat",.li v.flatten)] C0 Q):
  Av (GL P CP LP LT fn) 91 ((Bo P 956).drop 9) (mS mode oc (v.map V.li) [("data",.bytes d),("odd",.int 1),("bad",.bool false),("lone",.li []),("flat",.li v.flatten)]) C0 Q:=by
 rw[xf]
 refine An ?_
 rw[st9]
 refine LI rfl ?_
 refine(hLP _ _ _ _ ?_:)
 refine(aI trivial ?_:)
 refine G7 (fun i m C=>C=C0∧∃tl:AU,m=mS mode oc (v.map V.li) (("data",.bytes d)::("odd",.int 1)::("bad",.bool (FO v i))::("lone",.li (v.take i).flatten)::("flat",.li v.flatten)::tl)∧(tl=[]∨∃a,tl=([("own",a)]:AU))) _ 0 _ _ _ ?_ ?_ ?_ ?_
 ·exact⟨rfl,[],rfl,.inl rfl⟩
 ·rintro i x m C K hx ⟨rfl,tl,rfl,ht⟩ hK
  rw[Nat.zero_add] at hK⊢
  rw[List.getElem?_map] at hx
  cases hvi:v[i]? with
  |none=>rw[hvi] at hx;cases hx
  |some l=>
   rw[hvi] at hx
   have hx:V.li l=x:=by simpa using hx
   subst hx
   have hl1:=ES v i
   have hl2:=ES v (i+1)
   rw[Hm hvi,List.length_append] at hl2
   have h8:((((v.take i).flatten.length:Nat):Int).fmod 8 !=0)=((v.take i).flatten.length%8 !=0):=by
    rw[Int.fmod_eq_emod_of_nonneg _ (by decide)]
    rcases Nat.eq_zero_or_pos ((v.take i).flatten.length%8) with q|q
    ·rw[q,show(((v.take i).flatten.length:Nat):Int)%8=0 from LZ.mpr q];rfl
    ·rw[bne_iff_ne.mpr (Nat.ne_of_gt q),bne_iff_ne.mpr fun z=>Nat.ne_of_gt q (LZ.mp z)]
   have hfin:K (mS mode oc (v.map V.li) [("data",.bytes d),("odd",.int 1),("bad",.bool (FO v i||((v.take i).flatten.length%8 !=0))),("lone",.li ((v.take i).flatten++l)),("flat",.li v.flatten),("own",.li l)]) C:=by
    walk_at "wh"
    refine hK _ _ ⟨rfl,[("own",.li l)],?_,.inr ⟨_,rfl⟩⟩
    rw[ND,Hm hvi]
   rcases ht with rfl|⟨a,rfl⟩
   all_goals
    refine(aI ?_ ?_:)
    ·exact AK [_,_] [] [.nl v1 A9,.nl AA v1] (.nl AA AE) [1,1,1] rfl hfl hl1
    refine(aI ?_ ?_:)
    ·decide
    refine(Ad.mk (fun h1=> ?_) (fun h1=> ?_):)
    ·have h1:((v.take i).flatten.length%8 !=0)=true:=h8.symm.trans h1
     rw[h1,Bool.or_true] at hfin
     refine(aI ?_ ?_:)
     ·exact AK [_,_,_] [] [.nl AT A9,.nl (.a AA v1) AT] (.nl (.a AA v1) AE) [1,1,1] rfl hfl hl2
     exact hfin
    ·have h1:((v.take i).flatten.length%8 !=0)=false:=h8.symm.trans h1
     rw[h1,Bool.or_false] at hfin
     refine(aI ?_ ?_:)
     ·exact AK [_,_,_] [] [.nl AT A9,.nl (.a AA v1) AT] (.nl (.a AA v1) AE) [1,1,1] rfl hfl hl2
     exact hfin
 ·rintro i m C _;exact trivial
 ·rintro m C ⟨rfl,tl,rfl,ht⟩
  refine⟨[("data",.bytes d),("bad",.bool (FO v (0+(v.map V.li).length))),("flat",.li v.flatten)],?_,?_⟩
  ·intro p hp
   simp only[List.mem_cons,List.not_mem_nil,or_false] at hp
   rcases hp with rfl|rfl|rfl<;>rfl
  ·rw[Nat.zero_add,List.length_map]
   exact h
end
section
theorem sU(P:Params):(Bo P 956).drop 10=Cc P 10::Cc P 11::(Bo P 956).drop 12:=by kernel_rfl
theorem sR(P:Params):(Bo P 956).drop 12=Cc P 12::Cc P 13::Cc P 14::[]:=by kernel_rfl
theorem uy(P:Params):Cc P 10= .Assign [.Tuple (SA (Cc P 10)) (pA (Cc P 10)).2 (pA (Cc P 10)).1] (eA (Cc P 10)) (qA (Cc P 10)):=by kernel_rfl
theorem Xd(P:Params):Cf (Nf P 956) (SA (Cc P 10)) (eA (Cc P 10))=some (some (["read","other","plain"].map Str.ofString)):=by kernel_rfl
noncomputable abbrev mT(d:List UInt8)(bad:Bool)(fl:List Int)(tl:AU):AU:=("data",.bytes d)::("bad",.bool bad)::("flat",.li fl)::("plain",.obj 3)::("other",.obj 2)::("read",.obj 1)::tl
theorem Vp(P:Params)(CP:Scope→Expr→AW)(LP LT:Scope→Stmt→AV)(fn:AG)(ps:List (List UInt8))(hps:ps.flatten.length≤1000)(v:List (List Int))(hL:HV fn)(hZ:LA fn)(hU:LB fn)
  (hNX:Pc fn false ps.flatten [35,128] v) (hE:El 387 true 2 (CD true ps) [35,128] ps.flatten) (Q:A5)
  (hbad:DH v→Q.ret (.bool (FO v v.length)) [.list (ps.map V.bytes),.inst 387 (bF false ps.flatten [35,128]),.inst 387 (bF false ps.flatten [35,128]),.inst 387 (bF true ps.flatten [35,128])])
  (h:¬DH v→Av (GL P CP LP LT fn) 88 ((Bo P 956).drop 12) (mT (CD true ps) (FO v v.length) v.flatten [("told",.ti v.flatten)]) [.list (ps.map V.bytes),.inst 387 (bA false ps.flatten [35,128] v.flatten (Db v)),.inst 387 (bF false ps.flatten [35,128]),.inst 387 (bF true ps.flatten [35,128])] Q):
  Av (GL P CP LP LT fn) 90 ((Bo P 956).drop 10) [("data",.bytes (CD true ps)),("bad",.bool (FO v v.length)),("flat",.li v.flatten)] [.list (ps.map V.bytes)] Q:=by
 rw[sU,uy]
 have hl:(CD true ps).length+1≤1000000:=by simp only[List.length_cons,List.length_append,List.length_nil];exact AK [_] [] [.nl AA A7] (.nl (.a (.a (.a (.a AA (.a (.a k0 AO) AO)) AO) AO) AO) AE) [1,1] rfl hps
 refine An (Dq (by kernel_rfl) (Xd P) (by kernel_rfl) ?_)
 refine hL 387 true true 2 _ _ _ [] _ _ _ _ (.inr rfl) hE (by decide) (List.append_nil _).symm (by exact AK [_] [] [.nl (.a AA AO) AE] (.nl AA AE) [1,1] rfl hl) (fun _ q=>absurd rfl q) (fun _=> ?_)
 refine hZ 387 true 2 _ _ _ [] _ _ _ _ (.inr rfl) hE (by decide) (List.append_nil _).symm (by exact AK [_] [] [.nl (.a AA AO) AE] (.nl AA AE) [1,1] rfl hl) ?_
 refine hU 387 2 _ _ _ [] _ _ _ _ (.inr rfl) hE (by decide) (List.append_nil _).symm (by exact AK [_] [] [.nl (.a AA AO) AE] (.nl AA AE) [1,1] rfl hl) ?_
 refine aI (show 3≤1000 by decide) ?_
 refine An ?_
 refine hNX 1 _ _ _ rfl (fun hb=> ?_) (fun hb=> ?_)
 ·exact hbad hb
 ·exact h hb
end
section
theorem Vo(P:Params)(CP:Scope→Expr→AW)(LP LT:Scope→Stmt→AV)(fn:AG)(d b:List UInt8)(c0:AB)(fl un:List Int)(hfb:Aw fl)(hfl:fl.length≤600)(h8:(AI fl).length<128)(hB:MF fn)(hL:HV fn)
  (hDF:MC fn b fl) (hDA:∀u un,MD fn u b fl un) (hN:K9 fn true b [35,128] fl un) (hND:Pe fn) (hNP:Pd fn) (Q:A5) (h:∀b C,b=true→Q.ret (.bool b) C):
  Av (GL P CP LP LT fn) 88 ((Bo P 956).drop 12) (mT d false fl [("told",.ti fl)]) [c0,.inst 387 (bA false b [35,128] fl un),.inst 387 (bF false b [35,128]),.inst 387 (bF true b [35,128])] Q:=by
 rw[sR]
 refine An ?_
 walk_at "wh"
 refine hB fl _ _ _ hfb (by exact AK [_] [] [.nl AA A9] (.nl AA (.k 800)) [1,1] rfl hfl) ?_
 refine An ?_
 refine(aI ?_ ?_:)
 ·exact AK [_] [] [.nl AA A9] (.nl AA AE) [1,1] rfl hfl
 refine(aI ?_ ?_:)
 ·exact AK [_] [] [.nl AA A9] (.nl AA AE) [1,1] rfl hfl
 refine(aI ?_ ?_:)
 ·exact AK [_] [] [.nl AA A9] (.nl AA AE) [1,1] rfl hfl
 walk_at "wh"
 refine Ad.mk (fun h1=>absurd (show(fl !=fl)=true from h1) (by simp)) (fun h1=> ?_)
 walk_at "wh"
 refine hDF 2 _ _ _ rfl ?_
 walk_at "wh"
 refine Ad.mk (fun h1=>absurd (show(DP fl !=DP fl)=true from h1) (by simp)) (fun h1=> ?_)
 walk_at "wh"
 refine hDA false _ 1 _ _ _ rfl ?_
 walk_at "wh"
 refine Ad.mk (fun h1=>absurd (show(DP fl !=DP fl)=true from h1) (by simp)) (fun h1=> ?_)
 walk_at "wh"
 refine hN 3 _ _ _ rfl ?_
 refine(aI ?_ ?_:)
 ·exact AK [_] [] [.nl AA A9] (.nl AA AE) [1,1] rfl hfl
 refine(aI ?_ ?_:)
 ·exact AK [_] [] [.nl AA A9] (.nl AA AE) [1,1] rfl hfl
 walk_at "wh"
 refine Ad.mk (fun h1=>absurd (show(fl !=fl)=true from h1) (by simp)) (fun h1=> ?_)
 walk_at "wh"
 refine hDA true _ 3 _ _ _ rfl ?_
 walk_at "wh"
 refine Ad.mk (fun h1=>absurd (show(DP fl !=DP fl)=true from h1) (by simp)) (fun h1=> ?_)
 refine An ?_
 walk_at "wh"
 refine hND false _ fl 1 _ _ _ rfl ?_
 refine(aI ?_ ?_:)
 ·exact AK [_] [] [.nl AA A9] (.nl AA AE) [1,1] rfl hfl
 refine(aI ?_ ?_:)
 ·exact AK [_] [] [.nl AA A9] (.nl AA AE) [1,1] rfl hfl
 walk_at "wh"
 refine Ad.mk (fun h1=> ?_) (fun h1=>absurd (show(fl==fl)=false from h1) (by simp))
 walk_at "wh"
 refine hL 387 false true 0 (DP fl) [3,(AI fl).length.toUInt8] (AI fl) [] _ _ _ _ (.inr rfl) ⟨h8,rfl,rfl⟩ (by decide) (List.append_nil _).symm (show(AI fl).length+1+1≤1000000 by exact AK [_] [] [.nt AA CZ] (.nl (.a (.a AA AO) AO) AE) [1,1] rfl h8) (fun _ q=>absurd rfl q) (fun _=> ?_)
 walk_at "wh"
 refine hNP fl [3,(AI fl).length.toUInt8] 4 _ _ _ hfb hfl rfl ?_
 refine(aI ?_ ?_:)
 ·exact AK [_] [] [.nl AA A9] (.nl AA AE) [1,1] rfl hfl
 refine(aI ?_ ?_:)
 ·exact AK [_] [] [.nl AA A9] (.nl AA AE) [1,1] rfl hfl
 exact h _ _ (show(fl==fl)=true by simp)
end
section
theorem PH(l:List Int)(n:Nat)(h:l.length≤8*n):(AI l).length≤n+1:=by
 rw[C9,List.length_cons,D9,Dy]
 unfold AS;exact AK [_,_,_,_,_] [] [.nl AT (.m 8 v1),.ne (.a (.m 8 AA) v3) (.a AT v4),.nt v4 k8] (.nl (.a AA AO) (.a v1 AO)) [8,1,1,1] rfl h (Nat.div_add_mod _ 8) (Nat.mod_lt _ (by decide:8>0))
theorem H7{l:List Int}(h:Aw l)(n:Nat):Aw (l.take n):=fun b hb=>h b (List.mem_of_mem_take hb)
theorem H8{l:List Int}(h:Aw l)(n:Nat):Aw (l.drop n):=fun b hb=>h b (List.mem_of_mem_drop hb)
theorem Ij{k:Nat}{b:List UInt8}(h:b.length<128):TV 448 Dl k (Do b) b:=by
 cases k with
 |zero=>exact⟨b,h,rfl,rfl⟩
 |succ k=>exact .inl ⟨b,h,rfl,rfl⟩
theorem Ik{k:Nat}{l:List Int}(hb:Aw l)(h:l.length≤100):TV 387 Ck k (DP l) [l]:=by
 have h1:=PH l 13 (by exact AK [_] [] [.nl AA DO] (.nl AA (.m 8 (.k 13))) [1,1] rfl h)
 have h2:(AI l).length<128:=by exact AK [_] [] [.nl AA (.a (.k 13) AO)] (.nt AA CZ) [1,1] rfl h1
 cases k with
 |zero=>exact⟨_,h2,rfl,l,hb,by exact AK [_] [] [.nl AA DO] (.nl AA A9) [1,1] rfl h,rfl,rfl⟩
 |succ k=>exact .inl ⟨_,h2,rfl,l,hb,by exact AK [_] [] [.nl AA DO] (.nl AA A9) [1,1] rfl h,rfl,rfl⟩
theorem JO(nums:List Int)(cut:Bool)(j:Nat):TV 448 Dl 1 (Ci nums cut false j) (BC (Fw nums j)):=by
 have hp:(BC (Fw nums j)).length≤4:=by rw[BS];have:=JN (Fw nums j);exact AK [_] [] [.nt AA k4] (.nl AA k4) [1,1] rfl this
 unfold Ci
 rw[if_neg (by decide)]
 split
 ·refine .inr ⟨[(Do ((BC (Fw nums j)).take 1),(BC (Fw nums j)).take 1),(Do ((BC (Fw nums j)).drop 1),(BC (Fw nums j)).drop 1)],?_,?_,?_⟩
  ·intro p hp
   simp only[List.mem_cons,List.not_mem_nil,or_false] at hp
   rcases hp with rfl|rfl
   ·exact Ij (by rw[List.length_take];exact AK [_] [] [.nl AA AO] (.nt AA CZ) [1,1] rfl (Nat.min_le_left _ _))
   ·exact Ij (by rw[List.length_drop];exact AK [_,_] [] [.nl v1 k4,.nl AA v1] (.nt AA CZ) [1,1,1] rfl hp (Nat.sub_le _ _))
  ·simp[GV]
  ·simp only[List.map_cons,List.map_nil,List.flatten_cons,List.flatten_nil,List.append_nil]
   exact(List.take_append_drop 1 _).symm
 ·exact Ij (by exact AK [_] [] [.nl AA k4] (.nt AA CZ) [1,1] rfl hp)
theorem JP(nums:List Int)(cut:Bool)(j:Nat):TV 387 Ck 1 (Ci nums cut true j) (Cq nums cut j):=by
 have hl:=DV nums cut j
 have hb:=E8 nums cut j
 unfold Ci Cq
 rw[if_pos rfl]
 split
 ·refine .inr ⟨[(DP ((own nums cut j).take 8),[(own nums cut j).take 8]),(DP ((own nums cut j).drop 8),[(own nums cut j).drop 8])],?_,?_,?_⟩
  ·intro p hp
   simp only[List.mem_cons,List.not_mem_nil,or_false] at hp
   rcases hp with rfl|rfl
   ·exact Ik (H7 hb 8) (by rw[List.length_take];exact AK [_] [] [.nl AA k8] (.nl AA DO) [1,1] rfl (Nat.min_le_left _ _))
   ·exact Ik (H8 hb 8) (by rw[List.length_drop];exact AK [_,_] [] [.nl v1 Ll,.nl AA v1] (.nl AA DO) [1,1,1] rfl hl (Nat.sub_le _ _))
  ·simp[GV]
  ·simp
 ·exact Ik hb (by exact AK [_] [] [.nl AA Ll] (.nl AA DO) [1,1] rfl hl)
theorem HJ{l:List Int}(h:l.length≤32):(DP l).length≤7:=by
 have:=PH l 4 (by exact AK [_] [] [.nl AA (.k 32)] (.nl AA (.m 8 k4)) [1,1] rfl h)
 simp only[List.length_cons];exact AK [_] [] [.nl AA (.a k4 AO)] (.nl (.a (.a AA AO) AO) k7) [1,1] rfl this
theorem KP(nums:List Int)(cut odd:Bool)(j:Nat):(Ci nums cut odd j).length≤20:=by
 have hp:(BC (Fw nums j)).length≤4:=by rw[BS];have:=JN (Fw nums j);exact AK [_] [] [.nt AA k4] (.nl AA k4) [1,1] rfl this
 have hl:=DV nums cut j
 have h1:=HJ (l:=own nums cut j) (by exact AK [_] [] [.nl AA Ll] (.nl AA (.k 32)) [1,1] rfl hl)
 have h2:=HJ (l:=(own nums cut j).take 8) (by rw[List.length_take];exact AK [_] [] [.nl AA k8] (.nl AA (.k 32)) [1,1] rfl (Nat.min_le_left _ _))
 have h3:=HJ (l:=(own nums cut j).drop 8) (by rw[List.length_drop];exact AK [_,_] [] [.nl v1 Ll,.nl AA v1] (.nl AA (.k 32)) [1,1,1] rfl hl (Nat.sub_le _ _))
 unfold Ci
 split
 ·split
  ·simp only[List.length_append] at*
   have e:([35,128]:List UInt8).length=2:=rfl
   have e0:([0,0]:List UInt8).length=2:=rfl
   exact AK [_,_,_,_] [] [.nl v1 k7,.nl AT k7,.ne AA J9,.ne v3 J9] (.nl (.a (.a (.a AA v1) AT) v3) Jj) [1,1,1,1,1] rfl h2 h3 e e0
  ·exact AK [_] [] [.nl AA k7] (.nl AA Jj) [1,1] rfl h1
 ·split
  ·simp only[List.length_append,List.length_cons,List.length_nil,List.length_take,List.length_drop];exact AK [_,_,_] [] [.nl AT k4,.nl AA AO,.nl v1 AT] (.nl (.a (.a (.a (.a (.a k0 AO) AO) (.a (.a AA AO) AO)) (.a (.a v1 AO) AO)) (.a (.a k0 AO) AO)) Jj) [1,1,1,1] rfl hp (Nat.min_le_left _ _) (Nat.sub_le _ _)
  ·simp only[List.length_cons];exact AK [_] [] [.nl AA k4] (.nl (.a (.a AA AO) AO) Jj) [1,1] rfl hp
theorem G8(nums:List Int)(cut odd:Bool):∀i,(Bd nums cut odd i).flatten.length≤20*i
 |0=>by unfold Bd;simp
 |i+1=>by
  have h1:=G8 nums cut odd i
  have h2:=KP nums cut odd i
  rw[Fs,List.flatten_append,List.length_append,List.flatten_singleton];exact AK [_,_,_] [] [.nl AA (.m 20 AT),.nl v1 Jj] (.nl (.a AA v1) (.m 20 (.a AT AO))) [1,1,1] rfl h1 h2
theorem H9(nums:List Int)(cut:Bool):∀i,(Bu nums cut i).flatten.length≤27*i
 |0=>by unfold Bu;simp
 |i+1=>by
  have h1:=H9 nums cut i
  have h2:=DV nums cut i
  rw[Eu,List.flatten_append,List.length_append]
  have h3:(Cq nums cut i).flatten=own nums cut i:=by
   unfold Cq;split
   ·simp
   ·simp
  rw[h3];exact AK [_,_,_] [] [.nl AA (.m 27 AT),.nl v1 Ll] (.nl (.a AA v1) (.m 27 (.a AT AO))) [1,1,1] rfl h1 h2
theorem MX(nums:List Int)(cut:Bool)(i:Nat):TC 448 Dl 1 true (Bd nums cut false i).flatten (Cj nums i):=by
 refine⟨(List.range i).map fun j=>(Ci nums cut false j,BC (Fw nums j)),?_,?_,?_⟩
 ·intro p hp
  obtain⟨j,_,rfl⟩:=List.mem_map.mp hp
  exact JO nums cut j
 ·rw[List.map_map];rfl
 ·rw[List.map_map];unfold Cj;rw[List.flatMap_def];rfl
theorem MZ(nums:List Int)(cut:Bool)(i:Nat):TC 387 Ck 1 true (Bd nums cut true i).flatten (Bu nums cut i):=by
 refine⟨(List.range i).map fun j=>(Ci nums cut true j,Cq nums cut j),?_,?_,?_⟩
 ·intro p hp
  obtain⟨j,_,rfl⟩:=List.mem_map.mp hp
  exact JP nums cut j
 ·rw[List.map_map];rfl
 ·rw[List.map_map];unfold Bu;rw[List.flatMap_def];rfl
theorem MY(nums:List Int)(cut:Bool)(i:Nat):El 448 true 2 (CD false (Bd nums cut false i)) [36,128] (Bd nums cut false i).flatten:=by
 refine⟨1,Bd nums cut false i,rfl,?_,rfl,rfl,rfl⟩
 intro x hx
 obtain⟨j,_,rfl⟩:=List.mem_map.mp hx
 exact(JO nums cut j).isEl
theorem Ma(nums:List Int)(cut:Bool)(i:Nat):El 387 true 2 (CD true (Bd nums cut true i)) [35,128] (Bd nums cut true i).flatten:=by
 refine⟨1,Bd nums cut true i,rfl,?_,rfl,rfl,rfl⟩
 intro x hx
 obtain⟨j,_,rfl⟩:=List.mem_map.mp hx
 exact(JP nums cut j).isEl
theorem Ks(nums:List Int)(cut:Bool)(i:Nat):∀l∈Bu nums cut i,Aw l:=by
 intro l hl
 obtain⟨j,_,hl⟩:=List.mem_flatMap.mp hl
 have hb:=E8 nums cut j
 unfold Cq at hl
 split at hl
 ·simp only[List.mem_cons,List.not_mem_nil,or_false] at hl
  rcases hl with rfl|rfl
  ·exact H7 hb 8
  ·exact H8 hb 8
 ·rw[List.mem_singleton] at hl;subst hl;exact hb
theorem RF{α:Type}(l:List α):(BW l (some 1) (some 9)).length≤8:=by
 unfold BW
 show((l.drop (clipAt l.length 1)).take (clipAt l.length 9 - clipAt l.length 1)).length≤8
 rw[List.length_take]
 have e:clipAt l.length 1=min 1 l.length:=Cp _ 1
 have e2:clipAt l.length 9=min 9 l.length:=Cp _ 9
 rw[e,e2]
 refine Nat.le_trans (Nat.min_le_left ..) (Nat.sub_le_of_le_add ?_)
 rcases Nat.eq_zero_or_pos l.length with q|q
 ·rw[q];decide
 ·rw[Nat.min_eq_left (a:=1) q];exact Nat.min_le_left ..
structure tX(P:Params)(fn:AG):Prop where
 f99:fn 99=AL PV
 f84:fn 84=AL XL
 f444:fn 444=AL EP
 f383:fn 383=AL Dp
 f207:fn 207=AL Ev
 f946:fn 946=AL J4
 f951:fn 951=AL K3
theorem sB{fn:AG}(e:fn 946=AL J4):Pp fn:=by
 intro t b C Q X h0 h1 hb hQ
 rw[e]
 exact J4.mk h0 h1 hb hQ
theorem WQ{fn:AG}(e:fn 951=AL K3):MF fn:=by
 intro l C Q X h0 h1 hQ
 rw[e]
 exact K3.mk h0 h1 hQ
theorem Qv(P:Params)(CP:Scope→Expr→AW)(LP LT:Scope→Stmt→AV)(fn:AG)(T:tX P fn)(hCP:XB P CP fn)(hLP:L8 P CP LP LT fn)(zs:List Int)(hzs:zs.length≤63)(Q:A5)(h:∀b C,b=true→Q.ret (.bool b) C):
  Av (GL P CP LP LT fn) 100 (Bo P 956) [("script",.li zs)] [] Q:=by
 have hn:=RF zs
 refine rX P CP LP LT fn zs hzs Q ?_
 refine rW P CP LP LT fn zs _ _ Q ?_
 generalize hnu:BW zs (some 1) (some 9)=nums at hn⊢
 generalize hmo:zs.getD 0 0=mode
 generalize hcu:((mode.fdiv 2).fmod 4==3)=cut
 have hD:=sB T.f946
 have hB:=WQ T.f951
 have hL:=Qs T.f99
 have hZ:=Qq T.f99
 have hU:=Qr T.f84
 have hoc:(Cj nums nums.length).length<128:=by have:=EB nums nums.length;exact AK [_,_] [] [.nl v1 k8,.nl AA (.m 3 v1)] (.nt AA CZ) [1,3,1] rfl hn this
 cases hodd:(mode.fmod 2==1)
 ·refine ST P CP LP LT fn hCP hB hD hLP zs nums hn mode cut hcu false hodd Q ?_
  have hfl:=G8 nums cut false nums.length
  have hT:=MX nums cut nums.length
  refine SR P CP LP LT fn mode _ _ _ (by exact AK [_,_] [] [.nl v1 k8,.nl AA (.m 20 v1)] (.nl AA A7) [1,20,1] rfl hn hfl) false hodd Q ?_
  refine rV P CP LP LT fn mode _ _ _ (by exact AK [_,_] [] [.nl v1 k8,.nl AA (.m 20 v1)] (.nl AA A7) [1,20,1] rfl hn hfl) hoc hodd hL hZ hU hD ?_ ?_ ?_ (Qc T.f444) (Qb T.f444) (MY nums cut nums.length) Q h
  ·exact fun u=>La T.f444 u (by decide) hT (by exact AK [_,_] [] [.nl v1 k8,.nl AA (.m 20 v1)] (.nl AA AE) [1,20,1] rfl hn hfl)
  ·exact Ov T.f207 (by decide) hT (by exact AK [_,_] [] [.nl v1 k8,.nl AA (.m 20 v1)] (.nl AA AE) [1,20,1] rfl hn hfl) hoc
  ·exact fun u=>Ow T.f207 u _ _ hoc
 ·refine ST P CP LP LT fn hCP hB hD hLP zs nums hn mode cut hcu true hodd Q ?_
  have hfl:=G8 nums cut true nums.length
  have hT:=MZ nums cut nums.length
  have hE:=Ma nums cut nums.length
  have hbl:=EJ nums cut nums.length
  have hbf:=H9 nums cut nums.length
  have hbb:=Ks nums cut nums.length
  have h8:=PH (Bu nums cut nums.length).flatten 27 (by exact AK [_,_] [] [.nl v1 k8,.nl AA (.m 27 v1)] (.nl AA (.m 8 Ll)) [1,27,1] rfl hn hbf)
  refine SR P CP LP LT fn mode _ _ _ (by exact AK [_,_] [] [.nl v1 k8,.nl AA (.m 20 v1)] (.nl AA A7) [1,20,1] rfl hn hfl) true hodd Q ?_
  refine Vn P CP LP LT fn mode _ _ _ (by exact AK [_,_] [] [.nl v1 k8,.nl AA (.m 20 v1)] (.nl AA A7) [1,20,1] rfl hn hfl) (by exact AK [_,_] [] [.nl v1 k8,.nl AA (.m 2 v1)] (.nl AA Jj) [1,2,1] rfl hn hbl) (by exact AK [_,_] [] [.nl v1 k8,.nl AA (.m 27 v1)] (.nl AA A9) [1,27,1] rfl hn hbf) hodd hCP hL hE Q ?_
  refine rU P CP LP LT fn mode _ _ _ (by exact AK [_,_] [] [.nl v1 k8,.nl AA (.m 2 v1)] (.nl AA Jj) [1,2,1] rfl hn hbl) (by exact AK [_,_] [] [.nl v1 k8,.nl AA (.m 27 v1)] (.nl AA A9) [1,27,1] rfl hn hbf) _ hLP Q ?_
  refine Vp P CP LP LT fn _ (by exact AK [_,_] [] [.nl v1 k8,.nl AA (.m 20 v1)] (.nl AA A7) [1,20,1] rfl hn hfl) _ hL hZ hU (Qe T.f383 false hbb (by exact AK [_,_] [] [.nl v1 k8,.nl AA (.m 27 v1)] (.nl AA A9) [1,27,1] rfl hn hbf) (by decide) hT (by exact AK [_,_] [] [.nl v1 k8,.nl AA (.m 20 v1)] (.nl AA AE) [1,20,1] rfl hn hfl)) hE Q ?_ ?_
  ·exact fun q=>h _ _ ((J3 _).mpr q)
  ·intro q
   have hq:FO (Bu nums cut nums.length) (Bu nums cut nums.length).length=false:=by
    cases hh:FO (Bu nums cut nums.length) (Bu nums cut nums.length).length
    ·rfl
    ·exact absurd ((J3 _).mp hh) q
   rw[hq]
   exact Vo P CP LP LT fn _ _ _ _ _ (Fi hbb) (by exact AK [_,_] [] [.nl v1 k8,.nl AA (.m 27 v1)] (.nl AA A9) [1,27,1] rfl hn hbf) (by exact AK [_] [] [.nl AA (.a Ll AO)] (.nt AA CZ) [1,1] rfl h8) hB hL (Ox T.f207 hbb (by exact AK [_,_] [] [.nl v1 k8,.nl AA (.m 27 v1)] (.nl AA A9) [1,27,1] rfl hn hbf) (by decide) hT (by exact AK [_,_] [] [.nl v1 k8,.nl AA (.m 20 v1)] (.nl AA AE) [1,20,1] rfl hn hfl) q (by exact AK [_] [] [.nl AA (.a Ll AO)] (.nt AA CZ) [1,1] rfl h8)) (fun u un=>Oy T.f207 u _ _ un (Fi hbb) (by exact AK [_,_] [] [.nl v1 k8,.nl AA (.m 27 v1)] (.nl AA A9) [1,27,1] rfl hn hbf) (by exact AK [_] [] [.nl AA (.a Ll AO)] (.nt AA CZ) [1,1] rfl h8)) (Lb T.f383 true hbb (by exact AK [_,_] [] [.nl v1 k8,.nl AA (.m 27 v1)] (.nl AA A9) [1,27,1] rfl hn hbf) (by decide) hT (by exact AK [_,_] [] [.nl v1 k8,.nl AA (.m 20 v1)] (.nl AA AE) [1,20,1] rfl hn hfl) q) (Qg T.f383) (Qf T.f383) Q h
theorem Rp(P:Params):IC P 946=AL J4:=by
 unfold IC;rw[AC rfl];unfold Rr;rw[AC rfl];unfold Ps;rw[AC rfl];unfold L7;rw[AC rfl];unfold T9;rw[AC rfl];unfold T8;rw[AC rfl]
 unfold TP;rw[AC rfl];unfold TP;rw[AC rfl];unfold TP;rw[AC rfl];unfold TP;rw[AC rfl];unfold TP;rw[AC rfl];unfold TP;rw[AC rfl]
 unfold T7;rw[AC rfl];unfold T6;rw[AC rfl];unfold T5;rw[AC rfl];unfold T4;rw[AC rfl];unfold T3;rw[AC rfl];exact Ao
theorem Ro(P:Params):IC P 951=AL K3:=by
 unfold IC;rw[AC rfl];unfold Rr;rw[AC rfl];unfold Ps;rw[AC rfl];unfold L7;rw[AC rfl];unfold T9;rw[AC rfl];unfold T8;rw[AC rfl]
 unfold TP;rw[AC rfl];unfold TP;rw[AC rfl];unfold TP;rw[AC rfl];unfold TP;rw[AC rfl];unfold TP;rw[AC rfl];unfold TP;rw[AC rfl]
 unfold T7;rw[AC rfl];unfold T6;rw[AC rfl];unfold T5;rw[AC rfl];unfold T4;rw[AC rfl];exact Ao
theorem GP(P:Params){g:Nat}(h0:(g==207)=false)(h1:(g==118)=false)(h2:(g==362)=false)(h3:(g==430)=false)(h4:(g==383)=false)(h5:(g==444)=false)(h6:(g==335)=false)(h7:(g==226)=false)(h8:(g==328)=false)(h9:(g==233)=false):NL P g=IC P g:=
 (AC h0).trans ((AC h1).trans ((AC h2).trans ((AC h3).trans ((AC h4).trans ((AC h5).trans ((AC h6).trans (Ip P h7 h8 h9)))))))
theorem P6(P:Params):tX P (NL P) where
 f99:=(GP P rfl rfl rfl rfl rfl rfl rfl rfl rfl rfl).trans (by unfold IC;rw[AC rfl];exact Ao)
 f84:=(GP P rfl rfl rfl rfl rfl rfl rfl rfl rfl rfl).trans Ao
 f444:=(AC rfl).trans (Iq P)
 f383:=(AC rfl).trans (Ir P)
 f207:=Ao
 f946:=(GP P rfl rfl rfl rfl rfl rfl rfl rfl rfl rfl).trans (Rp P)
 f951:=(GP P rfl rfl rfl rfl rfl rfl rfl rfl rfl rfl).trans (Ro P)
end
section
theorem Jz{cs:List (Str×Addr)}{cells:BK}{cm:Str→Option Value}{k:Nat}(y:CellsAre cm cs cells):(∀n c,(n,c)∈cs→k<c)→∀p∈cells,k<p.1:=by
 induction y with
 |nil=>exact fun _ p hp=>nomatch hp
 |cons hd r ih=>
  intro hab p hp
  cases hp with
  |head=>exact hab _ _ (.head _)
  |tail _ hp=>exact ih (fun n c hm=>hab n c (.tail _ hm)) p hp
section
variable{g:Gx}{d:Nat}{Γ:EC}
noncomputable abbrev TF(s:Shared)(S:Nat)(fd:FuncData)(a:Addr):Sx:=
 ⟨callerA.deeper (envX fd.qualname fd.scope s.heap.objs.size a fd.code (cellsFrom (s.heap.objs.size+1) fd.scope.names [])),hideAll s.heap [S],[],hideAll s.heap [S],s.heap.objs.size,⟨s.gens,s.drawn,s.os,[]⟩,fd.qualname,a,fd.code,cellsFrom (s.heap.objs.size+1) fd.scope.names []⟩
def WZ(Q:VQ)(s:Shared)(r:Result)(s':Shared):Prop:=match r with
 | .ok (.ret v)=>(∃σ V C,VR σ V v∧Q V C)∧(∀b o,s.heap.get? b=some o→s'.heap.get? b=some o)∧s'.gens=s.gens∧s'.os=s.os
 |_=>False
theorem P4{s s':Shared}{S n:Nat}{vs:List Value}{fd:FuncData}{a:Addr}{Q:VQ}{fl:Flow}(hS:s.heap.get? S=some (Ag "list" vs n))
  (q:As g (TF s S fd a) fd.scope {next:=fun _ _=>False,ret:=Q} ⟨[(S,Ag "list" vs n)],[]⟩ fl s'):WZ Q s (.ok (.ret (um fl))) s':=by
 obtain⟨τ,C,e,S2,q⟩:=q
 cases fl with
 |ret v=>
  obtain⟨V,r,q⟩:=q
  refine⟨⟨τ.σ,V,C,r,q⟩,fun b o hb=> ?_,by cases S2 with|mk os F N k=>exact⟨k.g,k.o⟩⟩
  by_cases hbS:b=S
  ·rw[hbS,hS] at hb
   rw[←hb,hbS]
   exact(S2.wmem (e.w _ (.head _))).1
  ·exact S2.F.keep b o (hideAll_get _ hb fun q=>hbS (List.mem_singleton.mp q))
 |_=>obtain⟨m',_,q⟩:=q;exact fE q
theorem P3{x:Sx}{sc:Scope}{tr:Bool}{X:String→AU→List AB→Prop}{σ:Lg}{ev:Value}{s':Shared}{G:Value→Shared→Prop}(hX:X=fun _ _ _=>False)(q:Aq g x sc tr X σ ev s'):wpAny g.M x.A («leaving» (x.env sc) ev) (fun _ s''=>G ev s'') (fun e' s''=>G e' s'') s':=by
 subst hX
 cases q with
 |mk _ _ _ _ _ _ _ _ _ _ _ _ _ _ q=>exact fE q
 |out _ q=>exact wpAny_mono q (fun _ s2 q=>by cases q with|mk _ _ _ _ _ _ _ _ _ _ _ _ _ _ q=>exact fE q) fun _ _ f=>f.elim
theorem TE{N a S n:Nat}{s:Shared}{zs:List Int}{vs:List Value}{o:Obj}{fd:FuncData}{body:List Stmt}{y:Str}{Q:VQ}
  (X0:Γ.K.In (hideAll s.heap [S])) (T:TopRead g.p g.loose g.mg g.mb (hideAll s.heap [S])) (hS:s.heap.get? S=some (Ag "list" vs n)) (hi:IntsAre vs zs)
  (hd:4*d≤400) (hhd:Γ.hd=false) (htr:Γ.tr=false) (HF:BI g Γ.K d Γ.fn) (HC:ER g Γ.K (d+1) Γ.cp) (HA:LE g Γ.K (d+1) Γ.cp)
  (HL:Ew g Γ.K (d+1) fd.scope false Γ.lp) (HLT:Ew g Γ.K (d+1) fd.scope true Γ.lpT)
  (ho:Γ.K.lookup a=some o) (hod:o.data= .func fd) (hbody:fd.body= .stmts body) (hc:FJ Γ.K fd=true) (hargs:fd.params.args.map (·.arg)=[y]) (hkw:fd.params.kwarg=none) (hdf:fd.defaults= .none) (hx:Dc fd.scope y=true)
  (h:Av (Γ.sS fd.scope) N body [(y,.li zs)] [] {next:=fun _ _=>False,ret:=Q}):codeAny g.M callerA (.call (.ref a) ⟨[.ref S],[]⟩) (WZ Q s) s:=by
 have c:=FJ.ok hc
 have keep:∀b o,(hideAll s.heap [S]).get? b=some o→s.heap.get? b=some o:=fun b o e=>of_hideAll _ e
 have X:=X0.keeps keep
 refine codeAny_call_function (by decide) (X _ _ ho) hod c.co c.gen hbody (codeRec_of X c.code) ?_
 refine J0 (dfl:=[]) (binds:=[(y,.ref S)]) (extra:=[]) c.po c.ko c.va (fun Q hq=> ?_) ?_ ?_
 ·rw[hdf]
  exact wpAny_pure (hq _ rfl)
 ·rw[hargs,hkw]
  simp[B8,Cy,Ig,E7,De]
 rw[hkw]
 refine wpAny_pure ?_
 rw[c.glo,c.blt,c.clo]
 have hb:∀z∈[(y,Value.ref S)],Dc fd.scope z.1=true:=fun z hz=>by rw[List.mem_singleton.mp hz];exact hx
 refine wpAny_newFunctionEnv_cells c.kind (fun z hz=>Ep (hb z hz)) fun env' he s' xx=> ?_
 subst he
 refine⟨(T.nolimit.keeps keep).keeps xx.toInCall.keep,codeAny_func ?_⟩
 obtain⟨h₁,tk,rfl,_⟩:=xx.done
 have hk₁:=xx.toInCall.keep
 obtain⟨cells,NC,Y⟩:=Cl.news (h₀:=s.heap) (Nat.le_refl _) fun n z hm=>⟨xx.cell n z (lookup_of_mem_nodup (cellsFrom_names fd.scope.names 0 (s.heap.objs.size+1) [] [] rfl▸c.cells) hm),xx.above n z hm⟩
 have hgt:=Jz Y fun n z hm=>xx.above n z hm
 have hSl:S<s.heap.objs.size:=Heap.lt_size hS
 have FG:Fr (hideAll s.heap [S]) s.heap.objs.size h₁ (bindL (envOfC fd.qualname fd.scope s.heap.objs.size a fd.code).kindOf [(y,.ref S)] fun _=>none):=⟨xx.toInCall.ns,fun b o e=>hk₁ b o (keep b o e),Nat.le_of_eq (hideAll_size _ _)⟩
 have hloc:=Ht (σ:=⟨[(S,Ag "list" vs n)],[]⟩) (m:=[(y,.li zs)]) (.cons (.li (.head _) hi) .nil) (List.nodup_cons.mpr ⟨fun h=>(nomatch h),.nil⟩) hb Y
 have N0:News (hideAll s.heap [S]) s.heap.objs.size h₁ (cells++[(S,Ag "list" vs n)]):=fun p hp=>by
  rcases List.mem_append.mp hp with hp|hp
  ·refine⟨(NC p hp).1,(NC p hp).2.1,?_⟩
   cases q:(hideAll s.heap [S]).get? p.1 with
   |none=>rfl
   |some o=>exact AM ((NC p hp).2.2.symm.trans (keep _ _ q))
  ·rw[List.mem_singleton.mp hp]
   exact⟨hk₁ _ _ hS,Nat.ne_of_lt hSl,hideAll_none _ (.head _)⟩
 have nd0:((cells++[(S,Ag "list" vs n)]).map (·.1)).Nodup:=by
  rw[List.map_append,List.nodup_append]
  refine⟨by rw[←HM Y];exact D3 _ _ _ (fun p hp=>nomatch hp) .nil,List.nodup_cons.mpr ⟨fun h=>(nomatch h),.nil⟩,fun x hx z hz e=> ?_⟩
  obtain⟨p,hp,rfl⟩:=List.mem_map.mp hx
  have h1:=hgt p hp
  rw[e,List.mem_singleton.mp hz] at h1
  exact Nat.lt_irrefl _ (Nat.lt_trans h1 hSl)
 have St0:SS g (TF s S fd a) fd.scope [] ⟨cells,bindL (envOfC fd.qualname fd.scope s.heap.objs.size a fd.code).kindOf [(y,.ref S)] fun _=>none,⟨[(S,Ag "list" vs n)],[]⟩⟩ {s with heap:=h₁,toks:=tk}:=
  ⟨[],FG,by show News _ _ _ ((cells++[])++_);rw[List.append_nil];exact N0,.nil,by show(((cells++[])++_).map _).Nodup;rw[List.append_nil];exact nd0,rfl,rfl,rfl⟩
 have H:HS g (TF s S fd a) (Γ.sS fd.scope) d:=
  ⟨c.kind,fun τ=>by
   show Fm g Γ.K Γ.hd _ _ _
   rw[hhd]
   exact⟨⟨callerA,_,_,rfl,rfl,c.kind,below_caller _⟩,rfl,X0,T,(show 1+300+1+4*(d+1)≤900 from AK [_] [] [.nl (.m 4 AA) (.k 400)] (.nl (.a (.a (.a AO (.k 300)) AO) (.m 4 (.a AA AO))) (.k 900)) [1,1] rfl hd),(show 4+3+16*(d+1)≤9000 from AK [_] [] [.nl (.m 4 AA) (.k 400)] (.nl (.a (.a k4 (.k 3)) (.m 16 (.a AA AO))) (.k 9000)) [1,4] rfl hd),fun _=>rfl⟩,
   fun _=>⟨callerA,rfl,below_caller _⟩,HF,HC,HA,by show Ew _ _ _ _ Γ.tr _;rw[htr];exact HL,HLT,fun _=>rfl⟩
 exact wpAny_mono ((GX N _ _ H).ss h St0 hloc) (fun fl s' q=>P4 hS q) fun ev s' q=>P3 (G:=fun e s=>WZ Q s (.error e) s) rfl q
end
end
section
theorem tZ(P:Params):(KF P).In (BM P):=Frag.in_of (as:=(KF P).map (·.1)) rfl (by kernel_rfl)
theorem Wg.get{m' m:AU}(h:Wg m' m){x:Str}{v:V}:AP m' x=some v→AP m x=some v:=by
 have:∀l:AU,AP l x=some v→(x,v)∈l:=fun l=>by
  induction l with
  |nil=>intro e;cases e
  |cons p l ih=>
   intro e
   unfold AP at e
   split at e
   ·rename_i q
    obtain⟨y,u⟩:=p
    have q:y=x:=q
    subst q;cases e;exact .head _
   ·exact .tail _ (ih e)
 intro e
 exact h _ (this _ e)
theorem Pv{g:Gx}{d:Nat}{K:Frag}{sc:Scope}{tr:Bool}{lp:Scope→Stmt→AV}(H:Ew g K d sc tr lp):Ew g K d sc tr (fun sc st m C Q=>lp sc st m C (uc Q)):=by
 intro st m C Q h hk x A₁ τ eA Mf B s S hl
 refine wpAny_mono (H st m C (uc Q) h hk x A₁ τ eA Mf B s S hl) (fun fl s' q=> ?_) fun ev s' q=>q
 obtain⟨τ',C',e,S',q⟩:=q
 refine⟨τ',C',e,S',?_⟩
 cases fl with
 |next=>
  obtain⟨m',hl',m2,hs,q⟩:=q
  exact⟨m2,hl'.sub fun x v hx=>hs.get hx,q⟩
 |_=>exact q
def XJ(P:Params)(fn:AG):Scope→Expr→AW:=Fp (GA P (fun _ _ _ _ _=>False) (fun _ _ _ _ _=>False) fn) 100
def lpT(P:Params)(fn:AG):Scope→Stmt→AV:=fun sc st m C Q=>Eh {GA P (XJ P fn) (fun _ _ _ _ _=>False) fn with dm:=sA} 100 sc st m C (uc Q)
theorem sJ(P:Params)(fn:AG):XB P (XJ P fn) fn:=fun _ _ _ _ _ h=>h
theorem rL(P:Params)(fn:AG)(LT:Scope→Stmt→AV):L8 P (XJ P fn) (lpT P fn) LT fn:=fun _ _ _ _ h=>h
theorem Mn{R:WRecords}{cl:Str→Option Addr}{P:Params}{ord:List DictEntry→List DictEntry}{xs:List WData}{s s1:Shared}{a:Addr}(h:layAllW R cl P ord [.list xs] s=some ([.ref a],s1)):
  ∃vs s',layAllW R cl P ord xs s=some (vs,s')∧a=s'.heap.objs.size∧s1.heap.get? a=some (Ag "list" vs 0):=by
 unfold layAllW layW at h
 cases hx:layAllW R cl P ord xs s with
 |none=>rw[hx] at h;cases h
 |some r=>
  obtain⟨vs,s'⟩:=r
  rw[hx] at h
  simp only[layAllW,Option.some.injEq,Prod.mk.injEq,List.cons.injEq,Value.ref.injEq,and_true] at h
  obtain⟨rfl,rfl⟩:=h
  exact⟨vs,_,rfl,rfl,Heap.get?_push_size _ rfl⟩
theorem QF(P:Params):∃o fd body,(KF P).lookup 956=some o∧o.data= .func fd∧fd.body= .stmts body∧body=Bo P 956∧FJ (KF P) fd=true∧fd.scope=Nf P 956∧fd.params.args.map (·.arg)=[Str.ofString "script"]∧fd.params.kwarg=none∧fd.defaults= .none∧Dc (Nf P 956) (Str.ofString "script")=true:=
 ⟨QK,_,_,by kernel_rfl,rfl,rfl,by kernel_rfl,by kernel_rfl,by kernel_rfl,by kernel_rfl,by kernel_rfl,by kernel_rfl,by kernel_rfl⟩
theorem OG(P:Params):nsIn (KF P) mainGlobals "law"=some (some (.ref 956)):=by kernel_rfl
theorem Vy(P:Params):((KF P).lookup 956).isSome=true:=by kernel_rfl
theorem Pw:WalkX qv DE (fun _ _=>True) (fun s=>(s.heap,s.toks)) (fun w=>(BM w.params,1738)) L0.row.toRowW Oz [] (fun f vs=>PySem.call f vs):=by
 intro w s₀ s₁ mg mb G Y fa o pm cd doc dV kV ho hd hcd hD hmg hg args vals as L hpre hlay hrd hwl hlo
 wrow_args hpre hlay hrd hwl hlo
 rename_i zs _ _ _ _ _ as1 as2 S vs as3 hL ra w1 r0 hI _ h63 _
 have hH:s₀.heap=BM w.params:=congrArg (·.1) Y
 have hK0:(KF w.params).In s₀.heap:=by rw[hH];exact tZ w.params
 obtain⟨ord,_,hl⟩:=L.laid
 obtain⟨vs',s',hl1,hS,hob⟩:=Mn (xs:=ofPys (zs.map PyData.int)) hl
 have keeps:=layAllW_keeps _ _ _ hl1
 have below:∀a o,(KF w.params).lookup a=some o→a<S:=fun a o e=>by
  rw[hS];exact Heap.lt_size (keeps a o (hK0 a o e))
 obtain⟨_,h956⟩:=Option.isSome_iff_exists.mp (Vy w.params)
 have hS9:=below _ _ h956
 have hKx:(KF w.params).In (hideAll s₁.heap [S]):=fun a o e=>hideAll_get _ (L.keeps a o (hK0 a o e)) (fun q=>by
  have:=below a o e
  have q:a=S:=by simpa using q
  rw[q] at this
  exact absurd this (Nat.lt_irrefl _))
 have hh:∀a,a<S→a∉[S]:=fun a h q=>by
  have q:a=S:=by simpa using q
  rw[q] at h
  exact absurd h (Nat.lt_irrefl _)
 have T0:=topRead_of G.T
 have T1:TopRead qv (looseW qv DE) mg mb (hideAll s₁.heap [S]):=by
  obtain⟨⟨o1,es1,ep1,e1,r1⟩,⟨o2,es2,ep2,e2,r2⟩,⟨mc,⟨o3,es3,ep3,e3,r3⟩,e4⟩,b1,b2⟩:=T0
  exact⟨⟨o1,es1,ep1,hideAll_get _ e1 (hh _ (Nat.lt_trans (by decide) hS9)),r1⟩,⟨o2,es2,ep2,hideAll_get _ e2 (hh _ (Nat.lt_trans (by decide) hS9)),r2⟩,⟨mc,⟨o3,es3,ep3,hideAll_get _ e3 (hh _ (Nat.lt_trans (by decide) hS9)),r3⟩,e4⟩,b1,b2⟩
 have hfa:fa=956:=by
  have h1:=mg_of hKx T1.g (OG w.params)
  have h2:mg Oz.name=some (.ref fa):=hmg
  have h3:Oz.name=Str.ofString "law":=rfl
  rw[h3] at h2
  have:=h1.symm.trans h2
  cases this;rfl
 subst hfa
 have hvs:vs'=vs:=by
  obtain⟨o,h1,_,n,h2⟩:=hL
  rw[hob] at h1
  cases h1
  cases h2
  rfl
 subst hvs
 obtain⟨o,fd,body,f1,f2,f3,f4,f5,f6,f7,f8,f9,f10⟩:=QF w.params
 have HF:=TK (g:=⟨L0.row.prog,w,qv,looseW qv DE,mg,mb⟩) (P:=w.params)
 obtain⟨C1,A1⟩:=O2 (n:=100) (Γ:=GA w.params (fun _ _ _ _ _=>False) (fun _ _ _ _ _=>False) (NL w.params)) rfl HF
 have L1:=SQ (n:=100) (Γ:={GA w.params (XJ w.params (NL w.params)) (fun _ _ _ _ _=>False) (NL w.params) with dm:=sA}) rfl rfl rfl HF C1 A1 (fun _=>Fy) (fun _=>Fy)
 have law:=Qv w.params (XJ w.params (NL w.params)) (lpT w.params (NL w.params)) (fun _ _ _ _ _=>False) (NL w.params) (P6 w.params) (sJ _ _) (rL _ _ _) zs (by first|exact Nat.le_of_lt_succ h63|exact h63|omega) {next:=fun _ _=>False,ret:=fun V _=>V= .bool true} (fun b C h=>by rw[h])
 have top:=TE (Γ:=GL w.params (XJ w.params (NL w.params)) (lpT w.params (NL w.params)) (fun _ _ _ _ _=>False) (NL w.params)) hKx T1 hob hI (by decide) rfl rfl HF C1 A1 (Pv (L1 _)) Fy f1 f2 f3 f5 f7 f8 f9 (by rw[f6];exact f10) (by rw[f4,f6];exact law)
 refine wpAny_call (codeAny_mono top fun r s2 g=> ?_)
 cases r with
 |error e=>exact g.elim
 |ok fl=>cases fl with
  |ret v=>
   obtain⟨⟨σ,V,C,r,rfl⟩,hk,hg',ho'⟩:=g
   cases r
   refine⟨.inl ⟨.bool true,.bool true,[],rfl,fun _=>rfl,.bool true,?_,fun _=>⟨.nil,fun _ h=>nomatch h⟩⟩,.of_keep hk,ho',.of_eq (hg'.trans hg)⟩
   wrow_post
  |_=>exact g.elim
theorem z8:L0.row.toRowW.promised:=⟨[.list [.int 3,.int 1]],by decide+kernel,by decide+kernel⟩
theorem all_done:L0.Holds:=Ok Pw z8
end
end
end Mine.Internal
theorem PySem.Challenge.cw_ll0006_01_holds : PySem.Challenge.rw_ll0006_01.Holds := by
 exact Mine.Internal.all_done
