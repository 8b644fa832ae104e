import PyProof.Rows.All
import PyProof.GenQ
import Wide.FinOn
import OpenK.AllK
import Wide.All
import Lean
import PySem.Challenge.RW_tp0043_01
set_option tactic.hygienic false
set_option bootstrap.genMatcherCode false
set_option compiler.extract_closed false
set_option genSizeOf false
set_option maxRecDepth 100000
set_option Elab.async false
set_option linter.all false
section
namespace Mine.Internal
variable{a b c L R d i n:Nat}{P:Prop}
theorem oA(h:a<=b)(e:Nat.ble b c=true:=by rfl):a<=c:=Nat.le_trans h (Nat.le_of_ble_eq_true e)
theorem oB(h:a=b)(e:Nat.ble b c=true:=by rfl):a<=c:=oA (Nat.le_of_eq h) e
theorem oD(h:a<=b)(e:L+b<=R+a:=by simp+arith):L<=R:=Nat.le_of_add_le_add_right (Nat.le_trans e (Nat.add_le_add_left h R))
theorem oE(h:a<=b)(h2:c<=d)(e:L+(b+d)<=R+(a+c):=by simp+arith):L<=R:=oD (Nat.add_le_add h h2) e
theorem oF{f g:Nat}(h:a<=b)(h2:c<=d)(h3:f<=g)(e:L+(b+(d+g))<=R+(a+(c+f)):=by simp+arith):L<=R:=oE h (Nat.add_le_add h2 h3) e
theorem oG(h:a=b)(e:L+b=R+a:=by simp+arith):L=R:=by cases h;exact Nat.add_right_cancel e
theorem oH(h:a<=b)(e:b+1<=a:=by simp+arith):P:=(Nat.lt_irrefl _ (Nat.le_trans e h)).elim
theorem oI(h:a<=b)(h2:c<=d)(e:b+d+1<=a+c:=by simp+arith):P:=oH (Nat.add_le_add h h2) e
theorem oJ{f g:Nat}(h:a<=b)(h2:c<=d)(h3:f<=g)(e:b+(d+g)+1<=a+(c+f):=by simp+arith):P:=oI h (Nat.add_le_add h2 h3) e
theorem oK(h:a=b)(h2:c=d)(e:L+(b+d)=R+(a+c):=by simp+arith):L=R:=by cases h;cases h2;exact Nat.add_right_cancel e
theorem iA{a b c:Int}(h:a<=b)(e:decide (b<=c)=true:=by rfl):a<=c:=Int.le_trans h (of_decide_eq_true e)
theorem iD{L R a b:Int}(h:a<=b)(e:L+b<=R+a:=by simp+arith):L<=R:=Int.le_of_add_le_add_right (Int.le_trans e (Int.add_le_add_left h R))
theorem iE{L R a b c d:Int}(h:a<=b)(h2:c<=d)(e:L+(b+d)<=R+(a+c):=by simp+arith):L<=R:=iD (Int.add_le_add h h2) e
theorem iG{L R a b:Int}(h:a=b)(e:L+b=R+a:=by simp+arith):L=R:=by cases h;exact(Int.add_left_inj _).mp e
theorem oM(h:i<=n):i=n\/i<n:=Nat.eq_or_lt_of_le h
theorem Jp(h:i<5):i=0\/i=1\/i=2\/i=3\/i=4:=by
 match i,h with
 |0,_=>exact .inl rfl
 |1,_=>exact .inr (.inl rfl)
 |2,_=>exact .inr (.inr (.inl rfl))
 |3,_=>exact .inr (.inr (.inr (.inl rfl)))
 |4,_=>exact .inr (.inr (.inr (.inr rfl)))
 |n+5,h=>exact absurd h (Nat.not_lt.mpr (Nat.le_add_left ..))
theorem A3(h:i<6):i=0\/i=1\/i=2\/i=3\/i=4\/i=5:=by
 cases i with
 |zero=>exact .inl rfl
 |succ i=>exact .inr ((Jp (Nat.lt_of_succ_lt_succ h)).imp (congrArg (· +1)) (Or.imp (congrArg (· +1)) (Or.imp (congrArg (· +1)) (Or.imp (congrArg (· +1)) (congrArg (· +1))))))
theorem E3(h:i<4):i=0\/i=1\/i=2\/i=3:=
 (Jp (Nat.lt_of_lt_of_le h (Nat.le_succ _))).imp_right (Or.imp_right (Or.imp_right λx=>x.resolve_right λe=>Nat.lt_irrefl _ (e▸h)))
theorem tI(h:a≠b):(a:Int)≠b:=λq=>h (Int.ofNat.inj q)
theorem BJ{α:Type _}{a:α}(h:none=some a):P:=nomatch h
theorem tE{α:Type _}{a:α}(h:some a=none):P:=nomatch h
theorem ME(h:false=true):P:=nomatch h
theorem tJ(h:true=false):P:=nomatch h
theorem nI{α:Type _}(f:α->Nat){a b:α}(h:a=b)(e:Nat.beq (f a) (f b)=false:=by rfl):P:=by cases h;exact tJ ((Nat.beq_refl _).symm.trans e)
theorem sj{α:Type _}{a b:α}(h:some a=some b):a=b:=Option.some.inj h
theorem A4{α:Type _}{a b:α}(h:some a=some b):b=a:=(Option.some.inj h).symm
inductive Pm{α β:Type}(x:Option α)(f:α->β)(b:β):Prop
 |mk (a:α) (h:x=some a) (e:f a=b):Pm x f b
theorem AZ{α β:Type}{x:Option α}{f:α->β}{b:β}(h:x.map f=some b):Pm x f b:=by obtain⟨a,h,e⟩:=Option.map_eq_some_iff.mp h;exact⟨a,h,e⟩
inductive Hp{α β:Type}(x:Option α)(f:α->Option β)(b:β):Prop
 |mk (a:α) (h:x=some a) (e:f a=some b):Hp x f b
theorem AD{α β:Type}{x:Option α}{f:α->Option β}{b:β}(h:x.bind f=some b):Hp x f b:=by obtain⟨a,h,e⟩:=Option.bind_eq_some_iff.mp h;exact⟨a,h,e⟩
inductive Hq{α β:Type}(l:List α)(f:α->β)(b:β):Prop
 |mk (a:α) (h:a∈l) (e:f a=b):Hq l f b
theorem ID{α β:Type}{l:List α}{f:α->β}{b:β}(h:b∈l.map f):Hq l f b:=by obtain⟨a,h,e⟩:=List.mem_map.mp h;exact⟨a,h,e⟩
theorem AN{α:Type}{a b:α}{l:List α}(h:a∈b::l):a=b\/a∈l:=List.mem_cons.mp h
theorem HV{α:Type}{a:α}{l m:List α}(h:a∈l++m):a∈l\/a∈m:=List.mem_append.mp h
theorem AR{α:Type}{a b:α}(h:a∈[b]):a=b:=List.mem_singleton.mp h
theorem BG{a b:Bool}(h:(a&&b)=true):a=true/\b=true:=Bool.and_eq_true_iff.mp h
theorem CW{α:Type}{p:α->Bool}{l:List α}(h:l.all p=true):∀x,x∈l->p x=true:=List.all_eq_true.mp h
theorem EC{α:Type}{l:List α}{a:α}(h:l[i]? =some a):i<l.length:=(List.getElem?_eq_some_iff.mp h).1
inductive tK{α:Type}(b:Bool)(x y:Option α)(r:α):Prop
 |l (e:b=true) (h:x=some r):tK b x y r
 |r (e:b=false) (h:y=some r):tK b x y r
theorem lB{α:Type}{b:Bool}{x y:Option α}{r:α}(h:(bif b then x else y)=some r):tK b x y r:=by
 cases b with
 |true=>exact .l rfl h
 |false=>exact .r rfl h
theorem A5{α:Type}{b:Bool}{y:Option α}{r:α}(h:(bif b then none else y)=some r):b=false/\y=some r:=by
 cases b with
 |true=>exact BJ h
 |false=>exact⟨rfl,h⟩
theorem TA{α:Type}{b:Bool}{y:Option α}{r:α}(h:(bif b then y else none)=some r):b=true/\y=some r:=by
 cases b with
 |true=>exact⟨rfl,h⟩
 |false=>exact BJ h
theorem A6{a b:Bool}(h:(a||b)=false):a=false/\b=false:=Bool.or_eq_false_iff.mp h
theorem A7{p:Prop}[Decidable p]{b:Bool}(e:decide p=b)(h:b=true):p:=of_decide_eq_true (e.trans h)
theorem E4{c:Prop}[Decidable c]{a b:Prop}(h1:c->a)(h2:¬c->b):if c then a else b:=by
 by_cases h:c
 .exact Eq.mpr (if_pos h) (h1 h)
 .exact Eq.mpr (if_neg h) (h2 h)
theorem TC{α:Type}{l:List α}(h:l.length=n+1):∃a r,l=a::r/\r.length=n:=by
 cases l with
 |nil=>exact nI Nat.ctorIdx h
 |cons a r=>exact⟨a,r,rfl,Nat.succ.inj h⟩
inductive Jq{α:Type}(p:Prop)(x y:Option α)(r:α):Prop
 |l (e:p) (h:x=some r):Jq p x y r
 |r (e:¬p) (h:y=some r):Jq p x y r
theorem KE{α:Type}{p:Prop}[Decidable p]{x y:Option α}{r:α}(h:(if p then x else y)=some r):Jq p x y r:=by
 by_cases q:p
 .exact .l q ((if_pos q).symm.trans h)
 .exact .r q ((if_neg q).symm.trans h)
theorem bY{a b:Bool}(h:(a||b)=true):a=true\/b=true:=Bool.or_eq_true_iff.mp h
theorem TD{α:Type}{a b:α}{l:List α}(h:b∈l++[a]):b∈l\/b=a:=(List.mem_append.mp h).imp_right List.mem_singleton.mp
theorem Pn{α:Type}{a:α}{l:List α}(h:l.Nodup)(n:a∉l):(l++[a]).Nodup:=List.nodup_append.mpr ⟨h,List.nodup_cons.mpr ⟨List.not_mem_nil,.nil⟩,λb hb c hc q=>n (List.mem_singleton.mp hc▸q▸hb)⟩
theorem Po{α:Type}{a b:α}{l:List α}(h:(l++[a])[i]? =some b):l[i]? =some b\/(i=l.length/\b=a):=by
 rcases Nat.lt_or_ge i l.length with q|q
 .exact .inl ((List.getElem?_append_left q).symm.trans h)
 .replace h:=(List.getElem?_append_right q).symm.trans h;cases q2:i-l.length with
  |zero=>rw[q2]at h;exact .inr ⟨Nat.le_antisymm (Nat.le_of_sub_eq_zero q2) q,(sj h).symm⟩
  |succ j=>rw[q2]at h;exact BJ h
theorem E5{p:Nat}:(p:Int)=a\/(p:Int)=b↔p=a\/p=b:=or_congr Int.ofNat_inj Int.ofNat_inj
theorem A8(h:i=a\/i=b):(a:Int)+b-i=((a+b-i:Nat):Int):=(Int.ofNat_sub (h.elim (λe=>e▸Nat.le_add_right ..) (λe=>e▸Nat.le_add_left ..))).symm
theorem Vr(h:n<=b):(a:Int)+b-(n:Int)=((a+b-n:Nat):Int):=(Int.ofNat_sub (Nat.le_trans h (Nat.le_add_left ..))).symm
theorem Pp{p:Nat}(h:p=a\/p=b)(g:a<n/\b<n):a+b-p<n:=
 h.elim (λe=>by rw[e,Nat.add_sub_cancel_left];exact g.2) λe=>by rw[e,Nat.add_sub_cancel];exact g.1
theorem Vt(h:a<5/\b<5):(-1:Int)=a\/(-1:Int)=b↔9=a\/9=b:=
 have k:∀c:Nat,(-1:Int)≠c:=λc q=>absurd (q▸Int.natCast_nonneg c) (by decide)
 iff_of_false (λq=>q.elim (k a) (k b)) λq=>q.elim (λe=>absurd (e▸h.1) (by decide)) λe=>absurd (e▸h.2) (by decide)
theorem E6{s q r:Nat}(h1:a<=b)(h2:b<=s)(e:b+q=a+r):2*(s-b)+r<2*(s-a)+(q+1):=by obtain⟨k,rfl⟩:=Nat.exists_eq_add_of_le h1;obtain⟨m,rfl⟩:=Nat.exists_eq_add_of_le h2;obtain rfl:k+q=r:=Nat.add_left_cancel (Nat.add_assoc .. ▸e);rw[Nat.add_sub_cancel_left,Nat.add_assoc a,Nat.add_sub_cancel_left];simp+arith
end Mine.Internal
end
section
open PySem
namespace Mine.Internal
variable{p P y:Prop}{a:AV}{x:Expr}{k:String}{b:Bool}{o:Option AV}
inductive AV where
 |none
 |bool(b:Bool)
 |int(i:Int)
 |str(s:List Nat)
 |fn(a:Nat)
 |blt(id:String)
 |typ(n:String)
 |loc(l:Nat)
 |flist(xs:List AV)
 |ftup(xs:List AV)
 |range(n:Int)
 |raw(v:Value)
 deriving Inhabited
inductive SM where
 |val(a:AV)
 |enum(a:AV)
 |zip(a b:AV)
inductive AO where
 |list(xs:List AV)
 |dict(es:List (AV×AV))(g:Obj)
 |inst0(c:Nat)
 |inst(c:Nat)(d:Nat)
 |ns(fs:List (Str×AV))
 |cell(v:Option AV)
 |clos(cl:List (Str×Nat))
 |citer(self:Nat)(f:Nat)
 |dead
 |tab
 deriving Inhabited
structure AF where
 scope:Scope
 locals:List (Str×AV)
 cells:List (Str×Nat)
 deriving Inhabited
structure AC where
 fr:AF
 st:List AO
 lo:Nat
 deriving Inhabited
inductive ND where
 |next|brk|cont
 |ret(v:AV)
inductive Res where
 |v(a:AV)
 |vs(as:List AV)
 |t(b:Bool)
 |f(x:ND)
noncomputable def BV{α β:Type}(o:Option α)(k:α->β)(r:β):β:=Option.rec r k o
inductive Jr{α β:Type}(o:Option α)(k:α->Option β)(r:Option β)(b:β):Prop
 |l (a:α) (h:o=some a) (e:k a=some b):Jr o k r b
 |r (h:o=none) (e:r=some b):Jr o k r b
theorem BM{α β:Type}{o:Option α}{k:α->Option β}{r:Option β}{b:β}(h:BV o k r=some b):Jr o k r b:=by
 cases o with
 |none=>exact .r rfl h
 |some a=>exact .l a rfl h
inductive Js{α:Type}(o:Option α)(k:α->Prop)(r:Prop):Prop
 |l (a:α) (h:o=some a) (e:k a):Js o k r
 |r (h:o=none) (e:r):Js o k r
theorem DR{α:Type}{o:Option α}{k:α->Prop}{r:Prop}(h:BV o k r):Js o k r:=by
 cases o with
 |none=>exact .r rfl h
 |some a=>exact .l a rfl h
theorem bZ{α:Type}{o:Option α}{k:α->Bool}(h:BV o k false=true):∃a,o=some a/\k a=true:=by
 cases o with
 |none=>exact ME h
 |some a=>exact⟨a,rfl,h⟩
inductive Jt{α:Type}(o:Option α)(k:α->Bool)(r:Bool):Prop
 |l (a:α) (h:o=some a) (e:k a=true):Jt o k r
 |r (h:o=none) (e:r=true):Jt o k r
theorem cA{α:Type}{o:Option α}{k:α->Bool}{r:Bool}(h:BV o k r=true):Jt o k r:=by
 cases o with
 |none=>exact .r rfl h
 |some a=>exact .l a rfl h
inductive Pq{α:Type}{p:Prop}(f:p->Option α)(b:α):Prop
 |mk (q:p) (h:f q=some b):Pq f b
theorem EI{α:Type}[Decidable p]{f:p->Option α}{b:α}(h:(if q:p then f q else none)=some b):Pq f b:=by
 by_cases q:p
 .exact⟨q,(dif_pos q).symm.trans h⟩
 .exact BJ ((dif_neg q).symm.trans h)
noncomputable def YY(a:AV):Option Bool:=if h:a.ctorIdx=1 then AV.bool.elim a h some else none
theorem QD{x:Bool}(h:YY a=some x):a= .bool x:=by obtain⟨q,h⟩:=EI h;exact AV.bool.elim (motive_1:=λa=>∀q,AV.bool.elim a q some=some x->a= .bool x) a q (λy _ h=>congrArg AV.bool (sj h)) q h
noncomputable def BY(a:AV):Option Int:=if h:a.ctorIdx=2 then AV.int.elim a h some else none
theorem AM{x:Int}(h:BY a=some x):a= .int x:=by obtain⟨q,h⟩:=EI h;exact AV.int.elim (motive_1:=λa=>∀q,AV.int.elim a q some=some x->a= .int x) a q (λy _ h=>congrArg AV.int (sj h)) q h
noncomputable def DF(a:AV):Option (List Nat):=if h:a.ctorIdx=3 then AV.str.elim a h some else none
theorem AU{x:(List Nat)}(h:DF a=some x):a= .str x:=by obtain⟨q,h⟩:=EI h;exact AV.str.elim (motive_1:=λa=>∀q,AV.str.elim a q some=some x->a= .str x) a q (λy _ h=>congrArg AV.str (sj h)) q h
noncomputable def pM(a:AV):Option Nat:=if h:a.ctorIdx=4 then AV.fn.elim a h some else none
theorem OI{x:Nat}(h:pM a=some x):a= .fn x:=by obtain⟨q,h⟩:=EI h;exact AV.fn.elim (motive_1:=λa=>∀q,AV.fn.elim a q some=some x->a= .fn x) a q (λy _ h=>congrArg AV.fn (sj h)) q h
noncomputable def tL(a:AV):Option String:=if h:a.ctorIdx=5 then AV.blt.elim a h some else none
theorem TE{x:String}(h:tL a=some x):a= .blt x:=by obtain⟨q,h⟩:=EI h;exact AV.blt.elim (motive_1:=λa=>∀q,AV.blt.elim a q some=some x->a= .blt x) a q (λy _ h=>congrArg AV.blt (sj h)) q h
noncomputable def tM(a:AV):Option String:=if h:a.ctorIdx=6 then AV.typ.elim a h some else none
theorem TF{x:String}(h:tM a=some x):a= .typ x:=by obtain⟨q,h⟩:=EI h;exact AV.typ.elim (motive_1:=λa=>∀q,AV.typ.elim a q some=some x->a= .typ x) a q (λy _ h=>congrArg AV.typ (sj h)) q h
noncomputable def GF(a:AV):Option Nat:=if h:a.ctorIdx=7 then AV.loc.elim a h some else none
theorem CT{x:Nat}(h:GF a=some x):a= .loc x:=by obtain⟨q,h⟩:=EI h;exact AV.loc.elim (motive_1:=λa=>∀q,AV.loc.elim a q some=some x->a= .loc x) a q (λy _ h=>congrArg AV.loc (sj h)) q h
noncomputable def MZ(a:AV):Option (List AV):=if h:a.ctorIdx=8 then AV.flist.elim a h some else none
theorem HO{x:(List AV)}(h:MZ a=some x):a= .flist x:=by obtain⟨q,h⟩:=EI h;exact AV.flist.elim (motive_1:=λa=>∀q,AV.flist.elim a q some=some x->a= .flist x) a q (λy _ h=>congrArg AV.flist (sj h)) q h
noncomputable def TG(a:AV):Option (List AV):=if h:a.ctorIdx=9 then AV.ftup.elim a h some else none
theorem JQ{x:(List AV)}(h:TG a=some x):a= .ftup x:=by obtain⟨q,h⟩:=EI h;exact AV.ftup.elim (motive_1:=λa=>∀q,AV.ftup.elim a q some=some x->a= .ftup x) a q (λy _ h=>congrArg AV.ftup (sj h)) q h
noncomputable def Hr(a:AV):Option Int:=if h:a.ctorIdx=10 then AV.range.elim a h some else none
theorem tN{x:Int}(h:Hr a=some x):a= .range x:=by obtain⟨q,h⟩:=EI h;exact AV.range.elim (motive_1:=λa=>∀q,AV.range.elim a q some=some x->a= .range x) a q (λy _ h=>congrArg AV.range (sj h)) q h
noncomputable def KX(a:AO):Option (List AV):=if h:a.ctorIdx=0 then AO.list.elim a h some else none
theorem MG{a:AO}{x:(List AV)}(h:KX a=some x):a= .list x:=by obtain⟨q,h⟩:=EI h;exact AO.list.elim (motive:=λa=>∀q,AO.list.elim a q some=some x->a= .list x) a q (λy _ h=>congrArg AO.list (sj h)) q h
noncomputable def nsOf(a:AO):Option (List (Str×AV)):=if h:a.ctorIdx=4 then AO.ns.elim a h some else none
theorem Bt{a:AO}{x:(List (Str×AV))}(h:nsOf a=some x):a= .ns x:=by obtain⟨q,h⟩:=EI h;exact AO.ns.elim (motive:=λa=>∀q,AO.ns.elim a q some=some x->a= .ns x) a q (λy _ h=>congrArg AO.ns (sj h)) q h
noncomputable def cellOf(a:AO):Option (Option AV):=if h:a.ctorIdx=5 then AO.cell.elim a h some else none
theorem MH{a:AO}{x:(Option AV)}(h:cellOf a=some x):a= .cell x:=by obtain⟨q,h⟩:=EI h;exact AO.cell.elim (motive:=λa=>∀q,AO.cell.elim a q some=some x->a= .cell x) a q (λy _ h=>congrArg AO.cell (sj h)) q h
noncomputable def lC(a:AO):Option (List (Str×Nat)):=if h:a.ctorIdx=6 then AO.clos.elim a h some else none
theorem TH{a:AO}{x:(List (Str×Nat))}(h:lC a=some x):a= .clos x:=by obtain⟨q,h⟩:=EI h;exact AO.clos.elim (motive:=λa=>∀q,AO.clos.elim a q some=some x->a= .clos x) a q (λy _ h=>congrArg AO.clos (sj h)) q h
noncomputable def YZ(a:AO):Option (List (AV×AV)):=if h:a.ctorIdx=1 then AO.dict.elim a h (λes _=>some es)else none
theorem MK{a:AO}{x:List (AV×AV)}(h:YZ a=some x):∃g,a= .dict x g:=by obtain⟨q,h⟩:=EI h;exact AO.dict.elim (motive:=λa=>∀q,AO.dict.elim a q (λes _=>some es)=some x->∃g,a= .dict x g) a q (λy g _ h=>⟨g,by obtain rfl:=sj h;rfl⟩) q h
noncomputable def Ht(a:AO):Option (Nat×Nat):=if h:a.ctorIdx=3 then AO.inst.elim a h (λc d=>some (c,d))else none
theorem tO{a:AO}{x:Nat×Nat}(h:Ht a=some x):a= .inst x.1 x.2:=by obtain⟨q,h⟩:=EI h;exact AO.inst.elim (motive:=λa=>∀q,AO.inst.elim a q (λc d=>some (c,d))=some x->a= .inst x.1 x.2) a q (λy g _ h=>by obtain rfl:=sj h;rfl) q h
noncomputable def Pr(a:AO):Option (Nat×Nat):=if h:a.ctorIdx=7 then AO.citer.elim a h (λc d=>some (c,d))else none
theorem Bu{a:AO}{x:Nat×Nat}(h:Pr a=some x):a= .citer x.1 x.2:=by obtain⟨q,h⟩:=EI h;exact AO.citer.elim (motive:=λa=>∀q,AO.citer.elim a q (λc d=>some (c,d))=some x->a= .citer x.1 x.2) a q (λy g _ h=>by obtain rfl:=sj h;rfl) q h
noncomputable def tP(a:AV):Bool:=Nat.beq a.ctorIdx 0
theorem SN(h:tP a=true):a= .none:=by have h:a.ctorIdx=0:=Nat.eq_of_beq_eq_true h;exact AV.none.elim (motive_1:=λa=>a= .none) a h rfl
noncomputable def QE{α:Type}:List α->Option (α×List α)
 |[]=>none
 |x::r=>some (x,r)
theorem GG{α:Type}{l:List α}{p:α×List α}(h:QE l=some p):l=p.1::p.2:=by
 cases l with
 |nil=>exact BJ h
 |cons x r=>obtain rfl:=sj h;rfl
noncomputable abbrev pw:Program:=PySem.Challenge.pw_tp0043_01
structure FD where
 name:Str
 params:Arguments
 body:List Stmt
 scope:Scope
 deriving Inhabited
noncomputable def KF(s:Stmt):FD:=if h:s.ctorIdx=0 then Stmt.FunctionDef.elim s h (λname args body _ _ _ scope _ _ _=>⟨name,args,body,scope⟩)else default
noncomputable def DA(i:Nat):Stmt:=pw.main.body.getD i default
noncomputable def Bv(s:Stmt):List Stmt:=if h:s.ctorIdx=2 then Stmt.ClassDef.elim s h (λ_ _ _ body _ _ _ _ _ _ _=>body)else[]
noncomputable def KY(i:Nat):Stmt:=(Bv (DA 9)).getD i default
noncomputable def TI:List (Nat×Bool×Nat):=
 [(21,true,1),(28,true,2),(35,true,3),(42,true,4),(109,true,12),(155,true,14),(162,true,15),
  (169,true,17),(176,true,18),(181,true,19),(186,true,20),(200,true,22),(205,true,23),(219,true,25),(224,true,26),(229,true,27),(234,true,28),
  (63,false,0),(70,false,1),(77,false,2),(84,false,3)]
noncomputable def DD(a:Nat):Option FD:=(TI.lookup a).map λp=>KF (if p.1 then DA p.2 else KY p.2)
noncomputable def OJ:Stmt:=(KF (DA 17)).body.getD 2 default
noncomputable def BD:FD:=KF OJ
noncomputable def FI:List (Str×Nat):=[("__init__",63),("_read_char",70),("get_token",77),("push_token",84)]
noncomputable def FZ:Nat:=87
noncomputable def JA:List (Str×AV):=
 [⟨Str.ofString "countOf",AV.fn 21⟩,⟨Str.ofString "getitem",AV.fn 28⟩,⟨Str.ofString "indexOf",AV.fn 35⟩,⟨Str.ofString "setitem",AV.fn 42⟩,
  ⟨Str.ofString "CHAR_MAX",AV.int 127⟩,⟨Str.ofString "_netrclex",AV.fn 87⟩,⟨Str.ofString "b1_set",AV.fn 99⟩,⟨Str.ofString "in_table_b1",AV.fn 109⟩,
  ⟨Str.ofString "b3_exceptions",AV.fn 110⟩,⟨Str.ofString "map_table_b3",AV.fn 155⟩,⟨Str.ofString "in_table_c11",AV.fn 162⟩,⟨Str.ofString "_law_lexer",AV.fn 169⟩,
  ⟨Str.ofString "_law_spelled",AV.fn 176⟩,⟨Str.ofString "_law_written",AV.fn 181⟩,⟨Str.ofString "_law_prepared",AV.fn 186⟩,⟨Str.ofString "_law_told",AV.fn 193⟩,
  ⟨Str.ofString "_law_streets",AV.fn 200⟩,⟨Str.ofString "_law_moved",AV.fn 205⟩,⟨Str.ofString "_law_lacked",AV.fn 212⟩,⟨Str.ofString "_law_marks",AV.fn 219⟩]++
 [⟨Str.ofString "_law_parts",AV.fn 224⟩,⟨Str.ofString "_law_orders",AV.fn 229⟩,⟨Str.ofString "_law_ways",AV.fn 234⟩,⟨Str.ofString "len",AV.blt "len"⟩,
  ⟨Str.ofString "ord",AV.blt "ord"⟩,⟨Str.ofString "chr",AV.blt "chr"⟩,⟨Str.ofString "min",AV.blt "min"⟩,⟨Str.ofString "max",AV.blt "max"⟩,
  ⟨Str.ofString "sum",AV.blt "sum"⟩,⟨Str.ofString "sorted",AV.blt "sorted"⟩,⟨Str.ofString "iter",AV.blt "iter"⟩,⟨Str.ofString "int",AV.typ "int"⟩,
  ⟨Str.ofString "enumerate",AV.typ "enumerate"⟩,⟨Str.ofString "range",AV.typ "range"⟩,⟨Str.ofString "zip",AV.typ "zip"⟩,⟨Str.ofString "list",AV.typ "list"⟩,
  ⟨Str.ofString "set",AV.typ "set"⟩]
noncomputable def params(fd:FD):List Str:=fd.params.args.map (·.arg)
mutual
noncomputable def AV.free:AV->Bool
 | .loc _=>false
 | .flist xs| .ftup xs=>frees xs
 |_=>true
noncomputable def frees:List AV->Bool
 |[]=>true
 |x::r=>x.free&&frees r
end
mutual
noncomputable def AV.lows(k:Nat):AV->Bool
 | .loc l=>Nat.blt l k
 | .flist xs| .ftup xs=>lowss k xs
 |_=>true
noncomputable def lowss(k:Nat):List AV->Bool
 |[]=>true
 |x::r=>x.lows k&&lowss k r
end
noncomputable def AO.lows(k:Nat):AO->Bool
 | .list xs=>lowss k xs
 | .dict es _=>es.all λe=>e.1.lows k&&e.2.lows k
 | .inst _ d=>Nat.blt d k
 | .ns fs=>fs.all λe=>e.2.lows k
 | .cell v=>v.all (·.lows k)
 | .clos cl=>cl.all λe=>Nat.blt e.2 k
 | .citer s _=>Nat.blt s k
 | .inst0 _| .dead| .tab=>true
noncomputable def JR(k:Nat)(st:List AO):Bool:=st.all (·.lows k)
noncomputable def WJ(k:Nat)(f:AF):Bool:=(f.locals.all λe=>e.2.lows k)&&f.cells.all λe=>Nat.blt e.2 k
noncomputable def lE(L:List Str)(l:List (Str×AV)):List (Str×AV):=L.filterMap λx=>(l.lookup x).map λv=>(x,v)
noncomputable def AC.trim(k:Nat)(L:List Str)(c:AC):AC:=⟨{c.fr with locals:=lE L c.fr.locals},c.st.take k,c.lo⟩
noncomputable def AC.trimOk(k:Nat)(L:List Str)(c:AC):Bool:=(Nat.beq k c.st.length||(JR k (c.trim k L).st&&WJ k (c.trim k L).fr))&&Nat.ble k c.st.length&&Nat.ble c.lo k
noncomputable def HW(x:Str)(v:AV):List (Str×AV)->List (Str×AV)
 |[]=>[(x,v)]
 |(y,w)::r=>if y==x then(y,v)::r else(y,w)::HW x v r
noncomputable def AC.setL(c:AC)(x:Str)(v:AV):AC:={c with fr:={c.fr with locals:=HW x v c.fr.locals}}
noncomputable def AC.setAt(c:AC)(l:Nat)(o:AO):AC:={c with st:=c.st.set l o}
noncomputable def AC.add(c:AC)(o:AO):AC:={c with st:=c.st++[o]}
noncomputable def AC.at(c:AC)(l:Nat):Option AO:=c.st[l]?
noncomputable def HS(c:AC)(x:Str)(v:AV):Option AC:=(c.fr.scope.names.lookup x).bind λk=>match k with
 | .local=>some (c.setL x v)
 | .cell=>(c.fr.cells.lookup x).bind λl=>((c.at l).bind cellOf).map λ_=>c.setAt l (.cell (some v))
 |_=>none
noncomputable def tQ(c:AC)(x:Str):Option AV:=(c.fr.cells.lookup x).bind λl=>((c.at l).bind cellOf).bind id
noncomputable def DB(c:AC)(x:Str):Option AV:=(c.fr.scope.names.lookup x).bind λk=>match k with
 | .local=>c.fr.locals.lookup x
 | .cell=>tQ c x
 | .free=>tQ c x
 | .globalImplicit=>JA.lookup x
 |_=>none
noncomputable def BN(st:List AO)(a:AV):Option (List AV):=BV (MZ a) some ((GF a).bind λl=>(st[l]?).bind KX)
noncomputable def NE(st:List AO)(a:AV):Option (List (AV×AV)):=(GF a).bind λl=>(st[l]?).bind YZ
noncomputable def AK(s:List Nat):List AV:=s.map λc=> .str [c]
noncomputable def ES(i:Int):List AV->List AV
 |[]=>[]
 |x::r=> .ftup [.int i,x]::ES (i+1) r
noncomputable def cB(xs ys:List AV):List AV:=List.zipWith (λx y=> .ftup [x,y]) xs ys
noncomputable def GY(n:Int):List AV:=(List.range n.toNat).map λ(i:Nat)=> .int (i:Int)
noncomputable def Vu(st:List AO)(a:AV):Option (List AV):=BV (DF a) (λs=>some (AK s)) (BV (MZ a) some (BV (Hr a) (λn=>if 0<=n/\n<=1000 then some (GY n)else none) ((NE st a).map λes=>es.map (·.1))))
noncomputable def Ps(a:AV):Option (List AV):=(BV (DF a) (λs=>some (AK s)) (BV (TG a) some (MZ a))).map (ES 0)
noncomputable def OK(st:List AO):SM->Option (List AV)
 | .val a=>Vu st a
 | .enum a=>Ps a
 | .zip a b=>(MZ a).bind λxs=>(MZ b).map λys=>cB xs ys
noncomputable def Bw:SM->Option AV
 | .val a=>some a
 | .enum _=>none
 | .zip _ _=>none
noncomputable def GK(xs:List AV):Option (List Int):=xs.rec (some []) λx _ ih=>(BY x).bind λi=>ih.map (i:: ·)
noncomputable def JB(b:Bool):Int:=if b then 1 else 0
noncomputable def tR(x:Expr):Option (BoolOp×List Expr×Pos):=if h:x.ctorIdx=0 then Expr.BoolOp.elim x h (λa b c=>some (a,b,c))else none
theorem cC{t}(h:tR x=some t):x= .BoolOp t.1 t.2.1 t.2.2:=by obtain⟨q,h⟩:=EI h;exact Expr.BoolOp.elim (motive_1:=λx=>∀q,Expr.BoolOp.elim x q (λa b c=>some (a,b,c))=some t->x= .BoolOp t.1 t.2.1 t.2.2) x q (λa b c _ h=>congrArg (λt=>Expr.BoolOp t.1 t.2.1 t.2.2) (sj h)) q h
noncomputable def Pu(x:Expr):Option (Expr×Operator×Expr×Pos):=if h:x.ctorIdx=2 then Expr.BinOp.elim x h (λa b c d=>some (a,b,c,d))else none
theorem Bx{t}(h:Pu x=some t):x= .BinOp t.1 t.2.1 t.2.2.1 t.2.2.2:=by obtain⟨q,h⟩:=EI h;exact Expr.BinOp.elim (motive_1:=λx=>∀q,Expr.BinOp.elim x q (λa b c d=>some (a,b,c,d))=some t->x= .BinOp t.1 t.2.1 t.2.2.1 t.2.2.2) x q (λa b c d _ h=>congrArg (λt=>Expr.BinOp t.1 t.2.1 t.2.2.1 t.2.2.2) (sj h)) q h
noncomputable def Vv(x:Expr):Option (UnaryOp×Expr×Pos):=if h:x.ctorIdx=3 then Expr.UnaryOp.elim x h (λa b c=>some (a,b,c))else none
theorem tS{t}(h:Vv x=some t):x= .UnaryOp t.1 t.2.1 t.2.2:=by obtain⟨q,h⟩:=EI h;exact Expr.UnaryOp.elim (motive_1:=λx=>∀q,Expr.UnaryOp.elim x q (λa b c=>some (a,b,c))=some t->x= .UnaryOp t.1 t.2.1 t.2.2) x q (λa b c _ h=>congrArg (λt=>Expr.UnaryOp t.1 t.2.1 t.2.2) (sj h)) q h
noncomputable def B0(x:Expr):Option (Expr×Expr×Expr×Pos):=if h:x.ctorIdx=5 then Expr.IfExp.elim x h (λa b c d=>some (a,b,c,d))else none
theorem Ju{t}(h:B0 x=some t):x= .IfExp t.1 t.2.1 t.2.2.1 t.2.2.2:=by obtain⟨q,h⟩:=EI h;exact Expr.IfExp.elim (motive_1:=λx=>∀q,Expr.IfExp.elim x q (λa b c d=>some (a,b,c,d))=some t->x= .IfExp t.1 t.2.1 t.2.2.1 t.2.2.2) x q (λa b c d _ h=>congrArg (λt=>Expr.IfExp t.1 t.2.1 t.2.2.1 t.2.2.2) (sj h)) q h
noncomputable def cD(x:Expr):Option (List (Option Expr)×List Expr×Pos):=if h:x.ctorIdx=6 then Expr.Dict.elim x h (λa b c=>some (a,b,c))else none
theorem tT{t}(h:cD x=some t):x= .Dict t.1 t.2.1 t.2.2:=by obtain⟨q,h⟩:=EI h;exact Expr.Dict.elim (motive_1:=λx=>∀q,Expr.Dict.elim x q (λa b c=>some (a,b,c))=some t->x= .Dict t.1 t.2.1 t.2.2) x q (λa b c _ h=>congrArg (λt=>Expr.Dict t.1 t.2.1 t.2.2) (sj h)) q h
noncomputable def Vw(x:Expr):Option (Expr×List Comprehension×Scope×Pos):=if h:x.ctorIdx=8 then Expr.ListComp.elim x h (λa b c d=>some (a,b,c,d))else none
theorem tU{t}(h:Vw x=some t):x= .ListComp t.1 t.2.1 t.2.2.1 t.2.2.2:=by obtain⟨q,h⟩:=EI h;exact Expr.ListComp.elim (motive_1:=λx=>∀q,Expr.ListComp.elim x q (λa b c d=>some (a,b,c,d))=some t->x= .ListComp t.1 t.2.1 t.2.2.1 t.2.2.2) x q (λa b c d _ h=>congrArg (λt=>Expr.ListComp t.1 t.2.1 t.2.2.1 t.2.2.2) (sj h)) q h
noncomputable def By(x:Expr):Option (Expr×List CmpOp×List Expr×Pos):=if h:x.ctorIdx=15 then Expr.Compare.elim x h (λa b c d=>some (a,b,c,d))else none
theorem ZA{t}(h:By x=some t):x= .Compare t.1 t.2.1 t.2.2.1 t.2.2.2:=by obtain⟨q,h⟩:=EI h;exact Expr.Compare.elim (motive_1:=λx=>∀q,Expr.Compare.elim x q (λa b c d=>some (a,b,c,d))=some t->x= .Compare t.1 t.2.1 t.2.2.1 t.2.2.2) x q (λa b c d _ h=>congrArg (λt=>Expr.Compare t.1 t.2.1 t.2.2.1 t.2.2.2) (sj h)) q h
noncomputable def lF(x:Expr):Option (Expr×List Expr×List Keyword×Pos):=if h:x.ctorIdx=16 then Expr.Call.elim x h (λa b c d=>some (a,b,c,d))else none
theorem TJ{t}(h:lF x=some t):x= .Call t.1 t.2.1 t.2.2.1 t.2.2.2:=by obtain⟨q,h⟩:=EI h;exact Expr.Call.elim (motive_1:=λx=>∀q,Expr.Call.elim x q (λa b c d=>some (a,b,c,d))=some t->x= .Call t.1 t.2.1 t.2.2.1 t.2.2.2) x q (λa b c d _ h=>congrArg (λt=>Expr.Call t.1 t.2.1 t.2.2.1 t.2.2.2) (sj h)) q h
noncomputable def cE(x:Expr):Option (Const×Nat×Pos):=if h:x.ctorIdx=19 then Expr.Constant.elim x h (λa b c=>some (a,b,c))else none
theorem lG{t}(h:cE x=some t):x= .Constant t.1 t.2.1 t.2.2:=by obtain⟨q,h⟩:=EI h;exact Expr.Constant.elim (motive_1:=λx=>∀q,Expr.Constant.elim x q (λa b c=>some (a,b,c))=some t->x= .Constant t.1 t.2.1 t.2.2) x q (λa b c _ h=>congrArg (λt=>Expr.Constant t.1 t.2.1 t.2.2) (sj h)) q h
noncomputable def TK(x:Expr):Option (Expr×Str×Pos):=if h:x.ctorIdx=20 then Expr.Attribute.elim x h (λa b c=>some (a,b,c))else none
theorem JS{t}(h:TK x=some t):x= .Attribute t.1 t.2.1 t.2.2:=by obtain⟨q,h⟩:=EI h;exact Expr.Attribute.elim (motive_1:=λx=>∀q,Expr.Attribute.elim x q (λa b c=>some (a,b,c))=some t->x= .Attribute t.1 t.2.1 t.2.2) x q (λa b c _ h=>congrArg (λt=>Expr.Attribute t.1 t.2.1 t.2.2) (sj h)) q h
noncomputable def Jv(x:Expr):Option (Expr×Expr×Pos):=if h:x.ctorIdx=21 then Expr.Subscript.elim x h (λa b c=>some (a,b,c))else none
theorem lH{t}(h:Jv x=some t):x= .Subscript t.1 t.2.1 t.2.2:=by obtain⟨q,h⟩:=EI h;exact Expr.Subscript.elim (motive_1:=λx=>∀q,Expr.Subscript.elim x q (λa b c=>some (a,b,c))=some t->x= .Subscript t.1 t.2.1 t.2.2) x q (λa b c _ h=>congrArg (λt=>Expr.Subscript t.1 t.2.1 t.2.2) (sj h)) q h
noncomputable def JT(x:Expr):Option (Str×Pos):=if h:x.ctorIdx=23 then Expr.Name.elim x h (λa b=>some (a,b))else none
theorem FA{t}(h:JT x=some t):x= .Name t.1 t.2:=by obtain⟨q,h⟩:=EI h;exact Expr.Name.elim (motive_1:=λx=>∀q,Expr.Name.elim x q (λa b=>some (a,b))=some t->x= .Name t.1 t.2) x q (λa b _ h=>congrArg (λt=>Expr.Name t.1 t.2) (sj h)) q h
noncomputable def Hu(x:Expr):Option (List Expr×Pos):=if h:x.ctorIdx=24 then Expr.List.elim x h (λa b=>some (a,b))else none
theorem tV{t}(h:Hu x=some t):x= .List t.1 t.2:=by obtain⟨q,h⟩:=EI h;exact Expr.List.elim (motive_1:=λx=>∀q,Expr.List.elim x q (λa b=>some (a,b))=some t->x= .List t.1 t.2) x q (λa b _ h=>congrArg (λt=>Expr.List t.1 t.2) (sj h)) q h
noncomputable def gE(x:Expr):Option (List Expr×Nat×Pos):=if h:x.ctorIdx=25 then Expr.Tuple.elim x h (λa b c=>some (a,b,c))else none
theorem ML{t}(h:gE x=some t):x= .Tuple t.1 t.2.1 t.2.2:=by obtain⟨q,h⟩:=EI h;exact Expr.Tuple.elim (motive_1:=λx=>∀q,Expr.Tuple.elim x q (λa b c=>some (a,b,c))=some t->x= .Tuple t.1 t.2.1 t.2.2) x q (λa b c _ h=>congrArg (λt=>Expr.Tuple t.1 t.2.1 t.2.2) (sj h)) q h
noncomputable def tW(x:Expr):Option (Option Expr×Option Expr×Option Expr×Pos):=if h:x.ctorIdx=26 then Expr.Slice.elim x h (λa b c d=>some (a,b,c,d))else none
theorem pN{t}(h:tW x=some t):x= .Slice t.1 t.2.1 t.2.2.1 t.2.2.2:=by obtain⟨q,h⟩:=EI h;exact Expr.Slice.elim (motive_1:=λx=>∀q,Expr.Slice.elim x q (λa b c d=>some (a,b,c,d))=some t->x= .Slice t.1 t.2.1 t.2.2.1 t.2.2.2) x q (λa b c d _ h=>congrArg (λt=>Expr.Slice t.1 t.2.1 t.2.2.1 t.2.2.2) (sj h)) q h
noncomputable def Jw(x:Stmt):Option (Option Expr×Pos):=if h:x.ctorIdx=3 then Stmt.Return.elim x h (λa b=>some (a,b))else none
theorem Bz{x:Stmt}{t}(h:Jw x=some t):x= .Return t.1 t.2:=by obtain⟨q,h⟩:=EI h;exact Stmt.Return.elim (motive_2:=λx=>∀q,Stmt.Return.elim x q (λa b=>some (a,b))=some t->x= .Return t.1 t.2) x q (λa b _ h=>congrArg (λt=>Stmt.Return t.1 t.2) (sj h)) q h
noncomputable def tX(x:Stmt):Option (List Expr×Expr×Pos):=if h:x.ctorIdx=5 then Stmt.Assign.elim x h (λa b c=>some (a,b,c))else none
theorem Ca{x:Stmt}{t}(h:tX x=some t):x= .Assign t.1 t.2.1 t.2.2:=by obtain⟨q,h⟩:=EI h;exact Stmt.Assign.elim (motive_2:=λx=>∀q,Stmt.Assign.elim x q (λa b c=>some (a,b,c))=some t->x= .Assign t.1 t.2.1 t.2.2) x q (λa b c _ h=>congrArg (λt=>Stmt.Assign t.1 t.2.1 t.2.2) (sj h)) q h
noncomputable def Pv(x:Stmt):Option (Expr×Operator×Expr×Pos):=if h:x.ctorIdx=7 then Stmt.AugAssign.elim x h (λa b c d=>some (a,b,c,d))else none
theorem Cb{x:Stmt}{t}(h:Pv x=some t):x= .AugAssign t.1 t.2.1 t.2.2.1 t.2.2.2:=by obtain⟨q,h⟩:=EI h;exact Stmt.AugAssign.elim (motive_2:=λx=>∀q,Stmt.AugAssign.elim x q (λa b c d=>some (a,b,c,d))=some t->x= .AugAssign t.1 t.2.1 t.2.2.1 t.2.2.2) x q (λa b c d _ h=>congrArg (λt=>Stmt.AugAssign t.1 t.2.1 t.2.2.1 t.2.2.2) (sj h)) q h
noncomputable def Cc(x:Stmt):Option (Expr×Expr×List Stmt×List Stmt×Pos):=if h:x.ctorIdx=9 then Stmt.For.elim x h (λa b c d e=>some (a,b,c,d,e))else none
theorem Cd{x:Stmt}{t}(h:Cc x=some t):x= .For t.1 t.2.1 t.2.2.1 t.2.2.2.1 t.2.2.2.2:=by obtain⟨q,h⟩:=EI h;exact Stmt.For.elim (motive_2:=λx=>∀q,Stmt.For.elim x q (λa b c d e=>some (a,b,c,d,e))=some t->x= .For t.1 t.2.1 t.2.2.1 t.2.2.2.1 t.2.2.2.2) x q (λa b c d e _ h=>congrArg (λt=>Stmt.For t.1 t.2.1 t.2.2.1 t.2.2.2.1 t.2.2.2.2) (sj h)) q h
noncomputable def tY(x:Stmt):Option (Expr×List Stmt×List Stmt×Pos):=if h:x.ctorIdx=11 then Stmt.While.elim x h (λa b c d=>some (a,b,c,d))else none
theorem pO{x:Stmt}{t}(h:tY x=some t):x= .While t.1 t.2.1 t.2.2.1 t.2.2.2:=by obtain⟨q,h⟩:=EI h;exact Stmt.While.elim (motive_2:=λx=>∀q,Stmt.While.elim x q (λa b c d=>some (a,b,c,d))=some t->x= .While t.1 t.2.1 t.2.2.1 t.2.2.2) x q (λa b c d _ h=>congrArg (λt=>Stmt.While t.1 t.2.1 t.2.2.1 t.2.2.2) (sj h)) q h
noncomputable def Ce(x:Stmt):Option (Expr×List Stmt×List Stmt×Pos):=if h:x.ctorIdx=12 then Stmt.If.elim x h (λa b c d=>some (a,b,c,d))else none
theorem Cf{x:Stmt}{t}(h:Ce x=some t):x= .If t.1 t.2.1 t.2.2.1 t.2.2.2:=by obtain⟨q,h⟩:=EI h;exact Stmt.If.elim (motive_2:=λx=>∀q,Stmt.If.elim x q (λa b c d=>some (a,b,c,d))=some t->x= .If t.1 t.2.1 t.2.2.1 t.2.2.2) x q (λa b c d _ h=>congrArg (λt=>Stmt.If t.1 t.2.1 t.2.2.1 t.2.2.2) (sj h)) q h
noncomputable def Hv(x:Stmt):Option (Expr×Pos):=if h:x.ctorIdx=24 then Stmt.Expr.elim x h (λa b=>some (a,b))else none
theorem tZ{x:Stmt}{t}(h:Hv x=some t):x= .Expr t.1 t.2:=by obtain⟨q,h⟩:=EI h;exact Stmt.Expr.elim (motive_2:=λx=>∀q,Stmt.Expr.elim x q (λa b=>some (a,b))=some t->x= .Expr t.1 t.2) x q (λa b _ h=>congrArg (λt=>Stmt.Expr t.1 t.2) (sj h)) q h
noncomputable def Hw(x:Stmt):Option (Pos):=if h:x.ctorIdx=27 then Stmt.Continue.elim x h (λa=>some a)else none
theorem uA{x:Stmt}{t}(h:Hw x=some t):x= .Continue t:=by obtain⟨q,h⟩:=EI h;exact Stmt.Continue.elim (motive_2:=λx=>∀q,Stmt.Continue.elim x q (λa=>some a)=some t->x= .Continue t) x q (λa _ h=>congrArg (λt=>Stmt.Continue t) (sj h)) q h
noncomputable def Pw:Const->Option Int
 | .int i=>some i
 |_=>none
noncomputable def Cg:Const->Option Str
 | .str s=>some s
 |_=>none
theorem Ch{k:Const}{s:Str}(h:Cg k=some s):k= .str s:=by cases k<;>first|exact congrArg _ (sj h)|exact BJ h
noncomputable def JC(f:AV->AV->Option Bool)(xs:List AV):List AV->Option Bool:=
 xs.rec (λys=>bif ys.isEmpty then some true else none) λx _ ih ys=>(QE ys).bind λp=>(f x p.1).bind λa=>(ih p.2).map (a&& ·)
noncomputable def gF(f:AV->AV->Option Bool)(a b:AV):Option Bool:=
 BV (BY a) (λi=>(BY b).map λj=>decide (i=j))<|
 BV (YY a) (λx=>(BY b).map λj=>decide (JB x=j))<|
 BV (DF a) (λs=>(DF b).map λt=>decide (s=t))<|
 BV (MZ a) (λxs=>(MZ b).bind λys=>bif Nat.beq xs.length ys.length then JC f xs ys else some false)<|
 (TG a).bind λxs=>(TG b).bind λys=>JC f xs ys
noncomputable def KZ(n:Nat):AV->AV->Option Bool:=n.rec (λ_ _=>none) λ_ ih=>gF ih
noncomputable def VX:AV->AV->Option Bool:=KZ 4
noncomputable def cF:List Nat->List Nat->Bool
 |[],_=>true
 |_::_,[]=>false
 |a::r,b::t=>if a=b then cF r t else decide (a<b)
noncomputable def WK(x:AV)(ys:List AV):Option Bool:=ys.rec (some false) λy _ ih=>(VX y x).bind λa=>ih.map (a|| ·)
noncomputable def VW:List Int:=[173,847,6150,6155,6156,6157,8203,8204,8205,8288,65279,65024,65025,65026,65027,65028,65029,65030,65031,65032,65033,65034,65035,65036,65037,65038,65039]
noncomputable def uB:Expr:=BV (tX (DA 13)) (·.2.1) default
noncomputable def Jx:List (Option Expr):=BV (cD uB) (·.1) []
noncomputable def Jy:List Expr:=BV (cD uB) (·.2.1) []
noncomputable def Vx(o:Option Expr):Int:=BV ((o.bind cE).bind λk=>Pw k.1) id 0
noncomputable def Vy(e:Expr):Str:=BV ((cE e).bind λk=>Cg k.1) id ⟨#[]⟩
noncomputable def Br:List (Int×Str):=(Jx.zip Jy).map λe=>(Vx e.1,Vy e.2)
noncomputable def TL(i:Int):AV:=BV (Br.lookup i) (λs=> .str s.cps.toList) .none
noncomputable def LA(a b:AV):Option Bool:=BV (BY a) (λi=>(BY b).map λj=>decide (i=j)) ((DF a).bind λs=>(DF b).map λt=>decide (s=t))
noncomputable def TM(k:AV)(es:List (AV×AV)):Option (Option AV):=es.rec (some none) λe _ ih=>(LA e.1 k).bind λb=>cond b (some (some e.2)) ih
noncomputable def IN(k:AV)(es:List (AV×AV)):Option (Option AV):=bif es.isEmpty then none else TM k es
noncomputable def Hx(a:AV):Bool:=(BY a).isSome||(DF a).isSome
noncomputable def NA(k v:AV)(es:List (AV×AV)):List (AV×AV):=es.rec [(k,v)] λe r ih=>BV (LA e.1 k) (λb=>cond b ((e.1,v)::r) (e::ih)) (e::ih)
noncomputable def one{α:Type}:List α->Option α
 |[a]=>some a
 |_=>none
noncomputable def uC{α:Type}:List α->Option (α×α)
 |[a,b]=>some (a,b)
 |_=>none
theorem CX{α:Type}{l:List α}{a:α}(h:one l=some a):l=[a]:=by
 cases l with
 |nil=>exact BJ h
 |cons x r=>cases r with
  |nil=>cases h;rfl
  |cons=>exact BJ h
theorem NN{α:Type}{l:List α}{a:α×α}(h:uC l=some a):l=[a.1,a.2]:=by
 cases l with
 |nil=>exact BJ h
 |cons x r=>cases r with
  |nil=>exact BJ h
  |cons y r=>cases r with
   |nil=>(obtain rfl:=sj h;clear h);rfl
   |cons=>exact BJ h
noncomputable def Px(op:Operator)(i j:Int):Option AV:=match op with
 | .Add=>some (.int (i+j))
 | .Sub=>some (.int (i-j))
 | .Mult=>if i.natAbs<2^62/\j.natAbs<2^62 then some (.int (i*j))else none
 | .Mod=>if j=0 then none else some (.int (Int.fmod i j))
 | .FloorDiv=>if j≠0/\j.natAbs<1073741824 then some (.int (Int.fdiv i j))else none
 | .Pow=>if i=10/\j=6 then some (.int 1000000)else none
 |_=>none
noncomputable def Py(st:List AO)(a b:AV):Option AV:=BV (DF a) (λs=>(DF b).bind λt=>if s.length+t.length<=1000 then some (.str (s++t))else none)
 ((BN st a).bind λxs=>(BN st b).bind λys=>if xs.length+ys.length<=1000 then some (.flist (xs++ys))else none)
noncomputable def Vz(st:List AO)(op:Operator)(a b:AV):Option AV:=match op with
 | .Add=>Py st a b
 | .Mult=>(BY b).bind λj=>(BN st a).bind λxs=>if xs.length<=10/\0<=j/\j<=10 then some (.flist (List.replicate j.toNat xs).flatten)else none
 |_=>none
noncomputable def TN(st:List AO)(op:Operator)(a b:AV):Option AV:=BV (BY a) (λi=>(BY b).bind λj=>Px op i j) (Vz st op a b)
noncomputable def WL(op:Operator)(a b:AV):Bool:=match op with
 | .Add=>((BY a).isSome&&(BY b).isSome)||((DF a).isSome&&(DF b).isSome)
 | .Mult=>(BY a).isSome&&(BY b).isSome
 |_=>false
noncomputable def Wa:NameKind->Bool
 | .local=>true
 | .cell=>true
 |_=>false
noncomputable def uD(c:AC)(x:Str):Bool:=BV (c.fr.scope.names.lookup x) Wa false
noncomputable def Pz(c:List Nat)(s:List Nat):Option Bool:=(one c).map λx=>s.contains x
noncomputable def pP(st:List AO)(a b:AV):Option Bool:=
 BV (DF b) (λs=>(DF a).bind λc=>Pz c s)<|
 BV (pM b) (λf=>if f=99 then(BY a).map λi=>VW.contains i else none)<|
 BV (BN st b) (WK a) ((NE st b).bind λes=>(IN a es).map (·.isSome))
noncomputable def KQ(st:List AO)(a:AV):AV:=BV (BN st a) .flist a
noncomputable def uE(a:AV):Option Bool:=bif tP a then some true else bif Hx a then some false else none
noncomputable def GL(st:List AO)(op:CmpOp)(a b:AV):Option Bool:=match op with
 | .Eq=>VX (KQ st a) (KQ st b)
 | .NotEq=>(VX (KQ st a) (KQ st b)).map (! ·)
 | .Lt=>(BY a).bind λi=>(BY b).map λj=>decide (i<j)
 | .LtE=>BV (BY a) (λi=>(BY b).map λj=>decide (i<=j)) ((DF a).bind λs=>(DF b).map λt=>cF s t)
 | .Is=>if tP b=true then uE a else none
 | .IsNot=>if tP b=true then(uE a).map (! ·)else none
 | .In=>pP st a b
 | .NotIn=>(pP st a b).map (! ·)
 |_=>none
noncomputable def TO(st:List AO)(a:AV):Option Bool:=
 BV (YY a) some<|BV (BY a) (λi=>some (decide (i≠0)))<|
 BV (DF a) (λs=>if s.length<=1000 then some (!s.isEmpty)else none)<|
 bif tP a then some false else(BN st a).bind λxs=>if xs.length<=1000 then some (!xs.isEmpty)else none
noncomputable def FO:Int->Option Nat
 | .ofNat n=>bif Nat.blt n 1099511627776 then some n else none
 | .negSucc _=>none
noncomputable def uF(i:AV):Option Nat:=(BY i).bind FO
noncomputable def ZB(st:List AO)(a i:AV):Option AV:=
 BV (DF a) (λs=>(uF i).bind λn=>(s[n]?).map λc=> .str [c])<|
 BV (TG a) (λxs=>(uF i).bind λn=>xs[n]?)<|
 BV (BN st a) (λxs=>(uF i).bind λn=>xs[n]?)<|
 (NE st a).bind λes=>(BY i).bind λ_=>(IN i es).bind id
noncomputable def TP(o:Option Int)(d:Nat):Option Nat:=BV o FO (some d)
noncomputable def NO(a b n:Nat):List Nat:=sliceRange ((min a n:Nat):Int) ((min b n:Nat):Int) 8
noncomputable def every{α:Type}(r:List Nat)(xs:List α):List α:=r.filterMap (xs[·]?)
noncomputable def Qa{α:Type}(xs:List α)(r:List Nat):Option (List α):=if r.length<=xs.length then some (every r xs)else none
noncomputable def cut{α:Type}(xs:List α)(lo up:Option Int)(step:Option Int):Option (List α):=
 (TP lo 0).bind λa=>(TP up xs.length).bind λb=>BV step (λk=>if k=8 then Qa xs (NO a b xs.length)else none) (some ((xs.take b).drop a))
noncomputable def cG(st:List AO)(a:AV)(lo up step:Option Int):Option AV:=
 BV (DF a) (λs=>if s.length<=1000 then(cut s lo up step).map .str else none) ((BN st a).bind λxs=>if xs.length<=1000 then(cut xs lo up step).map .flist else none)
noncomputable def FB(x:Int)(l:List Int):List Int:=l.rec [x] λy r ih=>if x<=y then x::y::r else y::ih
noncomputable def DH(l:List Int):List Int:=l.rec [] λx _ ih=>FB x ih
noncomputable def FP(l:List Int):List Int:=l.rec [] λx _ ih=>x::ih.filter (· ≠x)
noncomputable def join(l:List AV):Option (List Nat):=l.rec (some []) λa _ ih=>(DF a).bind λs=>ih.map (s++ ·)
noncomputable def QG(s:List Nat):List Nat:=s.map λc=>if 65<=c/\c<=90 then c+32 else c
noncomputable def Wb(st:List AO)(a:AV):Option AV:=BV (DF a) (λs=>if s.length<=1000 then some (.int s.length)else none) ((BN st a).bind λxs=>if xs.length<=1000 then some (.int xs.length)else none)
noncomputable def Wc(i:Int):Option AV:=(FO i).bind λn=>bif Nat.blt n 1114112 then some (.str [n])else none
noncomputable def Wd(s:List Nat):Option AV:=(one s).map λ(c:Nat)=> .int (c:Int)
noncomputable def Qb(st:List AO)(id:String)(a:AV):Option AV:=
 if id="len" then Wb st a
 else if id="ord" then(DF a).bind Wd
 else if id="chr" then(BY a).bind Wc
 else if id="sum" then((BN st a).bind GK).map λis=> .int is.sum
 else if id="sorted" then(DF a).bind λs=>if 64<=s.length then none else some (.flist ((DH (s.map λ(c:Nat)=>(c:Int))).map λi=> .str [i.toNat]))
 else none
noncomputable def Qc(id:String)(a b:AV):Option AV:=(BY a).bind λi=>(BY b).bind λj=>if id="min" then some (.int (min i j))else if id="max" then some (.int (max i j))else none
noncomputable def blt(st:List AO)(id:String)(as:List AV):Option AV:=BV (one as) (Qb st id) ((uC as).bind λp=>Qc id p.1 p.2)
noncomputable def typ(id:String)(as:List AV):Option AV:=(one as).bind λa=>(BY a).bind λi=>if id="int" then some (.int i)else if id="range" then some (.range i)else none
noncomputable def gG(n:Str)(s:List Nat)(args:List AV)(st:List AO):Option AV:=
 if n==("join":Str)then(if s.isEmpty=true then(one args).bind λa=>(BN st a).bind λxs=>if xs.length<=1000 then(join xs).bind λt=>if t.length<=1000 then some (.str t)else none else none else none)
 else if n==("lower":Str)then(if(args.isEmpty&&(s.all (Nat.blt · 128)&&Nat.ble s.length 1000))=true then some (.str (QG s))else none)
 else none
noncomputable def OL(x:Int)(l:List AV):Option Int:=l.rec (some 0) λa _ ih=>(BY a).bind λy=>ih.map λb=>(if y=x then 1 else 0)+b
noncomputable def We(st:List AO)(l:Nat)(xs:List AV):Option (AV×List AO):=(QE xs).bind λp=>if p.2.length<=1000 then some (p.1,st.set l (.list p.2))else none
noncomputable def SD(n:Str)(st:List AO)(l:Nat)(xs:List AV)(args:List AV):Option (AV×List AO):=(one args).bind λa=>
 if n==("append":Str)then(if xs.length<=1000 then some (.none,st.set l (.list (xs++[a])))else none)
 else if n==("extend":Str)then(DF a).bind λs=>if xs.length+s.length<=1000 then some (.none,st.set l (.list (xs++AK s)))else none
 else if n==("pop":Str)then(BY a).bind λi=>if i=0 then We st l xs else none
 else none
noncomputable def Ci(st:List AO)(a i v:AV):Option (Obj->List AO):=(GF a).bind λl=>(st[l]?).bind λo=>
 BV (KX o) (λxs=>(uF i).bind λn=>if n<xs.length then some (λ_=>st.set l (.list (xs.set n v)))else none)
  ((YZ o).bind λes=>if Nat.ble es.length 1000=true then(IN i es).map λ_ g=>st.set l (.dict (NA i v es) g)else none)
noncomputable def ZC(st:List AO)(a i v:AV)(g:Obj):Option (List AO):=(Ci st a i v).map (· g)
noncomputable def TQ(m:Str):Bool:=(FI.lookup m).isSome
noncomputable def GM(n:Str):Bool:=[("lineno":Str),"instream","whitespace","pushback","read"].contains n
noncomputable def QH(a:AV):Bool:= !(Nat.beq a.ctorIdx 5)&& !(Nat.beq a.ctorIdx 11)
noncomputable def LB(st:List AO)(a:AV):Option (Nat×Nat×List (Str×AV)):=(GF a).bind λl=>(st[l]?).bind λo=>(Ht o).bind λp=>(st[p.2]?).bind λq=>(nsOf q).map λfs=>(p.1,p.2,fs)
noncomputable def Jz(st:List AO)(a:AV)(n:Str):Option AV:=(LB st a).bind λp=>if(p.1==FZ&&GM n)=true then(p.2.2.lookup n).filter QH else none
noncomputable def Ka(st:List AO)(a:AV)(n:Str)(v:AV):Option (List AO):=(LB st a).bind λp=>if(p.1==FZ&&GM n)=true then(if p.2.2.length<=1000 then some (st.set p.2.1 (.ns (HW n v p.2.2)))else none)else none
noncomputable def frz(st:List AO)(v:AV):Option AV:=BV (GF v) (λl=>(st[l]?).bind λo=>(KX o).bind λxs=>if frees xs=true then some (.flist xs)else none) (if v.free=true then some v else none)
noncomputable def uG(e:Expr):Bool:=(cE e).isSome
noncomputable def uH:Const->Option AV
 | .none=>some .none
 | .bool b=>some (.bool b)
 | .int i=>some (.int i)
 | .str s=>some (.str s.cps.toList)
 |_=>none
noncomputable def SO(es:List Expr):Option (List Str):=es.rec (some []) λe _ ih=>(JT e).bind λp=>ih.map (p.1:: ·)
noncomputable def GN(c:AC)(xs:List Str)(vs:List AV):Option AC:=xs.rec (motive:=λ_=>AC->List AV->Option AC) (λc vs=>bif vs.isEmpty then some c else none) (λx _ ih c vs=>(QE vs).bind λp=>(HS c x p.1).bind λc'=>ih c' p.2) c vs
noncomputable def LC(c:AC)(t:Expr)(v:AV):Option AC:=BV (JT t) (λp=>HS c p.1 v) ((gE t).bind λes=>(SO es.1).bind λxs=>(BV (TG v) some (MZ v)).bind λvs=>if vs.length=xs.length then GN c xs vs else none)
noncomputable def FX(n:Nat)(l:List (Str×NameKind))(acc:List (Str×Nat)):List (Str×Nat):=l.rec (motive:=λ_=>Nat->List (Str×Nat)->List (Str×Nat)) (λ_ acc=>acc) (λp _ ih n acc=>if p.2== .cell then ih (n+1) ((p.1,n)::acc)else ih n acc) n acc
noncomputable def CN(st:List AO)(l:List (Str×NameKind)):List AO:=l.rec (motive:=λ_=>List AO->List AO) id (λp _ ih st=>if p.2== .cell then ih (st++[.cell none])else ih st) st
noncomputable def Wf(l:List Str):Bool:=l.rec true λx r ih=> !r.contains x&&ih
noncomputable def DS(fd:FD)(cl:List (Str×Nat))(args:List AV)(st:List AO)(lo:Nat):Option AC:=
 GN ⟨⟨fd.scope,[],FX st.length fd.scope.names cl⟩,CN st fd.scope.names,lo⟩ (params fd) args
noncomputable def LD(s:Scope)(o:AF):Scope:=
 {s with names:=s.names.map λ(n,k)=>if(k== .free&&o.scope.kind== .function&&o.scope.names.lookup n==some .cell)then(n,.cell)else(n,k)}
noncomputable def IE(o:AF)(l:List (Str×NameKind))(acc:List (Str×Nat)):Option (List (Str×Nat)):=l.rec (motive:=λ_=>List (Str×Nat)->Option (List (Str×Nat))) some (λp _ ih acc=>if p.2== .free then(o.cells.lookup p.1).bind λl=>ih ((p.1,l)::acc)else ih acc) acc
noncomputable def uI(s:Scope)(c:AC):Option AC:=(IE c.fr s.names []).map λcl=>⟨⟨LD s c.fr,[],FX c.st.length s.names cl⟩,CN c.st s.names,c.lo⟩
noncomputable def Hy{α:Type}(m:Sem α):Option α:=if h:m.ctorIdx=0 then Sem.pure.elim m h some else none
theorem uJ{α:Type}{m:Sem α}{a:α}(h:Hy m=some a):m= .pure a:=by obtain⟨q,h⟩:=EI h;exact Sem.pure.elim (motive:=λm=>∀q,Sem.pure.elim m q some=some a->m= .pure a) m q (λ_ _ h=>congrArg Sem.pure (sj h)) q h
noncomputable def lI(sc:Scope)(t v:Expr):Option (Option (List Str)):=Hy (swappedStores [t] v {scope:=sc,locals:=0,globals:=0,cells:=[]})
inductive AY where
 |eval(e:Expr)
 |test(e:Expr)
 |evs(es:List Expr)
 |opt(e:Option Expr)
 |exec(s:Stmt)
 |execs(ss:List Stmt)
 |call(f:AV)(args:List AV)
 |mcall(o:AV)(n:Str)(args:List AV)
 |ifs(es:List Expr)
 |comp(elt:Expr)(gs:List Comprehension)
noncomputable abbrev AB:=Res->AC->Prop
noncomputable def FH(k:AV->AC->Prop):AB:=λr c=>match r with
 | .v a=>k a c
 |_=>False
noncomputable def QI(k:List AV->AC->Prop):AB:=λr c=>match r with
 | .vs a=>k a c
 |_=>False
noncomputable def lJ(k:Bool->AC->Prop):AB:=λr c=>match r with
 | .t a=>k a c
 |_=>False
noncomputable def VY(k:ND->AC->Prop):AB:=λr c=>match r with
 | .f a=>k a c
 |_=>False
noncomputable def on{α:Type}(o:Option α)(K:α->Prop):Prop:=match o with
 |some v=>K v
 |none=>False
noncomputable def gd(b:Bool)(P:Prop):Prop:=match b with
 |true=>P
 |false=>False
noncomputable def gf(b:Bool)(P:Prop):Prop:=match b with
 |true=>False
 |false=>P
inductive Vf{α:Type}(o:Option α)(K:α->Prop):Prop
 |mk (v:α) (e:o=some v) (h:K v):Vf o K
theorem AG{α:Type}{o:Option α}{K:α->Prop}(h:on o K):Vf o K:=by
 cases o with
 |none=>exact h.elim
 |some v=>exact⟨v,rfl,h⟩
theorem AE{α:Type}{o:Option α}{K:α->Prop}{v:α}(e:o=some v)(h:K v):on o K:=by subst e;exact h
theorem DT(h:gd b P):b=true/\P:=match b,h with
 |true,h=>⟨rfl,h⟩
 |false,h=>h.elim
theorem cH(e:b=true)(h:P):gd b P:=by subst e;exact h
theorem IO(h:gf b P):b=false/\P:=match b,h with
 |true,h=>h.elim
 |false,h=>⟨rfl,h⟩
theorem B1(e:b=false)(h:P):gf b P:=by subst e;exact h
noncomputable def gH(o:Option AV)(c:AC)(Q:AB):Prop:=on o λv=>Q (.v v) c
noncomputable def GO(c:AC)(Q:AB):AB:=VY λx c'=>match x with
 | .ret v=>Q (.v v) ⟨c.fr,c'.st,c.lo⟩
 | .next=>Q (.v .none) ⟨c.fr,c'.st,c.lo⟩
 |_=>False
noncomputable def LE(c:AC)(Q:AB):AB:=VY λx c'=>match x with
 | .ret v=>gH (frz c'.st v) c Q
 | .next=>Q (.v .none) c
 |_=>False
noncomputable def JU(o:Option AV)(c:AC)(Q:AB):Prop:=on o λv=>Q (.v v) c
noncomputable def RL(o:Option Bool)(c:AC)(Q:AB):Prop:=on o λb=>Q (.t b) c
noncomputable def GA(b:Bool)(x y:Prop):Prop:=match b with
 |true=>x
 |false=>y
theorem DP{x:Prop}(h:GA b x y):(b=true/\x)\/(b=false/\y):=match b,h with
 |true,h=> .inl ⟨rfl,h⟩
 |false,h=> .inr ⟨rfl,h⟩
theorem AQ{x:Prop}(h1:b=true->x)(h2:b=false->y):GA b x y:=match b,h1,h2 with
 |true,h,_=>h rfl
 |false,_,h=>h rfl
noncomputable def Qd:BoolOp->Bool
 | .Or=>true
 | .And=>false
noncomputable def B2(e:Expr):Option (List Expr):=(tR e).bind λt=>if Qd t.1=true then some t.2.1 else none
noncomputable def Qe:CmpOp->Bool
 | .Is=>true
 |_=>false
noncomputable def Qf:CmpOp->Bool
 | .Eq=>true
 |_=>false
noncomputable def Qg(x:Expr):Option (Expr×CmpOp×Expr×Pos):=(By x).bind λc=>(one c.2.1).bind λop=>(one c.2.2.1).map λr=>(c.1,op,r,c.2.2.2)
noncomputable def gI(f:CmpOp->Bool)(x:Expr):Option ((Str×Pos)×(Str×Pos)):=(Qg x).bind λc=>(JT c.1).bind λa=>(JT c.2.2.1).bind λb=>if f c.2.1=true then some (a,b)else none
noncomputable def TR(e:Expr):Option (Expr×Expr):=(B2 e).bind λes=>(uC es).bind λx=>(gI Qe x.1).bind λp=>(gI Qf x.2).bind λq=>if p.1.1==q.1.1&&p.2.1==q.2.1 then some (.Name p.1.1 p.1.2,.Name p.2.1 p.2.2)else none
theorem AS{α:Type}[Decidable p]{x:Option α}{z:α}(h:(if p then x else none)=some z):p/\x=some z:=by
 by_cases q:p
 .exact⟨q,(if_pos q).symm.trans h⟩
 .exact nomatch (if_neg q).symm.trans h
theorem Kc{es:List Expr}(h:B2 x=some es):∃t,x= .BoolOp .Or es t:=by
 obtain⟨t,h1,h⟩:=AD h;obtain⟨h2,h⟩:=AS h;obtain⟨op,l,p⟩:=t;cases op with
 |Or=>exact⟨p,(cC h1).trans (congrArg (λl=>Expr.BoolOp .Or l p) (sj h))⟩
 |And=>exact ME h2
theorem Cj{t}(h:Qg x=some t):x= .Compare t.1 [t.2.1] [t.2.2.1] t.2.2.2:=by obtain⟨c,h1,h⟩:=AD h;obtain⟨op,h2,h⟩:=AD h;obtain⟨r,h3,h⟩:=AZ h;exact(ZA h1).trans (CX h2▸CX h3▸h▸rfl)
theorem WM{f:CmpOp->Bool}{t}(h:gI f x=some t):∃op r,f op=true/\x= .Compare (.Name t.1.1 t.1.2) [op] [.Name t.2.1 t.2.2] r:=by obtain⟨c,h1,h⟩:=AD h;obtain⟨a,h2,h⟩:=AD h;obtain⟨b,h3,h⟩:=AD h;obtain⟨h4,h⟩:=AS h;exact⟨c.2.1,c.2.2.2,h4,(Cj h1).trans (FA h2▸FA h3▸sj h▸rfl)⟩
noncomputable def ZD(o:Option AV):Option (Option Int):=BV o (λa=>(BY a).map some) (some none)
noncomputable def TS(e:Expr):Bool:=Nat.beq e.ctorIdx 7
noncomputable def MM(e:Expr):Bool:=Nat.beq e.ctorIdx 8||(Nat.beq e.ctorIdx 9||Nat.beq e.ctorIdx 10)
noncomputable def Wg(a b:AV):Option Bool:=(YY a).bind λx=>(BY b).map λj=>decide (JB x=j)
noncomputable def CQ(x:Nat)(l:List Nat):Option Nat:=l.rec none λy _ ih=>if y=x then some 0 else ih.map (· +1)
noncomputable def IP(e:Expr):Bool:=Nat.beq e.ctorIdx 23||(Nat.beq e.ctorIdx 19||(Nat.beq e.ctorIdx 20||Nat.beq e.ctorIdx 21))
noncomputable def DQ(e:Expr):Bool:= !(Nat.beq e.ctorIdx 22)
structure DI(A:AY->AC->AB->Prop)(f:AV)(vs:List AV)(c:AC)(Q:AB):Prop where
 go:A (.call f vs) c Q
structure FM(A:AY->AC->AB->Prop)(o:AV)(m:Str)(vs:List AV)(c:AC)(Q:AB):Prop where
 go:A (.mcall o m vs) c Q
noncomputable def IF(A:AY->AC->AB->Prop)(f:Str)(p:Pos)(as:List Expr)(c:AC)(Q:AB):Prop:=
 gd (as.all DQ) (A (.eval (.Name f p)) c (FH λa c1=>A (.evs as) c1 (QI λvs c2=>DI A a vs c2 Q)))
noncomputable def IQ(f:Str):Bool:= !(f==("__debug__":Str))&& !(f==("__classdict__":Str))
noncomputable def FN(sc:Scope):Bool:=(sc.names.lookup ("blanks":Str)).isSome
noncomputable def Qh(e:Expr):Option (Str×Nat×Pos):=(cE e).bind λt=>(Cg t.1).map λk=>(k,t.2.1,t.2.2)
theorem Ck{t}(h:Qh x=some t):x= .Constant (.str t.1) t.2.1 t.2.2:=by obtain⟨u,h1,h⟩:=AD h;obtain⟨k,h2,h⟩:=AZ h;exact(lG h1).trans ((congrArg (λk=>Expr.Constant k u.2.1 u.2.2) (Ch h2)).trans (congrArg (λt=>Expr.Constant (.str t.1) t.2.1 t.2.2) h))
noncomputable def Kd(k:Nat)(o:Option AV):Bool:=BV (o.bind pM) (Nat.beq · k) false
theorem lK{k:Nat}(h:Kd k o=true):o=some (.fn k):=by obtain⟨a,h1,h⟩:=bZ h;obtain⟨v,h2,h1⟩:=AD h1;rw[h2,OI h1,Nat.eq_of_beq_eq_true h]
noncomputable def uK(k:String)(o:Option AV):Bool:=BV (o.bind tL) (· ==k) false
theorem cI(h:uK k o=true):o=some (.blt k):=by obtain⟨a,h1,h⟩:=bZ h;obtain⟨v,h2,h1⟩:=AD h1;rw[h2,TE h1,eq_of_beq h]
noncomputable def cJ(k:String)(o:Option AV):Bool:=BV (o.bind tM) (· ==k) false
theorem OM(h:cJ k o=true):o=some (.typ k):=by obtain⟨a,h1,h⟩:=bZ h;obtain⟨v,h2,h1⟩:=AD h1;rw[h2,TF h1,eq_of_beq h]
noncomputable def Cl(A:AY->AC->AB->Prop)(f:Str)(x:Expr)(k:Str)(c:AC)(Q:AB):Prop:=
 gd (IQ f) (A (.eval x) c (FH λa c1=>on (DF a) λs=>on (one k.cps.toList) λch=>on (CQ ch s) λi=>Q (.v (.int i)) c1))
noncomputable def Cm(A:AY->AC->AB->Prop)(f:Str)(x:Expr)(k:Str)(c:AC)(Q:AB):Prop:=
 gd (IQ f&&FN c.fr.scope) (A (.eval x) c (FH λa c1=>on (DF a) λs=>on (one k.cps.toList) λch=>Q (.v (.bool (!s.contains ch))) c1))
noncomputable def Cn(A:AY->AC->AB->Prop)(f:Str)(x:Expr)(k:Str)(c:AC)(Q:AB):Prop:=
 on (TK x) λt=>gd (IQ f&&IP t.1&&k.cps.toList.isEmpty) (A (.eval t.1) c (FH λa c1=>on (GF a) λl=>on (LB c1.st a) λp=>
  gd (p.1==FZ&&(p.2.2.lookup t.2.1).isNone) (on (FI.lookup t.2.1) λg=>Q (.v (.loc c1.st.length)) (c1.add (.citer l g)))))
noncomputable def cK(A:AY->AC->AB->Prop)(f:Str)(p:Pos)(x:Expr)(k:Str)(j:Nat)(q:Pos)(c:AC)(Q:AB):Prop:=
 GA (Kd 35 (DB c f)) (Cl A f x k c Q) (GA (Kd 212 (DB c f)) (Cm A f x k c Q) (GA (uK "iter" (DB c f)) (Cn A f x k c Q) (IF A f p [x,.Constant (.str k) j q] c Q)))
noncomputable def uL(A:AY->AC->AB->Prop)(f:Str)(p:Pos)(g:Str)(p':Pos)(x:Expr)(r:Pos)(c:AC)(Q:AB):Prop:=
 GA (uK "sorted" (DB c f)&&cJ "set" (DB c g)) (gd (IQ f&&IQ g) (A (.eval x) c (FH λa c1=>on (BN c1.st a) λxs=>∃is,GK xs=some is/\(is.length<60/\∀i∈is,0<=i/\i<6)/\Q (.v (.flist ((DH (FP is)).map .int))) c1)))
  (IF A f p [.Call (.Name g p') [x] [] r] c Q)
noncomputable def lL(A:AY->AC->AB->Prop)(f:Str)(p:Pos)(o:Expr)(m:Str)(p':Pos)(r:Pos)(c:AC)(Q:AB):Prop:=
 GA (cJ "list" (DB c f)) (gd (IQ f&&IP o&&(p'.endLine==r.line)&&(m==("values":Str))) (A (.eval o) c (FH λa c1=>on (NE c1.st a) λes=>es.length<=1000/\Q (.v (.flist (es.map (·.2)))) c1)))
  (IF A f p [.Call (.Attribute o m p') [] [] r] c Q)
noncomputable def uM(e:Expr):Option (Str×Pos×List Expr×Pos):=(lF e).bind λt=>(JT t.1).bind λp=>if t.2.2.1.isEmpty=true then some (p.1,p.2,t.2.1,t.2.2.2)else none
theorem cL{t}(h:uM x=some t):x= .Call (.Name t.1 t.2.1) t.2.2.1 [] t.2.2.2:=by obtain⟨u,h1,h⟩:=AD h;obtain⟨p,h2,h⟩:=AD h;obtain⟨h3,h⟩:=AS h;rw[TJ h1,FA h2,List.isEmpty_iff.mp h3,<-sj h]
noncomputable def QJ(A:AY->AC->AB->Prop)(it:Expr)(c:AC)(K:SM->AC->Prop):Prop:=
 BV (uM it) (λt=>BV (one t.2.2.1) (λx=>GA (cJ "enumerate" (DB c t.1)) (gd (IQ t.1) (A (.eval x) c (FH λa c1=>K (.enum a) c1))) (A (.eval it) c (FH λa c1=>K (.val a) c1)))
  (BV (uC t.2.2.1) (λx=>GA (cJ "zip" (DB c t.1)) (gd (IQ t.1&&DQ x.2) (A (.eval x.1) c (FH λa c1=>A (.eval x.2) c1 (FH λb c2=>K (.zip a b) c2)))) (A (.eval it) c (FH λa c1=>K (.val a) c1)))
   (A (.eval it) c (FH λa c1=>K (.val a) c1)))) (A (.eval it) c (FH λa c1=>K (.val a) c1))
noncomputable def Ke(e:Expr):List Str:=BV (JT e) (λp=>[p.1]) (BV (gE e) (λt=>(SO t.1).getD []) [])
noncomputable def QK(c:AC)(t:Expr):Bool:=(Ke t).all λx=>(c.fr.locals.lookup x).isNone
noncomputable def uN(o:AO):Bool:=(cellOf o).isSome
noncomputable def FQ(st:List AO)(src:SM)(st':List AO):Prop:=BV ((Bw src).bind GF) (λl=>st'[l]? =st[l]?) True
noncomputable def cM(a:AV):Bool:=(MZ a).isSome
noncomputable def lM(e:Expr):Bool:=(JT e).isSome
noncomputable def gJ(e:Expr):Bool:=(gE e).isSome
noncomputable def TT(src:SM)(t:Expr):Bool:=BV (Bw src) (λa=>lM t||(cM a&&gJ t)) (gJ t)
noncomputable def LF(o:AO):Bool:=BV (cellOf o) (·.isNone) false
noncomputable def gK(k:Nat)(c0 c2 c4:AC):Prop:=c4.fr=c2.fr/\c4.st.take k=c0.st.take k/\(c0.st.length-k<=((c4.st.drop k).takeWhile uN).length)
noncomputable def Kf(s:Scope)(gs:List Comprehension):Bool:=gs.all (λg=>g.is_async==0)&&(s.kind== .function)&& !FN s&&s.names.all λx=>x.2 != .local||s.names.lookup x.1==some .local
inductive WN(A:AY->AC->AB->Prop)(elt:Expr)(g:Comprehension)(gs:List Comprehension)(k:Nat)(c0:AC)(src:SM)(items:List AV)(K:List AV->Prop):Prop
 |mk (R:Nat->List AV) (e:(QK c0 g.target&&TT src g.target&&(c0.st.drop k).all LF&&(g.is_async==0))=true) (h1:∀i x,items[i]? =some x->on (LC c0 g.target x) λc2=>
  A (.ifs g.ifs) c2 (lJ λb c3=>GA b (A (.comp elt gs) c3 (QI λys c4=>ys=R i/\gK k c0 c2 c4)) (R i=[]/\gK k c0 c2 c3)))
  (h2:K ((List.range items.length).flatMap R)):WN A elt g gs k c0 src items K
noncomputable def GW(n:Nat):Option Int->List Int->List Int->Option (List Int):=n.rec (λ_ out _=>some out) λn ih last out row=>
 BV (QE row) (λp=>if p.1=127 then some out else if p.1=0 then last.map (λy=>out++List.replicate (n+1) y)else ih (some p.1) (out++[p.1]) p.2) (some out)
noncomputable def AC.rel(c:AC)(k:Nat):AC:=⟨c.fr,c.st,k⟩
inductive ON(Inv:Nat->AC->Prop)(i:Nat->Prop)(c4:AC):Prop
 |mk (k:Nat) (L:List Str) (m:Nat) (e:c4.trimOk k L=true) (h:i m) (v:Inv m (c4.trim k L)):ON Inv i c4
noncomputable def lN(Inv:Nat->AC->Prop)(i:Nat->Prop)(lo:Nat)(Q:AB):AB:=VY λy c4=>match y with
 | .next| .cont=>ON Inv i c4
 | .brk=>Q (.f .next) (c4.rel lo)
 | .ret v=>Q (.f (.ret v)) (c4.rel lo)
inductive QL(A:AY->AC->AB->Prop)(t:Expr)(b o:List Stmt)(c1:AC)(src:SM)(items:List AV)(Q:AB):Prop
 |mk (Inv:Nat->AC->Prop) (h0:Inv 0 (c1.rel c1.st.length)) (h1:∀i c2,Inv i c2->c2.lo=c1.st.length/\FQ c1.st src c2.st)
  (h2:∀i x c2,items[i]? =some x->Inv i c2->on (LC c2 t x) λc3=>A (.execs b) c3 (lN Inv (λm=>m=i+1) c1.lo Q))
  (h3:∀c2,Inv items.length c2->A (.execs o) (c2.rel c1.lo) Q):QL A t b o c1 src items Q
inductive gL(A:AY->AC->AB->Prop)(t:Expr)(b o:List Stmt)(c1:AC)(src:SM)(Q:AB):Prop
 |mk (items:List AV) (e:OK c1.st src=some items) (ht:TT src t=true) (h:QL A t b o c1 src items Q):gL A t b o c1 src Q
inductive gM(A:AY->AC->AB->Prop)(t:Expr)(b o:List Stmt)(c:AC)(Q:AB):Prop
 |mk (Inv:Nat->AC->Prop) (m:Nat) (h0:Inv m (c.rel c.st.length)) (h1:∀m c2,Inv m c2->c2.lo=c.st.length/\A (.test t) c2 (lJ λx c3=>GA x
   (A (.execs b) c3 (lN Inv (λm'=>m'<m) c.lo Q))
   (A (.execs o) (c3.rel c.lo) Q))):gM A t b o c Q
noncomputable def lO(c:AC)(src:SM):Option (Nat×Nat×Nat):=((Bw src).bind GF).bind λl=>((c.at l).bind Pr).map λp=>(l,p.1,p.2)
inductive pQ(A:AY->AC->AB->Prop)(t:Expr)(b o:List Stmt)(c1:AC)(l s g:Nat)(Q:AB):Prop
 |mk (Inv:Nat->AC->Prop) (m:Nat) (h0:Inv m (c1.rel c1.st.length)) (h1:∀m c2,Inv m c2->c2.lo=c1.st.length/\c2.at l=some (.citer s g)/\on (DD g) λfd=>
  on (DS fd [] [.loc s] c2.st c2.st.length) λc'=>A (.execs fd.body) c' (VY λx c''=>match x with
    | .ret (.str ch)=>c''.at l=some (.citer s g)/\GA ch.isEmpty (A (.execs o) ⟨c2.fr,c''.st.set l .dead,c1.lo⟩ Q)
      (on (LC ⟨c2.fr,c''.st,c2.lo⟩ t (.str ch)) λc3=>A (.execs b) c3 (lN Inv (λm'=>m'<m) c1.lo Q))
    |_=>False)):pQ A t b o c1 l s g Q
noncomputable def B3(st:List AO)(a:AV)(m:Str):Bool:=
 BV (DF a) (λ_=>m==("join":Str)||m==("lower":Str))<|
 BV (pM a) (λf=>Nat.beq f 110&&m==("get":Str))<|
 BV (MZ a) (λ_=>m==("count":Str))<|
 BV (BN st a) (λ_=>m==("append":Str)||m==("extend":Str)||m==("pop":Str))<|
 BV (LB st a) (λp=>p.1==FZ&&BV (p.2.2.lookup m) (λv=>GM m&&BV (GF v) (λl=>BV (st[l]?) (λo=>(lC o).isSome) false) false) (TQ m)) false
noncomputable def Kg(A:AY->AC->AB->Prop)(body:List Stmt)(c:AC)(Q:AB):Prop:=
 gd (Nat.beq body.length 5) (A (.exec (body.getD 0 default)) c (VY λx c1=>x= .next/\A (.exec (body.getD 1 default)) c1 (VY λy c2=>y= .next/\c2.st[0]? =some .tab/\on (IE c2.fr BD.scope.names []) λcl=>
   on (HS ((c2.setAt 0 .dead).add (.clos cl)) BD.name (.loc c2.st.length)) λc3=>A (.execs (body.drop 3)) c3 Q)))
noncomputable def uO(A:AY->AC->AB->Prop)(f:Str)(p:Pos)(x:Expr)(c:AC)(Q:AB):Prop:=
 BV (uM x) (λt=>BV (one t.2.2.1) (λy=>uL A f p t.1 t.2.1 y t.2.2.2 c Q) (IF A f p [x] c Q))
  (BV ((lF x).bind λt=>if(t.2.1.isEmpty&&t.2.2.1.isEmpty)=true then(TK t.1).map λa=>(a,t.2.2.2)else none) (λt=>lL A f p t.1.1 t.1.2.1 t.1.2.2 t.2 c Q) (IF A f p [x] c Q))
noncomputable def cN(A:AY->AC->AB->Prop)(f:Str)(p:Pos)(as:List Expr)(c:AC)(Q:AB):Prop:=
 BV (one as) (λx=>uO A f p x c Q) (BV (uC as) (λx=>BV (Qh x.2) (λk=>cK A f p x.1 k.1 k.2.1 k.2.2 c Q) (IF A f p as c Q)) (IF A f p as c Q))
noncomputable def lP(A:AY->AC->AB->Prop)(elt:Expr)(g:Comprehension)(gs:List Comprehension)(s:Scope)(c:AC)(Q:AB):Prop:=
 gf (TS g.iter) (gd (Kf s (g::gs)&&(IE c.fr s.names []).isSome) (QJ A g.iter c (λsrc c1=>on (OK c1.st src) λitems=>
  on (uI s c1) λc2=>WN A elt g gs c1.st.length c2 src items (λys=>ys.length<=1000/\Q (.v (.flist ys)) c1))))
noncomputable def Qi(A:AY->AC->AB->Prop)(op:UnaryOp)(x:Expr)(c:AC)(Q:AB):Prop:=match op with
 | .USub=>A (.eval x) c (FH λa c1=>JU ((BY a).map λi=> .int (-i)) c1 Q)
 |_=>False
noncomputable def lQ(A:AY->AC->AB->Prop)(ks:List (Option Expr))(vs:List Expr)(c:AC)(Q:AB):Prop:=on (one ks) λk=>on k λk=>on (one vs) λv=>A (.eval k) c (FH λa c1=>A (.eval v) c1 (FH λb c2=>gd (Hx a) (∀g,Q (.v (.loc c2.st.length)) (c2.add (.dict [(a,b)] g)))))
noncomputable def lR(A:AY->AC->AB->Prop)(es:List Expr)(c:AC)(Q:AB):Prop:=gd (Nat.ble es.length 100) (A (.evs es) c (QI λvs c1=>GA (es.all uG) (Q (.v (.loc c1.st.length)) (c1.add (.list vs))) (Q (.v (.flist vs)) c1)))
noncomputable def lS(A:AY->AC->AB->Prop)(elt:Expr)(gs:List Comprehension)(s:Scope)(c:AC)(Q:AB):Prop:=on (QE gs) λg=>lP A elt g.1 g.2 s c Q
noncomputable def Kh(A:AY->AC->AB->Prop)(l:Expr)(ops:List CmpOp)(rs:List Expr)(c:AC)(Q:AB):Prop:=on (one ops) λop=>on (one rs) λr=>gf (behindInMarks op r) (A (.eval l) c (FH λa c1=>A (.eval r) c1 (FH λb c2=>on (GL c2.st op a b) λz=>Q (.v (.bool z)) c2)))
noncomputable def lT(A:AY->AC->AB->Prop)(o:Expr)(m:Str)(p:Pos)(as:List Expr)(p':Pos)(c:AC)(Q:AB):Prop:=
 gd (IP o&&(p.endLine==p'.line)&&Nat.ble as.length 20&&as.all DQ) (A (.eval o) c (FH λa c1=>gd (B3 c1.st a m) (A (.evs as) c1 (QI λvs c2=>c2=c1/\FM A a m vs c2 Q))))
noncomputable def uP(A:AY->AC->AB->Prop)(f:Expr)(as:List Expr)(ks:List Keyword)(p':Pos)(c:AC)(Q:AB):Prop:=
 gd ks.isEmpty (BV (TK f) (λt=>lT A t.1 t.2.1 t.2.2 as p' c Q) (on (JT f) λt=>cN A t.1 t.2 as c Q))
noncomputable def Ki(a:AV)(l u t:List AV)(c:AC)(Q:AB):Prop:=on (ZD l.head?) λl=>on (ZD u.head?) λu=>on (ZD t.head?) λt=>JU (cG c.st a l u t) c Q
noncomputable def Kj(A:AY->AC->AB->Prop)(a:AV)(l u:List AV)(stp:Option Expr)(c:AC)(Q:AB):Prop:=A (.opt stp) c (QI λt c4=>Ki a l u t c4 Q)
noncomputable def Kk(A:AY->AC->AB->Prop)(a:AV)(l:List AV)(up stp:Option Expr)(c:AC)(Q:AB):Prop:=A (.opt up) c (QI λu c3=>Kj A a l u stp c3 Q)
noncomputable def cO(A:AY->AC->AB->Prop)(o:Expr)(lo up stp:Option Expr)(c:AC)(Q:AB):Prop:=A (.eval o) c (FH λa c1=>A (.opt lo) c1 (QI λl c2=>Kk A a l up stp c2 Q))
noncomputable def uQ(A:AY->AC->AB->Prop)(o i:Expr)(c:AC)(Q:AB):Prop:=A (.eval o) c (FH λa c1=>A (.eval i) c1 (FH λb c2=>JU (ZB c2.st a b) c2 Q))
noncomputable def Kl(A:AY->AC->AB->Prop)(o i:Expr)(c:AC)(Q:AB):Prop:=BV (tW i) (λt=>cO A o t.1 t.2.1 t.2.2.1 c Q) (uQ A o i c Q)
noncomputable def Co(x:Str)(c:AC)(Q:AB):Prop:=gf (x==("__debug__":Str)) (gf (x==("__classdict__":Str)) (JU (DB c x) c Q))
noncomputable def uR(A:AY->AC->AB->Prop)(l:Expr)(op:Operator)(r:Expr)(c:AC)(Q:AB):Prop:=A (.eval l) c (FH λa c1=>A (.eval r) c1 (FH λb c2=>JU (TN c2.st op a b) c2 Q))
noncomputable def uS(A:AY->AC->AB->Prop)(t b o:Expr)(c:AC)(Q:AB):Prop:=A (.test t) c (lJ λx c1=>GA x (A (.eval b) c1 Q) (A (.eval o) c1 Q))
noncomputable def uT(A:AY->AC->AB->Prop)(es:List Expr)(c:AC)(Q:AB):Prop:=gd (Nat.ble es.length 100) (A (.evs es) c (QI λvs c1=>Q (.v (.ftup vs)) c1))
noncomputable def lU(A:AY->AC->AB->Prop)(o:Expr)(m:Str)(c:AC)(Q:AB):Prop:=gd (IP o) (A (.eval o) c (FH λa c1=>JU (Jz c1.st a m) c1 Q))
noncomputable def pR(A:AY->AC->AB->Prop)(e:Expr)(c:AC)(Q:AB):Prop:=BV (cD e) (λt=>lQ A t.1 t.2.1 c Q) (on (Vw e) λt=>lS A t.1 t.2.1 t.2.2.1 c Q)
noncomputable def pS(A:AY->AC->AB->Prop)(e:Expr)(c:AC)(Q:AB):Prop:=BV (Vv e) (λt=>Qi A t.1 t.2.1 c Q) (pR A e c Q)
noncomputable def uU(A:AY->AC->AB->Prop)(e:Expr)(c:AC)(Q:AB):Prop:=BV (B0 e) (λt=>uS A t.1 t.2.1 t.2.2.1 c Q) (pS A e c Q)
noncomputable def uV(A:AY->AC->AB->Prop)(e:Expr)(c:AC)(Q:AB):Prop:=BV (Hu e) (λt=>lR A t.1 c Q) (uU A e c Q)
noncomputable def uW(A:AY->AC->AB->Prop)(e:Expr)(c:AC)(Q:AB):Prop:=BV (gE e) (λt=>uT A t.1 c Q) (uV A e c Q)
noncomputable def uX(A:AY->AC->AB->Prop)(e:Expr)(c:AC)(Q:AB):Prop:=BV (By e) (λt=>Kh A t.1 t.2.1 t.2.2.1 c Q) (uW A e c Q)
noncomputable def uY(A:AY->AC->AB->Prop)(e:Expr)(c:AC)(Q:AB):Prop:=BV (TK e) (λt=>lU A t.1 t.2.1 c Q) (uX A e c Q)
noncomputable def uZ(A:AY->AC->AB->Prop)(e:Expr)(c:AC)(Q:AB):Prop:=BV (Pu e) (λt=>uR A t.1 t.2.1 t.2.2.1 c Q) (uY A e c Q)
noncomputable def vA(A:AY->AC->AB->Prop)(e:Expr)(c:AC)(Q:AB):Prop:=BV (Jv e) (λt=>Kl A t.1 t.2.1 c Q) (uZ A e c Q)
noncomputable def vB(A:AY->AC->AB->Prop)(e:Expr)(c:AC)(Q:AB):Prop:=BV (lF e) (λt=>uP A t.1 t.2.1 t.2.2.1 t.2.2.2 c Q) (vA A e c Q)
noncomputable def vC(A:AY->AC->AB->Prop)(e:Expr)(c:AC)(Q:AB):Prop:=BV (cE e) (λt=>JU (uH t.1) c Q) (vB A e c Q)
noncomputable def lV(A:AY->AC->AB->Prop)(e:Expr)(c:AC)(Q:AB):Prop:=BV (JT e) (λt=>Co t.1 c Q) (vC A e c Q)
noncomputable def lW(A:AY->AC->AB->Prop)(l:Expr)(ops:List CmpOp)(rs:List Expr)(c:AC)(Q:AB):Prop:=GA (Nat.beq ops.length 1)
   (on (one ops) λop=>on (one rs) λr=>gf (behindInMarks op r) (A (.eval l) c (FH λa c1=>A (.eval r) c1 (FH λb c2=>RL (GL c2.st op a b) c2 Q))))
   (on (uC ops) λo=>on (uC rs) λr=>gf (lastMarks [o.1,o.2] [r.1,r.2]) (A (.eval l) c (FH λa c1=>A (.eval r.1) c1 (FH λb c2=>on (GL c2.st o.1 a b) λx=>GA x (A (.eval r.2) c2 (FH λd c3=>RL (GL c3.st o.2 b d) c3 Q)) (Q (.t false) c2)))))
noncomputable def cP(A:AY->AC->AB->Prop)(op:BoolOp)(es:List Expr)(c:AC)(Q:AB):Prop:=on (uC es) λe=>GA (Qd op)
 (A (.test e.1) c (lJ λx c1=>GA x (Q (.t true) c1) (A (.test e.2) c1 Q))) (A (.test e.1) c (lJ λx c1=>GA x (A (.test e.2) c1 Q) (Q (.t false) c1)))
noncomputable def Qj:UnaryOp->Bool
 | .Not=>true
 |_=>false
noncomputable def gN(e:Expr):Bool:=Nat.beq e.ctorIdx 23||(Nat.beq e.ctorIdx 16||(Nat.beq e.ctorIdx 21||(Nat.beq e.ctorIdx 20||(Nat.beq e.ctorIdx 2||Nat.beq e.ctorIdx 8))))
noncomputable def Qk(e:Expr):Option (Expr×Pos):=(Vv e).bind λt=>if Qj t.1=true then some t.2 else none
noncomputable def lX(A:AY->AC->AB->Prop)(a b:Expr)(c:AC)(Q:AB):Prop:=A (.eval a) c (FH λa c1=>A (.eval b) c1 (FH λb c2=>RL (Wg a b) c2 Q))
noncomputable def vD(A:AY->AC->AB->Prop)(e:Expr)(c:AC)(Q:AB):Prop:=BV (Qk e) (λt=>A (.test t.1) c (lJ λb c1=>Q (.t (!b)) c1)) (gd (gN e) (A (.eval e) c (FH λa c1=>RL (TO c1.st a) c1 Q)))
noncomputable def vE(A:AY->AC->AB->Prop)(e:Expr)(c:AC)(Q:AB):Prop:=BV (tR e) (λt=>cP A t.1 t.2.1 c Q) (vD A e c Q)
noncomputable def vF(A:AY->AC->AB->Prop)(e:Expr)(c:AC)(Q:AB):Prop:=BV (By e) (λt=>lW A t.1 t.2.1 t.2.2.1 c Q) (vE A e c Q)
noncomputable def lY(A:AY->AC->AB->Prop)(e:Expr)(c:AC)(Q:AB):Prop:=BV (TR e) (λt=>lX A t.1 t.2 c Q) (vF A e c Q)
noncomputable def Ql(A:AY->AC->AB->Prop)(a:Nat)(as:List AV)(c:AC)(Q:AB):Prop:=on (DD a) λfd=>GA (frees as)
 (on (DS fd [] as [] 0) λc'=>A (.execs fd.body) c' (LE c Q))
 (on (DS fd [] as c.st c.st.length) λc'=>A (.execs fd.body) c' (GO c Q))
noncomputable def vG(id:String)(as:List AV)(c:AC)(Q:AB):Prop:=BV ((one as).bind DF) (λs=>GA (id=="list") (gd (Nat.ble s.length 1000) (Q (.v (.loc c.st.length)) (c.add (.list (AK s))))) (JU (typ id as) c Q)) (JU (typ id as) c Q)
noncomputable def gO(A:AY->AC->AB->Prop)(a:Nat)(as:List AV)(c:AC)(Q:AB):Prop:=GA (Nat.beq a FZ) (on (DD 63) λfd=>on (DS fd [] (.loc c.st.length::as) (c.st++[.inst FZ (c.st.length+1),.ns []]) (c.st.length+2)) λc'=>
      A (.execs fd.body) c' (VY λx c''=>match x with
       | .next=>Q (.v (.loc c.st.length)) ⟨c.fr,c''.st,c.lo⟩
       |_=>False))
   (GA (Nat.beq a 193) (on (one as) λx=>on (MZ x) λxs=>on (GK xs) λis=>on (GW 6 none [] is) λr=>Q (.v (.flist (r.map .int))) c)
    (GA (Nat.beq a 169) (on (DD 169) λfd=>on (DS fd [] as c.st c.st.length) λc'=>Kg A fd.body c' (GO c Q)) (Ql A a as c Q)))
noncomputable def ZE(A:AY->AC->AB->Prop)(f:AV)(as:List AV)(c:AC)(Q:AB):Prop:=
 BV (tL f) (λid=>JU (blt c.st id as) c Q)<|BV (tM f) (λid=>vG id as c Q)<|BV (pM f) (λa=>gO A a as c Q)<|
 on (GF f) λl=>on (c.at l) λy=>on (lC y) λcl=>on (DS BD cl as c.st c.st.length) λc'=>A (.execs BD.body) c' (GO c Q)
noncomputable def SP(A:AY->AC->AB->Prop)(o:AV)(k:Nat)(fs:List (Str×AV))(m:Str)(as:List AV)(c:AC)(Q:AB):Prop:=gd (Nat.beq k FZ) (BV (bif GM m then(fs.lookup m).filter QH else none) (λv=>A (.call v as) c Q)
 (gd (fs.lookup m).isNone (on (FI.lookup m) λf=>on (DD f) λfd=>on (DS fd [] (o::as) c.st c.st.length) λc'=>A (.execs fd.body) c' (GO c Q))))
noncomputable def vH(A:AY->AC->AB->Prop)(o:AV)(m:Str)(as:List AV)(c:AC)(Q:AB):Prop:=
 BV (DF o) (λs=>JU (gG m s as c.st) c Q)<|
 BV (pM o) (λa=>on ((one as).bind BY) λi=>gd (Nat.beq a 110&&(m==("get":Str))) (Q (.v (TL i)) c))<|
 BV (MZ o) (λxs=>on ((one as).bind BY) λx=>gd (m==("count":Str)) (on (OL x xs) λi=>Q (.v (.int i)) c))<|
 on (GF o) λl=>on (c.at l) λy=>BV (KX y) (λxs=>on (SD m c.st l xs as) λvs=>Q (.v vs.1) {c with st:=vs.2}) (on (LB c.st o) λp=>SP A o p.1 p.2.2 m as c Q)
noncomputable def vI(A:AY->AC->AB->Prop)(t v:Expr)(c:AC)(Q:AB):Prop:=
 on (lI c.fr.scope t v) λsw=>A (.eval v) c (FH λw c1=>on (TG w) λus=>BV sw (λnames=>gd (Nat.beq us.length names.length) (on (GN c1 names.reverse us.reverse) λc2=>Q (.f .next) c2)) (on (LC c1 t w) λc2=>Q (.f .next) c2))
noncomputable def vJ(A:AY->AC->AB->Prop)(o i v:Expr)(c:AC)(Q:AB):Prop:=gf (MM v) (A (.eval v) c (FH λw c1=>A (.eval o) c1 (FH λa c2=>A (.eval i) c2 (FH λb c3=>∀g,on (ZC c3.st a b w g) λst=>Q (.f .next) {c3 with st:=st}))))
noncomputable def lZ(A:AY->AC->AB->Prop)(o:Expr)(m:Str)(v:Expr)(c:AC)(Q:AB):Prop:=gf (MM v) (A (.eval v) c (FH λw c1=>A (.eval o) c1 (FH λa c2=>on (Ka c2.st a m w) λst=>Q (.f .next) {c2 with st:=st})))
noncomputable def Cp(A:AY->AC->AB->Prop)(x:Str)(v:Expr)(c:AC)(Q:AB):Prop:=gd ((Vw v).isSome|| !MM v) (A (.eval v) c (FH λw c1=>on (HS c1 x w) λc2=>Q (.f .next) c2))
noncomputable def WO(A:AY->AC->AB->Prop)(t v:Expr)(c:AC)(Q:AB):Prop:=
 BV (JT t) (λp=>Cp A p.1 v c Q)<|BV (Jv t) (λp=>vJ A p.1 p.2.1 v c Q)<|BV (TK t) (λp=>lZ A p.1 p.2.1 v c Q)<|on (gE t) λ_=>on (gE v) λ_=>vI A t v c Q
noncomputable def Hz:Operator->Bool
 | .Add=>true
 |_=>false
noncomputable def mB(A:AY->AC->AB->Prop)(x:Str)(op:Operator)(v:Expr)(c:AC)(Q:AB):Prop:=gd (uD c x) (on (DB c x) λa=>A (.eval v) c (FH λb c1=>on (TN c1.st op a b) λw=>gd (WL op a b) (on (HS c1 x w) λc2=>Q (.f .next) c2)))
noncomputable def mD(A:AY->AC->AB->Prop)(o:Expr)(m:Str)(op:Operator)(v:Expr)(c:AC)(Q:AB):Prop:=A (.eval o) c (FH λa c1=>on (Jz c1.st a m) λx=>A (.eval v) c1 (FH λb c2=>gd (Hz op) (on (BY x) λi=>on (BY b) λj=>on (Ka c2.st a m (.int (i+j))) λst=>Q (.f .next) {c2 with st:=st})))
noncomputable def Km(A:AY->AC->AB->Prop)(t:Expr)(op:Operator)(v:Expr)(c:AC)(Q:AB):Prop:=BV (JT t) (λp=>mB A p.1 op v c Q) (on (TK t) λp=>mD A p.1 p.2.1 op v c Q)
noncomputable def Cq(A:AY->AC->AB->Prop)(t it:Expr)(b o:List Stmt)(c:AC)(Q:AB):Prop:=
 gf (TS it) (QJ A it c (λsrc c1=>BV (lO c1 src) (λl=>gd (TT src t) (pQ A t b o c1 l.1 l.2.1 l.2.2 Q)) (gL A t b o c1 src Q)))
noncomputable def vK(A:AY->AC->AB->Prop)(t:Expr)(b o:List Stmt)(c:AC)(Q:AB):Prop:=A (.test t) c (lJ λx c1=>GA x (A (.execs b) c1 Q) (A (.execs o) c1 Q))
noncomputable def vL(A:AY->AC->AB->Prop)(s:Stmt)(c:AC)(Q:AB):Prop:=BV (tY s) (λt=>gM A t.1 t.2.1 t.2.2.1 c Q) (on (Hw s) λ_=>Q (.f .cont) c)
noncomputable def vM(A:AY->AC->AB->Prop)(s:Stmt)(c:AC)(Q:AB):Prop:=BV (Cc s) (λt=>Cq A t.1 t.2.1 t.2.2.1 t.2.2.2.1 c Q) (vL A s c Q)
noncomputable def vN(A:AY->AC->AB->Prop)(s:Stmt)(c:AC)(Q:AB):Prop:=BV (Ce s) (λt=>vK A t.1 t.2.1 t.2.2.1 c Q) (vM A s c Q)
noncomputable def vO(A:AY->AC->AB->Prop)(s:Stmt)(c:AC)(Q:AB):Prop:=BV (Jw s) (λt=>on t.1 λe=>A (.eval e) c (FH λa c1=>Q (.f (.ret a)) c1)) (vN A s c Q)
noncomputable def vP(A:AY->AC->AB->Prop)(s:Stmt)(c:AC)(Q:AB):Prop:=BV (Hv s) (λt=>gf (MM t.1) (A (.eval t.1) c (FH λ_ c1=>Q (.f .next) c1))) (vO A s c Q)
noncomputable def vQ(A:AY->AC->AB->Prop)(s:Stmt)(c:AC)(Q:AB):Prop:=BV (Pv s) (λt=>Km A t.1 t.2.1 t.2.2.1 c Q) (vP A s c Q)
noncomputable def mE(A:AY->AC->AB->Prop)(s:Stmt)(c:AC)(Q:AB):Prop:=BV (tX s) (λt=>on (one t.1) λx=>WO A x t.2.1 c Q) (vQ A s c Q)
noncomputable def Cr(A:AY->AC->AB->Prop)(t:AY)(c:AC)(Q:AB):Prop:=match t with
 | .eval e=>lV A e c Q
 | .opt e=>match e with
  |none=>Q (.vs []) c
  |some e=>A (.eval e) c (FH λa c1=>Q (.vs [a]) c1)
 | .evs es=>match es with
  |[]=>Q (.vs []) c
  |e::r=>A (.eval e) c (FH λa c1=>A (.evs r) c1 (QI λvs c2=>Q (.vs (a::vs)) c2))
 | .ifs es=>match es with
  |[]=>Q (.t true) c
  |e::r=>A (.test e) c (lJ λb c1=>GA b (A (.ifs r) c1 Q) (Q (.t false) c1))
 | .comp elt gs=>match gs with
  |[]=>A (.eval elt) c (FH λy c1=>gd y.free (Q (.vs [y]) c1))
  |g::gs=>gf (TS g.iter) (QJ A g.iter c (λsrc c1=>on (OK c1.st src) λitems=>WN A elt g gs c1.st.length c1 src items (λys=>Q (.vs ys) c1)))
 | .test e=>lY A e c Q
 | .call f as=>ZE A f as c Q
 | .mcall o m as=>vH A o m as c Q
 | .execs ss=>match ss with
  |[]=>Q (.f .next) c
  |s::r=>A (.exec s) c (VY λx c1=>match x with
    | .next=>A (.execs r) c1 Q
    |x=>Q (.f x) c1)
 | .exec s=>mE A s c Q
noncomputable def AX:Nat->AY->AC->AB->Prop
 |0=>λ_ _ _=>False
 |n+1=>Cr (AX n)
end Mine.Internal
end
section
open PySem PySem.Calls PyProof.Rows PySem.W
set_option autoImplicit true
namespace Mine.Internal
variable{h h' h1:Heap}{vs:List Value}{m:Str->Option Value}{Hs:List Nat}{k k' l b f x j i:Nat}{as':AH}{o:AO}{xs:List AV}{es:List (AV×AV)}{v u:Value}{s2:Shared}{c':AC}{p:Pos}{t:Tok}{K:AV->AC->Prop}{op:Operator}{z:AV}
noncomputable abbrev NT(_:Nat):Prop:=True
noncomputable def BO:Nat:=164
structure AH where
 pl:List Nat
 hid:List Nat
noncomputable def AH.off(p:AH)(a:Nat):Prop:=a∉p.pl/\a∉p.hid/\NT a
noncomputable def AH.cut(p:AH)(k:Nat):AH:=⟨p.pl.take k,p.hid⟩
noncomputable def AH.add(p:AH)(a:Nat):AH:=⟨p.pl++[a],p.hid⟩
structure AP extends Heap where
 w:World
noncomputable def LI(h:Heap)(a:Nat)(vs:List Value):Prop:=∃n,h.get? a=some {cls:= .type "list",dict:=none,data:= .seq vs.toArray n,slots:= #[]}
theorem LI.isList{a:Nat}(x:LI h a vs):h.IsList a vs.toArray:=by obtain⟨n,x⟩:=x;exact⟨_,x,rfl,n,rfl⟩
inductive Wh(h:Heap)(as:AH)(P:List Value->Prop)(v:Value):Prop
 |mk (a:Nat) (vs:List Value) (e:v= .ref a) (o:as.off a) (l:LI h a vs) (p:P vs):Wh h as P v
inductive B4(h:Heap)(as:AH)(P:List Value->Prop)(v:Value):Prop
 |mk (a:Nat) (vs:List Value) (e:v= .ref a) (o:as.off a) (l:IsTup h a vs.toArray) (p:P vs):B4 h as P v
inductive cQ(P:Value->Prop)(R:List Value->Prop)(vs:List Value):Prop
 |mk (v:Value) (t:List Value) (e:vs=v::t) (p:P v) (r:R t):cQ P R vs
mutual
noncomputable def CV(h:Heap)(as:AH):AV->Value->Prop
 | .none,v=>v= .none
 | .bool b,v=>v= .bool b
 | .int i,v=>∃t,v= .int i t
 | .str s,v=>∃t,v= .str ⟨s.toArray⟩ t
 | .fn a,v=>v= .ref a
 | .blt id,v=>v= .builtin id
 | .typ n,v=>v= .type n
 | .loc l,v=>∃a,as.pl[l]? =some a/\v= .ref a
 | .flist xs,v=>Wh h as (CVs h as xs) v
 | .ftup xs,v=>B4 h as (CVs h as xs) v
 | .range n,v=>∃a t u r,v= .ref a/\as.off a/\IsRange h a 0 n 1 t u r
 | .raw x,v=>v=x
noncomputable def CVs(h:Heap)(as:AH):List AV->List Value->Prop
 |[],vs=>vs=[]
 |x::r,vs=>cQ (CV h as x) (CVs h as r) vs
end
inductive IR{K:Type}(h:Heap)(as:AH)(m:K->Option Value)(x:K)(v:AV):Prop
 |mk (r:Value) (e:m x=some r) (cv:CV h as v r):IR h as m x v
inductive DK{w:World}{K:Type}[DecidableEq K](knd:KeyKind pw w K)(f:K->AV)(h:Heap)(as:AH)(es:List (AV×AV))(a:Nat):Prop
 |mk (kvs:List (K×Value)) (d:h.DictOf knd a kvs) (k:es.map (·.1)=kvs.map (λe=>f e.1)) (v:CVs h as (es.map (·.2)) (kvs.map (·.2))):DK knd f h as es a
noncomputable abbrev RM(s:Str):AV:= .str s.cps.toList
inductive vR(h:Heap)(as:AH)(xs:List AV)(a:Nat):Prop
 |mk (vs:List Value) (l:LI h a vs) (v:CVs h as xs vs):vR h as xs a
structure Qm(fd:FuncData)(cd:Nat):Prop where
 scope:fd.scope=BD.scope
 body:fd.body= .stmts BD.body
 params:fd.params=BD.params
 glb:fd.globals=mainGlobals
 blt:fd.builtins=builtinsNs
 dfl:fd.defaults= .none
 kwd:fd.kwdefaults= .none
 code:fd.code= .ref cd
inductive cR(h:Heap)(as:AH)(cd:Nat)(q:Str):Prop
 |mk (oc:Obj) (fs:Array Value) (t:Tok) (off:as.off cd) (h1:h.get? cd=some oc) (h2:oc.data= .fields fs) (h3:fs[1]? =some (.str q t)):cR h as cd q
noncomputable def ZF(pl:List Nat)(cl cl':List (Str×Nat)):Prop:=∀x l,cl.lookup x=some l->∃b,pl[l]? =some b/\cl'.lookup x=some b
inductive vS(h:Heap)(as:AH)(cl:List (Str×Nat))(a:Nat):Prop
 |mk (o:Obj) (fd:FuncData) (cd:Nat) (h1:h.get? a=some o) (h2:o.data= .func fd) (hf:Qm fd cd) (hc:cR h as cd fd.qualname) (h15:ZF as.pl cl fd.closure):vS h as cl a
noncomputable def CO(w:World)(h:Heap)(as:AH):AO->Nat->Prop
 | .list xs,a=>vR h as xs a
 | .dict es g,a=>h.get? a=some g/\(DK (intKind pw w) .int h as es a\/DK (strKind pw w) RM h as es a)
 | .inst0 c,a=>∃o,h.get? a=some o/\o.cls= .ref c/\(∀d,o.data≠ .cls d)/\o.dict=none
 | .inst c d,a=>∃o dx,h.get? a=some o/\o.cls= .ref c/\(∀d,o.data≠ .cls d)/\o.dict=some dx/\as.pl[d]? =some dx
 | .ns fs,a=>∃m,h.Ns1 a m/\(∀x,m x≠none->fs.lookup x≠none)/\∀x v,fs.lookup x=some v->IR h as m x v
 | .cell none,a=>∃v,h.IsCell a v
 | .cell (some x),a=>∃v,h.IsCell a (some v)/\CV h as x v
 | .clos cl,a=>vS h as cl a
 | .citer s f,a=>∃b x t,h.get? a=some {cls:= .type "callable_iterator",data:= .fields #[.ref b,.str ⟨#[]⟩ t,.bool false]}/\as.off b/\h.get? b=some {cls:= .type "method",data:= .fields #[.ref f,.ref x]}/\as.pl[s]? =some x
 | .dead,a=>∃o,h.get? a=some o
 | .tab,a=>a=BO/\h.get? a=some {cls:= .none,data:= .fields #[]}
noncomputable abbrev vT(vs:Array Value):Obj:={cls:= .none,data:= .fields vs}
noncomputable def GZ(h:Heap):Prop:=∃vs,h.get? BO=some (vT vs)
theorem GZ.ne{L:Nat}{vs:Array Value}(q:h.get? BO=some (vT vs))(n:h.Ns L m):BO≠L:=by rintro rfl;obtain⟨o,_,_,ho,hd,_⟩:=n;replace ho:=q▸ho;(replace ho:=sj ho;subst ho);exact nI PySem.Data.ctorIdx hd
theorem GZ.of{a:Nat}{ob:Obj}(x:GZ h)(e:h.get? a=some ob)(hc:ob.cls≠ .none\/∀v,ob.data≠ .fields v)(k:∀b o,h.get? b=some o->b≠a->h'.get? b=some o):GZ h':=
 by obtain⟨vs,q⟩:=x;exact⟨vs,k _ _ q λz=>by subst z;replace e:=q▸e;(replace e:=sj e;subst e);rcases hc with hc|hc;exact hc rfl;exact hc _ rfl⟩
theorem GZ.ofNs{L:Nat}(x:GZ h)(n:h.Ns L m)(k:∀b o,h.get? b=some o->b≠L->h'.get? b=some o):GZ h':=by obtain⟨vs,q⟩:=x;exact⟨vs,k _ _ q (GZ.ne q n)⟩
theorem GZ.off(x:GZ h)(f:∀b∈Hs,h.get? b=none):BO∉Hs:=λz=>by obtain⟨vs,q⟩:=x;rw[f _ z]at q;exact BJ q
theorem GZ.but(x:GZ h)(f:BO∉Hs)(k:∀b o,b∉Hs->h.get? b=some o->h'.get? b=some o):GZ h':=by obtain⟨vs,q⟩:=x;exact⟨vs,k _ _ f q⟩
theorem GZ.all(x:GZ h)(k:∀b o,h.get? b=some o->h'.get? b=some o):GZ h':=by obtain⟨vs,q⟩:=x;exact⟨vs,k _ _ q⟩
inductive LG(w:World)(h:Heap)(as:AH)(l:Nat)(o:AO):Prop
 |mk (a:Nat) (e:as.pl[l]? =some a) (co:CO w h as o a):LG w h as l o
structure vU(AA:AP)(L:Nat)(pl:List Nat)(a:Nat):Prop where
 pl:a∉pl
 loc:a≠L
 base:AA.get? a=none
 nt:NT a
structure QM(l:List (Str×AV))(as:AH)(h:Heap)(L:Nat)(m:Str->Option Value):Prop where
 ns:h.Ns L m
 val:∀x v,l.lookup x=some v->IR h as m x v
structure St(AA:AP)(c:AC)(e:Env)(as:AH)(h:Heap):Prop where
 keep:∀b o,AA.get? b=some o->NT b->h.get? b=some o
 tab:True
 tabx:GZ h
 len:as.pl.length=c.st.length
 nodup:as.pl.Nodup
 off:∀a∈as.pl,AA.get? a=none
 ptab:True
 objs:∀(l:Nat) (o:AO),c.st[l]? =some o->LG AA.w h as l o
 loff:e.locals∉as.pl
 lbase:AA.get? e.locals=none
 ltab:NT e.locals
 scope:e.scope=c.fr.scope
 kind:c.fr.scope.kind= .function
 glb:e.globals=mainGlobals
 blt:e.builtins=builtinsNs
 cells:∀(x:Str) (l:Nat),c.fr.cells.lookup x=some l->∃a,as.pl[l]? =some a/\e.cells.lookup x=some a
 loc:∃m,QM c.fr.locals as h e.locals m
 low:c.lo<=as.pl.length
 hid:∀a∈as.hid,(∃o,h.get? a=some o)/\vU AA e.locals as.pl a
structure QB(k:Nat)(L:Nat)(as:List Nat)(h:Heap)(as':List Nat)(h':Heap):Prop where
 pre:as.take k=as'.take k
 kle:k<=as'.length
 same:∀a o,h.get? a=some o->a∉as->a≠L->NT a->h'.get? a=some o
 alive:∀a o,h.get? a=some o->∃o',h'.get? a=some o'
 new:∀a,a∈as'->a∉as->h.get? a=none
theorem QB.refl{L:Nat}{as:List Nat}(hk:k<=as.length):QB k L as h as h:=
 ⟨rfl,hk,λ_ _ e _ _ _=>e,λ_ o e=>⟨o,e⟩,λ_ h1 h2=>absurd h1 h2⟩
theorem QB.trans{L:Nat}{as as1 as2:List Nat}{h2:Heap}(x:QB k L as h as1 h1)(y:QB k L as1 h1 as2 h2):QB k L as h as2 h2 where
 pre:=x.pre.trans y.pre
 kle:=y.kle
 same:=λa o e h3 h4 h5=>y.same a o (x.same a o e h3 h4 h5) (λh6=>by have:=x.new a h6 h3;replace e:=this▸e;exact BJ e) h4 h5
 alive:=λa o e=>by obtain⟨o1,e1⟩:=x.alive a o e;exact y.alive a o1 e1
 new:=λa h3 h4=>by
  by_cases h5:a∈as1
  .exact x.new a h5 h4
  .have e1:=y.new a h3 h5;cases e:h.get? a with
   |none=>rfl
   |some o=>obtain⟨o1,e2⟩:=x.alive a o e;rw[e1]at e2;exact BJ e2
theorem QB.le{L:Nat}{as as':List Nat}(x:QB k L as h as' h')(hk:k'<=k):QB k' L as h as' h':=
 ⟨by have:=congrArg (List.take k') x.pre;simpa[List.take_take,Nat.min_eq_left hk]using this,Nat.le_trans hk x.kle,x.same,x.alive,x.new⟩
theorem QB.get{L:Nat}{as as':List Nat}(x:QB k L as h as' h'){a:Nat}(hl:l<k)(e:as[l]? =some a):as'[l]? =some a:=by have p:=congrArg (λt=>t[l]?) x.pre;simp only[List.getElem?_take,hl,if_true]at p;refine p▸?_;exact e
theorem QB.notin{L:Nat}{as as':List Nat}(x:QB k L as h as' h'){a:Nat}{o:Obj}(e:h.get? a=some o)(hn:a∉as):a∉as':=λhm=>by have:=x.new a hm hn;replace e:=this▸e;exact BJ e
noncomputable def JV(o:Obj):Prop:=(∃xs n,o.data= .seq xs n)\/∃v,o.data= .fields v
theorem JV.ne{a L:Nat}{o:Obj}(x:JV o)(e:h.get? a=some o)(y:h.Ns L m):a≠L:=by rintro rfl;obtain⟨o',es,ep,ho',hd',_⟩:=y;replace ho':=e▸ho';(replace ho':=(sj ho');subst ho');rcases x with⟨_,_,x⟩|⟨_,x⟩<;>(rw[hd']at x;exact nI PySem.Data.ctorIdx x)
noncomputable def BR(h:Heap)(as:AH)(h':Heap)(as':AH):Prop:=
 (∀a o,h.get? a=some o->as.off a->JV o->h'.get? a=some o/\as'.off a)/\∀(l a:Nat),as.pl[l]? =some a->as'.pl[l]? =some a
theorem BR.li{as:AH}(M:BR h as h' as'){a:Nat}(l:LI h a vs)(o:as.off a):LI h' a vs/\as'.off a:=
 l.elim λn l=>(M.1 a _ l o (.inl ⟨_,_,rfl⟩)).imp (λl=>⟨n,l⟩) id
theorem BR.tup{as:AH}(M:BR h as h' as'){a:Nat}{vs:Array Value}(l:IsTup h a vs)(o:as.off a):IsTup h' a vs/\as'.off a:=
 l.elim λob l=>(M.1 a ob l.1 o (l.2.2.elim λ_ h=> .inl ⟨_,_,h⟩)).imp (λh=>⟨ob,h,l.2⟩) id
theorem CVs.all{as:AH}(k:∀x v,CV h as x v->CV h' as' x v):∀{vs:List Value},CVs h as xs vs->CVs h' as' xs vs:=by
 induction xs with
 |nil=>exact id
 |cons x xs ih=>exactλe=>cQ.rec (λv t e p r=>⟨v,t,e,k x v p,ih r⟩) e
theorem CV.mono{as:AH}(M:BR h as h' as')(a:AV):∀(v:Value),CV h as a v->CV h' as' a v:=
 AV.rec (motive_1:=λa=>∀v,CV h as a v->CV h' as' a v) (motive_2:=λxs=>∀vs,CVs h as xs vs->CVs h' as' xs vs) (λ_ e=>e) (λ_ _ e=>e) (λ_ _ e=>e) (λ_ _ e=>e) (λ_ _ e=>e) (λ_ _ e=>e) (λ_ _ e=>e)
  (λ_ _ e=>e.imp λ_ e=>e.imp_left (M.2 _ _)) (λ_ ih _ e=>e.rec λa vs e o l p=>⟨a,vs,e,(M.li l o).2,(M.li l o).1,ih vs p⟩) (λ_ ih _ e=>e.rec λa vs e o l p=>⟨a,vs,e,(M.tup l o).2,(M.tup l o).1,ih vs p⟩)
  (λ_ _ e=>e.imp λa=>Exists.imp λt=>Exists.imp λu=>Exists.imp λr e=>⟨e.1,(M.1 a _ e.2.2 e.2.1 (.inr ⟨_,rfl⟩)).symm⟩) (λ_ _ e=>e) (λ_ e=>e) (λ_ _ ih1 ih2 _ e=>e.rec λv t e p r=>⟨v,t,e,ih1 v p,ih2 t r⟩) a
theorem CVs.mono{as:AH}(M:BR h as h' as')(xs:List AV)(vs:List Value)(x:CVs h as xs vs):CVs h' as' xs vs:=CVs.all (CV.mono M) x
theorem QB.mono{L:Nat}{as:AH}(x:QB k L as.pl h as'.pl h')(hk:as.pl.length<=k)(hh:as'.hid=as.hid)(hn:h.Ns L m):BR h as h' as':=
 ⟨λa o e ho hs=>⟨x.same a o e ho.1 (hs.ne e hn) ho.2.2,x.notin e ho.1,by rw[hh];exact ho.2.1,ho.2.2⟩,λl a e=>x.get (Nat.lt_of_lt_of_le (EC e) hk) e⟩
theorem DK.mono{as:AH}{w:World}{K:Type}[DecidableEq K]{knd:KeyKind pw w K}{f:K->AV}(M:BR h as h' as'){a:Nat}(k:∀o',h.get? a=some o'->h'.get? a=some o')(z:DK knd f h as es a):DK knd f h' as' es a:=by obtain⟨kvs,d,h2,h3⟩:=z;exact⟨kvs,d.at k,h2,CVs.mono M _ _ h3⟩
theorem IR.mono{as:AH}{K:Type}{m:K->Option Value}{x:K}{v:AV}(M:BR h as h' as')(z:IR h as m x v):IR h' as' m x v:=by obtain⟨r,e,cv⟩:=z;exact⟨r,e,CV.mono M v r cv⟩
theorem cR.mono{as:AH}(M:BR h as h' as'){cd:Nat}{q:Str}(z:cR h as cd q):cR h' as' cd q:=by obtain⟨oc,fs,t,h11,h12,h13,h14⟩:=z;exact⟨oc,fs,t,(M.1 cd oc h12 h11 (.inr ⟨_,h13⟩)).2,(M.1 cd oc h12 h11 (.inr ⟨_,h13⟩)).1,h13,h14⟩
theorem CO.mono{as:AH}{w:World}(M:BR h as h' as'){a:Nat}(k:∀o',h.get? a=some o'->h'.get? a=some o')(z:CO w h as o a):CO w h' as' o a:=by
 cases o with
 |list xs=>obtain⟨vs,⟨n,h3⟩,h4⟩:=z;exact⟨vs,⟨n,k _ h3⟩,CVs.mono M xs vs h4⟩
 |dict es g=>exact And.imp (k _) (Or.imp (DK.mono M k) (DK.mono M k)) z
 |inst0 c=>exact Exists.imp (λ_ z=>z.imp_left (k _)) z
 |inst c d=>exact Exists.imp (λ_ z=>Exists.imp (λ_ z=>z.imp (k _) (And.imp_right (And.imp_right (And.imp_right (M.2 _ _))))) z) z
 |ns fs=>exact Exists.imp (λ_ z=>z.imp (·.at k) (And.imp_right λz x v e=>(z x v e).mono M)) z
 |cell v=>cases v with
  |none=>exact Exists.imp (λ_ z=>Exists.imp (λ_ z=>z.imp_left (k _)) z) z
  |some y=>exact Exists.imp (λv z=>z.imp (Exists.imp λ_ z=>z.imp_left (k _)) (CV.mono M y v)) z
 |clos cl=>obtain⟨o,fd,cd,h1,h2,hf,hc,h15⟩:=z;exact⟨o,fd,cd,k _ h1,h2,hf,hc.mono M,λx l e=>(h15 x l e).imp λ_ e=>e.imp_left (M.2 _ _)⟩
 |citer s f=>exact Exists.imp (λb z=>Exists.imp (λ_ z=>Exists.imp (λ_ z=>⟨k _ z.1,(M.1 b _ z.2.2.1 z.2.1 (.inr ⟨_,rfl⟩)).2,(M.1 b _ z.2.2.1 z.2.1 (.inr ⟨_,rfl⟩)).1,M.2 _ _ z.2.2.2⟩) z) z) z
 |dead=>exact Exists.imp (λ_=>k _) z
 |tab=>exact And.imp_right (k _) z
theorem CO.at{as:AH}{w:World}{a:Nat}(z:CO w h as o a):∃o',h.get? a=some o':=by
 cases o with
 |list xs=>obtain⟨vs,⟨n,h3⟩,h4⟩:=z;exact⟨_,h3⟩
 |dict es g=>exact⟨_,z.1⟩
 |inst0 c=>exact Exists.imp (λ_ z=>z.1) z
 |inst c d=>exact Exists.imp (λ_ z=>z.elim λ_ z=>z.1) z
 |ns fs=>exact Exists.elim z λ_ z=>z.1.imp λ_ z=>z.elim λ_ z=>z.elim λ_ z=>z.1
 |cell v=>cases v with
  |none=>exact Exists.elim z λ_ z=>z.imp λ_ z=>z.1
  |some y=>exact Exists.elim z λ_ z=>z.1.imp λ_ z=>z.1
 |clos cl=>exact vS.rec (λo _ _ h1 _ _ _ _=>⟨o,h1⟩) z
 |citer s f=>exact Exists.elim z λ_ z=>Exists.elim z λ_ z=>Exists.elim z λ_ z=>⟨_,z.1⟩
 |dead=>exact z
 |tab=>exact⟨_,z.2⟩
theorem BI{M:Model}{A:Around}{α:Type}{m:Sem α}{Q:α->Shared->Prop}{E:Value->Shared->Prop}{s:Shared}(h:wpAny M A m (λa s'=>s.toks<=s'.toks->Q a s') E s):wpAny M A m Q E s:=
 wpAny_with_toks (Nat.le_refl _) (wpAny_mono h (λ_ _ x=>x) λ_ _ x _=>x)
noncomputable def Sh(s s':Shared):Prop:=s'.drawn=s.drawn/\s'.os=s.os/\∃g,s'.gens=s.gens++g/\s.toks<=s'.toks/\AllBare g
theorem Sh.refl(s:Shared):Sh s s:=⟨rfl,rfl,#[],by rfl,Nat.le_refl _,.empty⟩
theorem Sh.trans{s s1:Shared}(x:Sh s s1)(y:Sh s1 s2):Sh s s2:=by obtain⟨a,b,g,e,k,q⟩:=x;obtain⟨a',b',g',e',k',q'⟩:=y;exact⟨a'.trans a,b'.trans b,g++g',by rw[e',e,Array.append_assoc],Nat.le_trans k k',λy hy=>(Array.mem_append.mp hy).elim (q y) (q' y)⟩
theorem Sh.tk{s s1:Shared}(x:Sh s s1):s.toks<=s1.toks:=by obtain⟨_,_,_,_,k,_⟩:=x;exact k
theorem Sh.heap(s:Shared)(h:Heap)(t:Nat)(ht:s.toks<=t:=by first|assumption|exact Nat.le_refl _|exact Nat.le_succ _|omega):Sh s {s with heap:=h,toks:=t}:=⟨rfl,rfl,#[],by rfl,ht,.empty⟩
structure Go(AA:AP)(e:Env)(k:Nat)(c:AC)(as:AH)(s:Shared)(c':AC)(as':AH)(s':Shared):Prop where
 st:St AA c' e as' s'.heap
 evo:QB k e.locals as.pl s.heap as'.pl s'.heap
 hid:as'.hid=as.hid
 sh:Sh s s'
 lo:c'.lo=c.lo
theorem Go.refl{AA:AP}{e:Env}{c:AC}{as:AH}{s:Shared}(x:St AA c e as s.heap)(hk:k<=as.pl.length):Go AA e k c as s c as s:=⟨x,.refl hk,rfl,.refl s,rfl⟩
theorem Go.trans{AA:AP}{e:Env}{c c1 c2:AC}{as as1 as2:AH}{s s1:Shared}(x:Go AA e k c as s c1 as1 s1)(y:Go AA e k' c1 as1 s1 c2 as2 s2)(hk:k<=k'):Go AA e k c as s c2 as2 s2:=
 ⟨y.st,x.evo.trans (y.evo.le hk),y.hid.trans x.hid,x.sh.trans y.sh,y.lo.trans x.lo⟩
theorem Go.le{AA:AP}{e:Env}{c c1:AC}{as as1:AH}{s s1:Shared}(x:Go AA e k c as s c1 as1 s1)(hk:k'<=k):Go AA e k' c as s c1 as1 s1:=⟨x.st,x.evo.le hk,x.hid,x.sh,x.lo⟩
theorem Go.tk{AA:AP}{e:Env}{c c1:AC}{as as1:AH}{s s1:Shared}(x:Go AA e k c as s c1 as1 s1)(h:1<=s.toks):1<=s1.toks:=Nat.le_trans h x.sh.tk
theorem Go.len{AA:AP}{e:Env}{c c1:AC}{as as1:AH}{s s1:Shared}(x:Go AA e k c as s c1 as1 s1):k<=as1.pl.length:=x.evo.kle
theorem Go.mono{AA:AP}{e:Env}{c c1:AC}{as as1:AH}{s s1:Shared}(x:Go AA e as.pl.length c as s c1 as1 s1)(y:St AA c e as s.heap):BR s.heap as s1.heap as1:=
 by obtain⟨_,hn,_⟩:=y.loc;exact x.evo.mono (Nat.le_refl _) x.hid hn
theorem Go.cv{AA:AP}{e:Env}{c c1:AC}{as as1:AH}{s s1:Shared}(x:Go AA e as.pl.length c as s c1 as1 s1)(y:St AA c e as s.heap){a:AV}(z:CV s.heap as a v):CV s1.heap as1 a v:=
 CV.mono (x.mono y) a v z
theorem Go.cvs{AA:AP}{e:Env}{c c1:AC}{as as1:AH}{s s1:Shared}(x:Go AA e as.pl.length c as s c1 as1 s1)(y:St AA c e as s.heap){a:List AV}{v:List Value}(z:CVs s.heap as a v):CVs s1.heap as1 a v:=
 CVs.mono (x.mono y) a v z
inductive AI(AA:AP)(e:Env)(c:AC)(as:AH)(s:Shared)(Q:AB)(v:Value)(s':Shared):Prop
 |mk (c':AC) (as':AH) (a:AV) (g:Go AA e as.pl.length c as s c' as' s') (x:CV s'.heap as' a v) (q:Q (.v a) c'):AI AA e c as s Q v s'
inductive TU(AA:AP)(e:Env)(c:AC)(as:AH)(s:Shared)(Q:AB)(v:List Value)(s':Shared):Prop
 |mk (c':AC) (as':AH) (a:List AV) (g:Go AA e as.pl.length c as s c' as' s') (x:CVs s'.heap as' a v) (q:Q (.vs a) c'):TU AA e c as s Q v s'
inductive EJ(AA:AP)(e:Env)(c:AC)(as:AH)(s:Shared)(Q:AB)(b:Bool)(s':Shared):Prop
 |mk (c':AC) (as':AH) (g:Go AA e as.pl.length c as s c' as' s') (q:Q (.t b) c'):EJ AA e c as s Q b s'
noncomputable def CF(h:Heap)(as:AH):ND->Flow->Prop
 | .next,f=>f= .next
 | .brk,f=>f= .brk
 | .cont,f=>f= .cont
 | .ret a,f=>∃v,f= .ret v/\CV h as a v
inductive CP(AA:AP)(e:Env)(c:AC)(as:AH)(s:Shared)(Q:AB)(f:Flow)(s':Shared):Prop
 |mk (c':AC) (as':AH) (a:ND) (g:Go AA e c.lo c as s c' as' s') (x:CF s'.heap as' a f) (q:Q (.f a) c'):CP AA e c as s Q f s'
noncomputable def no:Value->Shared->Prop:=λ_ _=>False
structure AL(A:Around)(e:Env)(n:Nat):Prop where
 depth:A.depth+2*n+50<=990
 units:A.units+20*n+100<=9000
 quiet:A.handled=none
 link:FN e.scope=true->A.frames=some [e]/\e.frame=some e.locals
theorem AL.le{A:Around}{e:Env}{n m:Nat}(x:AL A e n)(h:m<=n):AL A e m:=⟨Nat.le_trans (Nat.add_le_add_right (Nat.add_le_add_left (Nat.mul_le_mul_left _ h) _) _) x.depth,Nat.le_trans (Nat.add_le_add_right (Nat.add_le_add_left (Nat.mul_le_mul_left _ h) _) _) x.units,x.quiet,x.link⟩
theorem St.locs{AA:AP}{c:AC}{e:Env}{as:AH}(x:St AA c e as h):∃m,QM c.fr.locals as h e.locals m:=by obtain⟨m,a,b⟩:=x.loc;exact⟨m,a,b⟩
theorem St.stepS{AA:AP}{c:AC}{e:Env}{as:AH}{s s':Shared}(x:St AA c e as s.heap)(ev:QB as.pl.length e.locals as.pl s.heap as.pl s'.heap)(h1:c'.lo=c.lo)(h2:c'.fr.scope=c.fr.scope)(h3:c'.fr.cells=c.fr.cells)
  (h4:c'.st.length=c.st.length)(objs:BR s.heap as s'.heap as->∀(l:Nat) (o:AO),c'.st[l]? =some o->LG AA.w s'.heap as l o)
  (loc:BR s.heap as s'.heap as->∃m,QM c'.fr.locals as s'.heap e.locals m)(sh:Sh s s')(tb:GZ s'.heap):Go AA e as.pl.length c as s c' as s':=
 have M:BR s.heap as s'.heap as:=by obtain⟨_,hn,_⟩:=x.loc;exact ev.mono (Nat.le_refl _) rfl hn
 ⟨⟨λb o e1 e2=>ev.same b o (x.keep b o e1 e2) (λq=>by replace e1:=(x.off b q)▸e1;exact BJ e1) (λq=>by replace e1:=x.lbase▸q▸e1;exact BJ e1) e2,x.tab,tb,by rw[h4];exact x.len,x.nodup,x.off,x.ptab,objs M,x.loff,x.lbase,x.ltab,
  by rw[h2];exact x.scope,by rw[h2];exact x.kind,x.glb,x.blt,by rw[h3];exact x.cells,loc M,by rw[h1];exact x.low,λa ha=>by obtain⟨⟨o,q1⟩,q2⟩:=x.hid a ha;exact⟨ev.alive a o q1,q2⟩⟩,ev,rfl,sh,h1⟩
theorem St.step{AA:AP}{c:AC}{e:Env}{as:AH}{s:Shared}(x:St AA c e as s.heap)(ev:QB as.pl.length e.locals as.pl s.heap as.pl h')(h1:c'.lo=c.lo)(h2:c'.fr.scope=c.fr.scope)(h3:c'.fr.cells=c.fr.cells)
  (h4:c'.st.length=c.st.length)(objs:BR s.heap as h' as->∀(l:Nat) (o:AO),c'.st[l]? =some o->LG AA.w h' as l o)
  (loc:BR s.heap as h' as->∃m,QM c'.fr.locals as h' e.locals m)(tb:GZ h')(t:Nat)(ht:s.toks<=t:=by first|assumption|exact Nat.le_refl _|exact Nat.le_succ _|omega):Go AA e as.pl.length c as s c' as {s with heap:=h',toks:=t}:=
 x.stepS (s':={s with heap:=h',toks:=t}) ev h1 h2 h3 h4 objs loc (Sh.heap ..) tb
theorem St.grown{AA:AP}{c:AC}{e:Env}{as:AH}{s:Shared}(x:St AA c e as s.heap)(lo:QM c.fr.locals as s.heap e.locals m)(hn:h'.Ns e.locals m)
  (hk:∀a o,s.heap.get? a=some o->a≠e.locals->h'.get? a=some o)(t:Nat)(ht:s.toks<=t:=by first|assumption|exact Nat.le_refl _|exact Nat.le_succ _|omega):Go AA e as.pl.length c as s c as {s with heap:=h',toks:=t}:=by
 refine x.step ⟨rfl,Nat.le_refl _,λa o e1 _ e2 _=>hk a o e1 e2,λa o e1=>?_,λ_ h1 h2=>absurd h1 h2⟩ rfl rfl rfl rfl (λM l o' e1=>?_) (λM=>⟨m,hn,λy v e1=>?_⟩) (x.tabx.ofNs lo.ns hk) t
 .by_cases q:a=e.locals
  .subst q;obtain⟨o',_,_,h1,_⟩:=hn;exact⟨o',h1⟩
  .exact⟨o,hk a o e1 q⟩
 .obtain⟨a,h1,h2⟩:=x.objs l o' e1;exact⟨a,h1,CO.mono M (λo'' h3=>hk a o'' h3 λq=>x.loff (q▸List.mem_of_getElem? h1)) h2⟩
 .obtain⟨r,h1,h2⟩:=lo.val y v e1;exact⟨r,h1,CV.mono M v r h2⟩
theorem St.push{AA:AP}{c:AC}{e:Env}{as:AH}{s:Shared}(x:St AA c e as s.heap)(o:Obj)(t:Nat)(ht:s.toks<=t:=by first|assumption|exact Nat.le_refl _|exact Nat.le_succ _|omega):Go AA e as.pl.length c as s c as {s with heap:=s.heap.push o,toks:=t}:=
 by obtain⟨_,lo⟩:=x.locs;exact x.grown lo (lo.ns.push o) (λ_ _ e1 _=>Heap.get?_push_of_some o e1) t
theorem St.extS{AA:AP}{c:AC}{e:Env}{as:AH}{s s':Shared}(x:St AA c e as s.heap)(hk:∀a o,s.heap.get? a=some o->s'.heap.get? a=some o)(sh:Sh s s'):Go AA e as.pl.length c as s c as s':=
 x.stepS ⟨rfl,Nat.le_refl _,λa o e1 _ _ _=>hk a o e1,λa o e1=>⟨o,hk a o e1⟩,λ_ h1 h2=>absurd h1 h2⟩ rfl rfl rfl rfl (λM l o e1=>by obtain⟨a,e2,e3⟩:=x.objs l o e1;exact⟨a,e2,CO.mono M (λ_ e4=>hk _ _ e4) e3⟩)
  (λM=>by obtain⟨m,hn,hl⟩:=x.loc;exact⟨m,hn.at' λo e=>hk _ o e,λy v e1=>by obtain⟨r,e2,e3⟩:=hl y v e1;exact⟨r,e2,CV.mono M _ _ e3⟩⟩) sh (x.tabx.all hk)
theorem St.ext{AA:AP}{c:AC}{e:Env}{as:AH}{s:Shared}(x:St AA c e as s.heap)(hk:∀a o,s.heap.get? a=some o->h'.get? a=some o)(t:Nat)(ht:s.toks<=t:=by first|assumption|exact Nat.le_refl _|exact Nat.le_succ _|omega):Go AA e as.pl.length c as s c as {s with heap:=h',toks:=t}:=
 by obtain⟨_,lo⟩:=x.locs;exact x.grown lo (lo.ns.at' λo e=>hk _ o e) (λa o e1 _=>hk a o e1) t
theorem St.toks{AA:AP}{c:AC}{e:Env}{as:AH}{s:Shared}(x:St AA c e as s.heap)(t:Nat)(ht:s.toks<=t:=by first|assumption|exact Nat.le_refl _|exact Nat.le_succ _|omega):Go AA e as.pl.length c as s c as {s with toks:=t}:=⟨x,.refl (Nat.le_refl _),rfl,⟨rfl,rfl,#[],by rfl,ht,.empty⟩,rfl⟩
theorem St.mem_lt{AA:AP}{c:AC}{e:Env}{as:AH}(x:St AA c e as h){a:Nat}(hm:a∈as.pl):∃o,h.get? a=some o:=by obtain⟨l,hl⟩:=List.mem_iff_getElem?.mp hm;have:l<as.pl.length:=(EC hl);rw[x.len]at this;obtain⟨a',e1,e2⟩:=x.objs l _ (List.getElem?_eq_getElem this);replace e1:=hl▸e1;(replace e1:=sj e1;subst e1);exact e2.at
noncomputable def IA(h:Heap)(a:Nat):Prop:=∀b o,h.get? b=some o->b<a
theorem IA.of{a:Nat}(ha:h.objs.size<=a):IA h a:=λ_ _ e=>Nat.lt_of_lt_of_le (Heap.lt_size e) ha
theorem IA.none{a:Nat}(x:IA h a):h.get? a=none:=by
 cases q:h.get? a with
 |none=>rfl
 |some o=>exact absurd (x a o q) (Nat.lt_irrefl _)
theorem St.freshN{AA:AP}{c:AC}{e:Env}{as:AH}(x:St AA c e as h){a:Nat}(fn:h.get? a=none):a∉as.pl/\NT a/\a≠e.locals:=by
 refine⟨λhm=>?_,trivial,λq=>?_⟩
 .obtain⟨o,ho⟩:=x.mem_lt hm;rw[fn]at ho;exact BJ ho
 .obtain⟨m,⟨o,_,_,ho,_⟩,_⟩:=x.loc;simp only[<-q,fn]at ho;exact BJ ho
theorem St.freshA{AA:AP}{c:AC}{e:Env}{as:AH}(x:St AA c e as h){a:Nat}(ha:IA h a):a∉as.pl/\NT a/\a≠e.locals:=x.freshN ha.none
theorem St.fresh{AA:AP}{c:AC}{e:Env}{as:AH}(x:St AA c e as h){a:Nat}(ha:h.objs.size<=a):a∉as.pl/\NT a/\a≠e.locals:=x.freshA (.of ha)
noncomputable def hE:Heap:={}
theorem vV(a:Nat):hE.get? a=none:=by rfl
noncomputable def pT(h:Heap)(L:Nat):List (Addr×Obj):=(List.range h.objs.size).filterMap λa=>if a=L then none else(h.get? a).map λo=>(a,o)
theorem JW{L:Nat}{p:Addr×Obj}:p∈pT h L↔h.get? p.1=some p.2/\p.1≠L:=by
 refine List.mem_filterMap.trans ⟨λ⟨b,_,hb⟩=>?_,λ⟨h1,h2⟩=>⟨p.1,List.mem_range.mpr (Heap.lt_size h1),(if_neg h2).trans (by rw[h1];rfl)⟩⟩;by_cases q:b=L
 .exact BJ ((if_pos q).symm.trans hb)
 .obtain⟨o,e1,e2⟩:=AZ ((if_neg q).symm.trans hb);exact e2▸⟨e1,q⟩
theorem QM.fr{c:AC}{as:AH}{L:Nat}(x:QM c.fr.locals as h L m):Fr hE L h m:=⟨x.ns,λb _ e=>(nomatch (vV b).symm.trans e),Nat.zero_le _⟩
theorem WP(h:Heap)(L:Nat):News hE L h (pT h L):=λ_ hp=>⟨(JW.mp hp).1,(JW.mp hp).2,vV _⟩
theorem St.kept{AA:AP}{c:AC}{e:Env}{as:AH}{s:Shared}(x:St AA c e as s.heap)(lo:QM c.fr.locals as s.heap e.locals m)(F:Fr hE e.locals h' m)
  (N:News hE e.locals h' (pT s.heap e.locals))(t:Nat)(ht:s.toks<=t:=by first|assumption|exact Nat.le_refl _|exact Nat.le_succ _|omega):Go AA e as.pl.length c as s c as {s with heap:=h',toks:=t}:=
 x.grown lo F.ns (λb o' e1 e2=>(N (b,o') (JW.mpr ⟨e1,e2⟩)).1) t
theorem St.made{AA:AP}{c:AC}{e:Env}{as:AH}{s:Shared}(x:St AA c e as s.heap)(lo:QM c.fr.locals as s.heap e.locals m){a:Nat}{o:Obj}(F:Fr hE e.locals h' m)
  (N:News hE e.locals h' ((a,o)::pT s.heap e.locals))(ha:s.heap.objs.size<=a)(t:Nat)(ht:s.toks<=t:=by first|assumption|exact Nat.le_refl _|exact Nat.le_succ _|omega):Go AA e as.pl.length c as s c as {s with heap:=h',toks:=t}/\h'.get? a=some o/\as.off a:=by
 have h1:=(N (a,o) (.head _)).1;have f:=x.fresh ha;refine⟨x.grown lo F.ns (λb o' e1 e2=>(N (b,o') (.tail _ (JW.mpr ⟨e1,e2⟩))).1) t,h1,f.1,λhm=>?_,f.2.1⟩;obtain⟨⟨o,ho⟩,_⟩:=x.hid a hm;exact absurd (Heap.lt_size ho) (Nat.not_lt.mpr ha)
theorem AH.up{as:AH}{a:Nat}(e1:as.pl[l]? =some b):(as.add a).pl[l]? =some b:=by show(as.pl++[a])[l]? =some b;rw[List.getElem?_append_left (EC e1)];exact e1
theorem AH.last{as:AH}{a:Nat}:(as.add a).pl[as.pl.length]? =some a:=by show(as.pl++[a])[as.pl.length]? =some a;rw[List.getElem?_append_right (Nat.le_refl _),Nat.sub_self];rfl
theorem St.addP{AA:AP}{c:AC}{e:Env}{as:AH}(x:St AA c e as h)(lo:QM c.fr.locals as h e.locals m)(hn:h'.Ns e.locals m)
  (hk:∀a o,h.get? a=some o->a≠e.locals->h'.get? a=some o){a:Nat}(M:BR h as h' (as.add a))(fa:a∉as.pl)(fl:a≠e.locals)(fi:a∉as.hid)(fb:AA.get? a=none)(co:CO AA.w h' (as.add a) o a):St AA (c.add o) e (as.add a) h' where
 keep b o' e1 e2:=hk b o' (x.keep b o' e1 e2) λq=>BJ ((q▸x.lbase:AA.get? b=none).symm.trans e1)
 tab:=x.tab
 tabx:=x.tabx.ofNs lo.ns hk
 len:=by show(as.pl++[a]).length=(c.st++[o]).length;rw[List.length_append,List.length_append,x.len];rfl
 nodup:=Pn x.nodup fa
 off b hb:=(TD hb).elim (x.off b) λq=>q▸fb
 ptab:=x.ptab
 objs l o' e1:=by
  rcases Po (show(c.st++[o])[l]? =some o' from e1)with e1|⟨e1,e2⟩
  .obtain⟨b,e3,e4⟩:=x.objs l o' e1;exact⟨b,AH.up e3,CO.mono M (λo'' h3=>hk b o'' h3 λq=>x.loff (q▸List.mem_of_getElem? e3)) e4⟩
  .exact⟨a,(congrArg (_[·]?) (e1.trans x.len.symm)).trans AH.last,e2▸co⟩
 loff hm:=(TD hm).elim x.loff λq=>fl q.symm
 lbase:=x.lbase
 ltab:=x.ltab
 scope:=x.scope
 kind:=x.kind
 glb:=x.glb
 blt:=x.blt
 cells y l e1:=(x.cells y l e1).imp λ_ e=>e.imp_left AH.up
 loc:=⟨m,hn,λy v e1=>(lo.val y v e1).mono M⟩
 low:=Nat.le_trans x.low (by show _<=(as.pl++[a]).length;rw[List.length_append];exact Nat.le_add_right _ _)
 hid b hb:=by obtain⟨⟨o1,q1⟩,q2⟩:=x.hid b hb;refine⟨?_,λq=>(TD q).elim q2.pl λq=>fi (q▸hb),q2.loc,q2.base,q2.nt⟩;exact⟨o1,hk b o1 q1 q2.loc⟩
theorem QB.add{L:Nat}{as as1:List Nat}(x:QB k L as h as1 h1){a:Nat}(fn:h.get? a=none):QB k L as h (as1++[a]) h1:=
 ⟨x.pre.trans (List.take_append_of_le_length x.kle).symm,by rw[List.length_append];exact Nat.le_trans x.kle (Nat.le_add_right _ _),x.same,x.alive,λb h1 h2=>(TD h1).elim (λq=>x.new b q h2) λq=>q▸fn⟩
theorem St.placeN{AA:AP}{c:AC}{e:Env}{as:AH}{s:Shared}(x:St AA c e as s.heap)(lo:QM c.fr.locals as s.heap e.locals m)(hn:h'.Ns e.locals m)
  (hk:∀a o,s.heap.get? a=some o->a≠e.locals->h'.get? a=some o){a:Nat}(fn:s.heap.get? a=none)
  (co:BR s.heap as h' (as.add a)->CO AA.w h' (as.add a) o a)(t:Nat)(ht:s.toks<=t:=by first|assumption|exact Nat.le_refl _|exact Nat.le_succ _|omega):Go AA e as.pl.length c as s (c.add o) (as.add a) {s with heap:=h',toks:=t}:=by
 have f:=x.freshN fn;have M:BR s.heap as h' (as.add a):=
  ⟨λb o e1 h1 h2=>⟨hk b o e1 (h2.ne e1 lo.ns),λq=>(TD q).elim h1.1 λq=>BJ (fn.symm.trans (q▸e1)),h1.2.1,h1.2.2⟩,λl b e1=>AH.up e1⟩
 have g:=x.grown lo hn hk t;refine⟨x.addP lo hn hk M f.1 f.2.2 (λq=>(x.hid a q).1.elim λo ho=>BJ (fn.symm.trans ho)) ?_ (co M),g.evo.add fn,rfl,g.sh,rfl⟩;cases q:AA.get? a with
 |none=>rfl
 |some o=>exact BJ (fn.symm.trans (x.keep a o q f.2.1))
theorem St.place{AA:AP}{c:AC}{e:Env}{as:AH}{s:Shared}(x:St AA c e as s.heap)(lo:QM c.fr.locals as s.heap e.locals m)(hn:h'.Ns e.locals m)
  (hk:∀a o,s.heap.get? a=some o->a≠e.locals->h'.get? a=some o){a:Nat}(ha:s.heap.objs.size<=a)
  (co:BR s.heap as h' (as.add a)->CO AA.w h' (as.add a) o a)(t:Nat)(ht:s.toks<=t:=by first|assumption|exact Nat.le_refl _|exact Nat.le_succ _|omega):Go AA e as.pl.length c as s (c.add o) (as.add a) {s with heap:=h',toks:=t}:=x.placeN lo hn hk (IA.of ha).none co t
theorem St.placed{AA:AP}{c:AC}{e:Env}{as:AH}{s:Shared}(x:St AA c e as s.heap)(ob:Obj)
  (co:BR s.heap as (s.heap.push ob) (as.add s.heap.objs.size)->CO AA.w (s.heap.push ob) (as.add s.heap.objs.size) o s.heap.objs.size)(t:Nat)(ht:s.toks<=t:=by first|assumption|exact Nat.le_refl _|exact Nat.le_succ _|omega):
  Go AA e as.pl.length c as s (c.add o) (as.add s.heap.objs.size) {s with heap:=s.heap.push ob,toks:=t}:=
 by obtain⟨_,lo⟩:=x.locs;exact x.place lo (lo.ns.push ob) (λ_ _ e1 _=>Heap.get?_push_of_some ob e1) (Nat.le_refl _) co t
theorem St.offA{AA:AP}{c:AC}{e:Env}{as:AH}(x:St AA c e as h){a:Nat}(ha:IA h a):as.off a:=
 have f:=x.freshA ha
 ⟨f.1,λhm=>(by obtain⟨⟨o,ho⟩,_⟩:=x.hid a hm;rw[ha.none]at ho;exact BJ ho),f.2.1⟩
theorem St.offNew{AA:AP}{c:AC}{e:Env}{as:AH}(x:St AA c e as h){a:Nat}(ha:h.objs.size<=a):as.off a:=
 have f:=x.fresh ha
 ⟨f.1,λhm=>by obtain⟨⟨o,ho⟩,_⟩:=x.hid a hm;exact absurd (Heap.lt_size ho) (Nat.not_lt.mpr ha),f.2.1⟩
end Mine.Internal
end
local macro_rules | `(tactic| trivial) => `(tactic| first | assumption | (apply Mine.Internal.Go.tk; assumption; assumption) | (apply Mine.Internal.Go.tk; assumption; apply Mine.Internal.Go.tk; assumption; assumption) | (apply Mine.Internal.Go.tk; assumption; apply Mine.Internal.Go.tk; assumption; apply Mine.Internal.Go.tk; assumption; assumption))
section
open PySem PySem.Calls PyProof.Rows PySem.W
set_option autoImplicit true
namespace Mine.Internal
variable{h h' h1:Heap}{vs:List Value}{m:Str->Option Value}{Hs:List Nat}{k k' l b f x j i:Nat}{as':AH}{o:AO}{xs:List AV}{es:List (AV×AV)}{v u:Value}{s2:Shared}{c':AC}{p:Pos}{t:Tok}{K:AV->AC->Prop}{op:Operator}{z:AV}
section
variable(AA:AP)
noncomputable def B5(n:Nat):Prop:=∀x c Q,AX n (.eval x) c Q->∀A e as s,St AA c e as s.heap->AL A e n->1<=s.toks->wpAny (model pw AA.w) A (eval x e) (AI AA e c as s Q) no s
noncomputable def B6(n:Nat):Prop:=∀x c Q,AX n (.test x) c Q->∀A e as s,St AA c e as s.heap->AL A e n->1<=s.toks->wpAny (model pw AA.w) A (isTrue x e (eval x e)) (EJ AA e c as s Q) no s
noncomputable def Qn(n:Nat):Prop:=∀xs c Q,AX n (.evs xs) c Q->∀A e as s pos,St AA c e as s.heap->AL A e n->1<=s.toks->wpAny (model pw AA.w) A (spliced (backTo pos (starEach xs e))) (λv s'=>v.length=xs.length/\TU AA e c as s Q v s') no s
noncomputable def B7(n:Nat):Prop:=∀x c Q,AX n (.exec x) c Q->∀A e as s,St AA c e as s.heap->AL A e n->1<=s.toks->wpAny (model pw AA.w) A (exec x e) (CP AA e c as s Q) no s
noncomputable def Qo(n:Nat):Prop:=∀x c Q,AX n (.execs x) c Q->∀A e as s,St AA c e as s.heap->AL A e n->1<=s.toks->wpAny (model pw AA.w) A (execs x e) (CP AA e c as s Q) no s
noncomputable def B8(n:Nat):Prop:=∀f xs c Q,AX n (.call f xs) c Q->∀A e as s fv vs,St AA c e as s.heap->CV s.heap as f fv->CVs s.heap as xs vs->AL A e n->1<=s.toks->wpAny (model pw AA.w) A (PySem.call fv vs) (AI AA e c as s Q) no s
structure Ok(n:Nat):Prop where
 E:B5 AA n
 T:B6 AA n
 Vs:Qn AA n
 S:B7 AA n
 Ss:Qo AA n
 C:B8 AA n
end
variable{AA:AP}{n:Nat}{A:Around}{e:Env}{as as1:AH}{s s1 s':Shared}{c c1:AC}{Q:AB}
inductive Kn(h:Heap)(C N:Addr):Prop
 |mk (nm q bs sn sub col dd k0 k1 k2 k3 k5) (e:h.get? C=some (excClassObj nm q C N bs [.type "object"] true sn sub false col dd k0 k1 k2 k3 k5 "object.__new__")):Kn h C N
theorem gP{C N:Addr}{mN:Str->Option Value}(X:ClsAt h C N mN):Kn h C N:=by obtain⟨nm,q,bs,sn,sub,col,dd,k0,k1,k2,k3,k5,e⟩:=X.obj;exact⟨nm,q,bs,sn,sub,col,dd,k0,k1,k2,k3,k5,e⟩
theorem St.at(hs:St AA c e as h){a:Nat}(hl:as.pl[l]? =some a)(h1:c.st[l]? =some o):CO AA.w h as o a:=by obtain⟨b,e1,co⟩:=hs.objs _ _ h1;exact(sj (hl.symm.trans e1))▸co
theorem AI.after(g:Go AA e as.pl.length c as s c1 as1 s1)(x:AI AA e c1 as1 s1 Q v s'):AI AA e c as s Q v s':=
 by obtain⟨c',as',a,g',cv,q⟩:=x;exact⟨c',as',a,g.trans g' g.len,cv,q⟩
theorem EJ.after(g:Go AA e as.pl.length c as s c1 as1 s1){v:Bool}(x:EJ AA e c1 as1 s1 Q v s'):EJ AA e c as s Q v s':=
 by obtain⟨c',as',g',q⟩:=x;exact⟨c',as',g.trans g' g.len,q⟩
theorem TU.after(g:Go AA e as.pl.length c as s c1 as1 s1){v:List Value}(x:TU AA e c1 as1 s1 Q v s'):TU AA e c as s Q v s':=
 by obtain⟨c',as',a,g',cv,q⟩:=x;exact⟨c',as',a,g.trans g' g.len,cv,q⟩
theorem CP.after(hl:c.lo<=as.pl.length)(g:Go AA e as.pl.length c as s c1 as1 s1){v:Flow}(x:CP AA e c1 as1 s1 Q v s'):CP AA e c as s Q v s':=
 by obtain⟨c',as',a,g',cv,q⟩:=x;exact⟨c',as',a,(g.le hl).trans g' (by rw[g.lo];exact Nat.le_refl _),cv,q⟩
theorem AI.here(hs:St AA c e as s.heap){t:Nat}{a:AV}(cv:CV s.heap as a v)(q:Q (.v a) c)(ht:s.toks<=t:=by first|assumption|exact Nat.le_refl _|exact Nat.le_succ _|omega):AI AA e c as s Q v {s with toks:=t}:=
 ⟨c,as,a,hs.toks t,cv,q⟩
theorem AI.here0(hs:St AA c e as s.heap){a:AV}(cv:CV s.heap as a v)(q:Q (.v a) c):AI AA e c as s Q v s:=
 ⟨c,as,a,Go.refl hs (Nat.le_refl _),cv,q⟩
theorem Cs{t:Sem Value}{f:Value->Shared->Prop}
  (h:wpAny (model pw AA.w) A t (AI AA e c as s (FH K)) no s)
  (k:∀c1 as1 a s1 v,Go AA e as.pl.length c as s c1 as1 s1->CV s1.heap as1 a v->K a c1->f v s1):wpAny (model pw AA.w) A t f no s:=
 wpAny_mono h (λv s1 x=>AI.rec (λc1 as1 a g cv q=>k c1 as1 a s1 v g cv q) x) λ_ _ x=>x
theorem Wi{t:Sem Bool}{f:Bool->Shared->Prop}{K:Bool->AC->Prop}
  (h:wpAny (model pw AA.w) A t (EJ AA e c as s (lJ K)) no s)
  (k:∀c1 as1 b s1,Go AA e as.pl.length c as s c1 as1 s1->K b c1->f b s1):wpAny (model pw AA.w) A t f no s:=
 wpAny_mono h (λb s1 x=>EJ.rec (λc1 as1 g q=>k c1 as1 b s1 g q) x) λ_ _ x=>x
theorem JI(ih:Ok AA n)(hr:AL A e (n+1)){x:Expr}(h:AX n (.eval x) c (FH K))(hs:St AA c e as s.heap)(ht:1<=s.toks){f:Value->Shared->Prop}
  (k:∀c1 as1 a s1 v,Go AA e as.pl.length c as s c1 as1 s1->CV s1.heap as1 a v->K a c1->f v s1):wpAny (model pw AA.w) A (eval x e) f no s:=
 Cs (ih.E _ _ _ h _ _ _ _ hs (hr.le (Nat.le_succ _)) ht) k
theorem Pc(ih:Ok AA n)(hr:AL A e (n+1)){x:Expr}{K:Bool->AC->Prop}(h:AX n (.test x) c (lJ K))(hs:St AA c e as s.heap)(ht:1<=s.toks){f:Bool->Shared->Prop}
  (k:∀c1 as1 b s1,Go AA e as.pl.length c as s c1 as1 s1->K b c1->f b s1):wpAny (model pw AA.w) A (isTrue x e (eval x e)) f no s:=
 Wi (ih.T _ _ _ h _ _ _ _ hs (hr.le (Nat.le_succ _)) ht) k
theorem B9(ih:Ok AA n)(hr:AL A e (n+1))(g:Go AA e as.pl.length c as s c1 as1 s1){x:Expr}(h:AX n (.eval x) c1 Q)(ht:1<=s.toks):wpAny (model pw AA.w) A (eval x e) (AI AA e c as s Q) no s1:=
 wpAny_mono (ih.E _ _ _ h _ _ _ _ g.st (hr.le (Nat.le_succ _)) (g.tk ht)) (λ_ _ x=>AI.after g x) λ_ _ x=>x
theorem C2(ih:Ok AA n)(hr:AL A e (n+1))(g:Go AA e as.pl.length c as s c1 as1 s1){x:Expr}(h:AX n (.test x) c1 Q)(ht:1<=s.toks):wpAny (model pw AA.w) A (isTrue x e (eval x e)) (EJ AA e c as s Q) no s1:=
 wpAny_mono (ih.T _ _ _ h _ _ _ _ g.st (hr.le (Nat.le_succ _)) (g.tk ht)) (λ_ _ x=>EJ.after g x) λ_ _ x=>x
theorem Qp(ih:Ok AA n)(hr:AL A e (n+1))(hl:c.lo<=as.pl.length)(g:Go AA e as.pl.length c as s c1 as1 s1){x:List Stmt}(h:AX n (.execs x) c1 Q)(ht:1<=s.toks):wpAny (model pw AA.w) A (execs x e) (CP AA e c as s Q) no s1:=
 wpAny_mono (ih.Ss _ _ _ h _ _ _ _ g.st (hr.le (Nat.le_succ _)) (g.tk ht)) (λ_ _ x=>CP.after hl g x) λ_ _ x=>x
theorem gQ(hs:St AA c e as s.heap){k:Const}(h:JU (uH k) c Q):wpAny (model pw AA.w) A (eval (.Constant k j p) e) (AI AA e c as s Q) no s:=by
 cases k with
 |none=>exact wpAny_Constant_none (AI.here0 (a:= .none) hs rfl h)
 |bool b=>exact wpAny_Constant_bool (AI.here0 (a:= .bool b) hs rfl h)
 |int i=>exact wpAny_Constant_int (AI.here (a:= .int i) hs ⟨_,rfl⟩ h)
 |str x=>exact Constant_str (AI.here (a:= .str x.cps.toList) hs ⟨_,rfl⟩ h)
 |_=>exact h.elim
theorem Wj(ih:Ok AA n)(hs:St AA c e as s.heap)(hr:AL A e (n+1))(ht:1<=s.toks){l r:Expr}
  (hb:∀{c:AC} {as:AH} {s:Shared} {a b z:AV} {v u:Value},St AA c e as s.heap->CV s.heap as a v->CV s.heap as b u->TN c.st op a b=some z->∀{Q:AB},Q (.v z) c->wpAny (model pw AA.w) A (binaryOp op v u) (AI AA e c as s Q) no s)
  (h:uR (AX n) l op r c Q):wpAny (model pw AA.w) A (eval (.BinOp l op r p) e) (AI AA e c as s Q) no s:=by
 refine wpAny_BinOp (JI ih hr h hs ht λc1 as1 a s1 v g1 v1 h1=>JI ih hr h1 g1.st (g1.tk ht) λc2 as2 b s2 u g2 v2 h2=>?_);obtain⟨z,hz,q⟩:=AG h2;exact wpAny_mono (hb g2.st (g2.cv g1.st v1) v2 hz q) (λ_ _ x=>AI.after g1 (AI.after g2 x)) λ_ _ x=>x
theorem RN{i:Int}(h:i.natAbs<2^62):Builtin.Int.intBits i<=64:=by
 have h':=Nat.lt_of_lt_of_le h (by decide+kernel:2^62<=2^64);cases i with
 |ofNat k=>exact intBits_le_64 (Int.lt_of_lt_of_le (by decide+kernel) (Int.natCast_nonneg k)) (Int.ofNat_lt.mpr h')
 |negSucc k=>exact intBits_le_64 (by rw[Int.negSucc_eq];exact Int.neg_lt_neg (by exact_mod_cast h')) (Int.lt_of_lt_of_le (Int.negSucc_lt_zero k) (by decide+kernel))
theorem gR(s:List Nat):(Str.mk s.toArray).length=s.length:=by rfl
theorem vW(s t:List Nat):(Str.mk s.toArray++Str.mk t.toArray:Str)=Str.mk (s++t).toArray:=by apply Str.ext';rw[Str.cps_append];simp
theorem CVs.length{as:AH}:∀{vs:List Value},CVs h as xs vs->vs.length=xs.length:=by
 induction xs with
 |nil=>exactλe=>congrArg _ e
 |cons x xs ih=>exactλe=>cQ.rec (λv t e _ r=>(congrArg _ e).trans (congrArg (· +1) (ih r))) e
theorem CVs.append{as:AH}{ys:List AV}{us:List Value}(e':CVs h as ys us):∀{vs:List Value},CVs h as xs vs->CVs h as (xs++ys) (vs++us):=by
 induction xs with
 |nil=>exactλe=>e▸e'
 |cons x xs ih=>exactλe=>cQ.rec (λv t e p r=>⟨v,t++us,congrArg (· ++us) e,p,ih r⟩) e
inductive Ia(h:Heap)(as:AH)(xs:List AV)(v:Value):Prop
 |mk (l:Nat) (vs:List Value) (e:v= .ref l) (li:LI h l vs) (cv:CVs h as xs vs):Ia h as xs v
theorem pU(hs:St AA c e as s.heap){a:AV}(ha:CV s.heap as a v)(h:BN c.st a=some xs):Ia s.heap as xs v:=by
 rcases BM h with⟨ys,h1,e⟩|⟨_,h⟩
 .exact Wh.rec (λl vs e1 _ h3 h4=>⟨l,vs,e1,h3,sj e▸h4⟩) ((HO h1▸ha:CV _ _ (.flist ys) v))
 .obtain⟨l,h1,h⟩:=AD h;obtain⟨o,h2,h⟩:=AD h;obtain⟨b,e1,e2⟩:=((CT h1▸ha:CV _ _ (.loc l) v));exact vR.rec (λvs h4 h5=>⟨b,vs,e2,h4,h5⟩) (hs.at e1 (h2.trans (congrArg some (MG h))))
inductive Ib(h:Heap)(as:AH)(xs:List AV)(v:Value):Prop
 |mk (l:Nat) (vs:List Value) (e:v= .ref l) (li:h.IsList l vs.toArray) (cv:CVs h as xs vs):Ib h as xs v
theorem ET(hs:St AA c e as s.heap){a:AV}(ha:CV s.heap as a v)(h:BN c.st a=some xs):Ib s.heap as xs v:=
 by obtain⟨l,vs,h1,h2,h3⟩:=pU hs ha h;exact⟨l,vs,h1,h2.isList,h3⟩
inductive Qq(AA:AP)(h:Heap)(as:AH)(es:List (AV×AV))(v:Value):Prop
 |mk (l a:Nat) (g:Obj) (e:v= .ref a) (hl:as.pl[l]? =some a) (co:CO AA.w h as (.dict es g) a):Qq AA h as es v
theorem mF(hs:St AA c e as s.heap){a:AV}(ha:CV s.heap as a v)(h:NE c.st a=some es):Qq AA s.heap as es v:=by obtain⟨l,h1,h⟩:=AD h;obtain⟨o,h2,h⟩:=AD h;obtain⟨b,e1,e2⟩:=((CT h1▸ha:CV _ _ (.loc l) v));obtain⟨g,h⟩:=MK h;exact⟨l,b,g,e2,e1,hs.at e1 (h2.trans (congrArg some h))⟩
theorem CVs.flat{as:AH}(x:CVs h as xs vs)(k:Nat):CVs h as (List.replicate k xs).flatten (List.replicate k vs).flatten:=by
 induction k with
 |zero=>rfl
 |succ k ih=>exact CVs.append ih x
theorem vX(l:List (Array Value)):∀a:Array Value,(l.foldl (λx1 x2=>x1++x2) a).toList=a.toList++(l.map Array.toList).flatten:=by
 induction l with
 |nil=>intro a;simp
 |cons x r ih=>intro a;simp only[List.foldl_cons,ih];simp
theorem Ko{s:Shared}{l:Addr}{x:Int}{u:Tok}{Q:Value->Shared->Prop}{w:World}{E:Value->Shared->Prop}(hl:s.heap.IsList l vs.toArray)(hlo:0<=x)(hhi:x<=10)(hsz:vs.length<=10)
  (h:Q (.ref s.heap.objs.size) {s with heap:=s.heap.push {cls:= .type "list",data:= .seq (List.replicate x.toNat vs).flatten.toArray}}):wpAny (model pw w) A (binaryOp .Mult (.ref l) (.int x u)) Q E s:=by
 obtain⟨⟨cls,dd,data,sl⟩,ho,hc,k,hd⟩:=id hl;simp only at hc hd;subst hc hd;have hm:vs.toArray.size*x.toNat<=100:=by
  have:vs.toArray.size<=10:=by exact hsz
  calc vs.toArray.size*x.toNat<=10*10:=Nat.mul_le_mul this (by lia)
   _=100:=rfl
 have e:(List.foldl (λx1 x2=>x1++x2) #[] (List.replicate (if vs.toArray.isEmpty=true then 0 else x.toNat) vs.toArray))=(List.replicate x.toNat vs).flatten.toArray:=by
  apply Array.ext';rw[vX];cases vs with
  |nil=>simp
  |cons v r=>simp
 refine wpAny_binaryOp_repeat_ref (T:="list") (U:="int") (by decide) ⟨_,ho,rfl⟩ (λs'=>typeIs_int s' x u) noFill_list_mul F.fills_int_mul F.slot_int_rmul repeat_list F.slot_int_index.lookup
  (call_meets F.slot_int_rmul (typeIs_int s x u) F.entry_int_rmul (F.args_int_rmul_2 _ _) (lm_int_rmul_list_any x u l vs.toArray k dd sl)
   ⟨ho,rfl,⟨_,ho,rfl⟩,call_meets F.slot_list_mul ⟨_,ho,rfl⟩ F.entry_list_mul (F.args_list_mul_2 _ _)
    (lm_list_mul_any l vs.toArray k dd sl x u (by simp[Builtin.List.listFitsIndex];lia) (by lia) (by rw[Bool.not_eq_true];exact decide_eq_false (by rw[sizeLine_eq];lia)))
    ⟨ho,?_⟩⟩)
 rw[e];exact h
theorem Ct(hs:St AA c e as s.heap){a:AV}{j:Int}(ha:CV s.heap as a v)(hx:BN c.st a=some xs)(hc:xs.length<=10/\0<=j/\j<=10)(q:Q (.v (.flist (List.replicate j.toNat xs).flatten)) c):
  wpAny (model pw AA.w) A (binaryOp .Mult v (.int j t)) (AI AA e c as s Q) no s:=by
 obtain⟨l,vs,rfl,e1,e2⟩:=ET hs ha hx;refine Ko e1 hc.2.1 hc.2.2 (by rw[CVs.length e2];exact hc.1) ?_;have f:=hs.fresh (Nat.le_refl s.heap.objs.size);have g:=hs.push {cls:= .type "list",data:= .seq (List.replicate j.toNat vs).flatten.toArray} s.toks;refine⟨c,as,.flist _,g,⟨_,_,rfl,⟨f.1,λhm=>?_,f.2.1⟩,⟨0,Heap.get?_push_at rfl rfl⟩,CVs.flat (g.cvs hs e2) j.toNat⟩,q⟩;obtain⟨⟨o,ho⟩,_⟩:=hs.hid _ hm;exact absurd (Heap.lt_size ho) (Nat.lt_irrefl _)
theorem NP{α:Type}{p:Prop}[Decidable p]{x:Option α}{z:α}(h:(if p then none else x)=some z):¬p/\x=some z:=by
 by_cases q:p
 .exact nomatch (if_pos q).symm.trans h
 .exact⟨q,(if_neg q).symm.trans h⟩
theorem Cu(hs:St AA c e as s.heap){i j:Int}{t':Tok}(h:Px op i j=some z)(q:Q (.v z) c):wpAny (model pw AA.w) A (binaryOp op (.int i t) (.int j t')) (AI AA e c as s Q) no s:=by
 have fin:∀{k:Int} {t:Tok} {n:Nat},s.toks<=n-> .int k=z->AI AA e c as s Q (.int k t) {s with toks:=n}:=λhn e=>AI.here hs (a:= .int _) ⟨_,rfl⟩ (e.symm▸q) hn;cases op with
 |Add=>exact add_int (fin (Nat.le_succ _) (sj h))
 |Sub=>exact sub_int (fin (Nat.le_succ _) (sj h))
 |Mult=>exact mul_int (fin (Nat.le_succ _) (sj (AS h).2)) (IntMulOk.of_left (RN (AS h).1.1))
 |Mod=>exact mod_int (NP h).1 (fin (Nat.le_succ _) (sj (NP h).2))
 |FloorDiv=>exact floordiv_int (AS h).1.1 (fin (Nat.le_succ _) (sj (AS h).2)) (.inl (PyProof.noPylong_small (AS h).1.2))
 |Pow=>obtain⟨⟨rfl,rfl⟩,h⟩:=AS h;exact pow_int (by decide) (by decide+kernel) (fin (k:=1000000) (Nat.le_succ _) (sj h))
 |_=>exact BJ h
theorem Cv(hs:St AA c e as s.heap){a b:AV}(ha:CV s.heap as a v)(hb:CV s.heap as b u)(h:Py c.st a b=some z)(q:Q (.v z) c):wpAny (model pw AA.w) A (binaryOp .Add v u) (AI AA e c as s Q) no s:=by
 rcases BM h with⟨x,hx,h⟩|⟨_,h⟩
 .obtain⟨y,hy,h⟩:=AD h;obtain⟨t,rfl⟩:=((AU hx▸ha:CV _ _ (.str x) v));obtain⟨t',rfl⟩:=((AU hy▸hb:CV _ _ (.str y) u));obtain⟨hc,h⟩:=AS h;refine BI (add_str (λt' tk hk=>?_) (Nat.le_trans hc (by decide)));rw[vW];exact AI.here (a:= .str _) hs ⟨_,rfl⟩ ((sj h).symm▸q)
 .obtain⟨xs,h1,h⟩:=AD h;obtain⟨ys,h2,h⟩:=AD h;obtain⟨hc,h⟩:=AS h;obtain⟨la,va,rfl,e1,e2⟩:=ET hs ha h1;obtain⟨lb,vb,rfl,e3,e4⟩:=ET hs hb h2;obtain⟨m,lo⟩:=hs.locs;refine add_lists lo.fr (WP _ _) e1 e3 (λh' F N=>?_) (by rw[CVs.length e2,CVs.length e4];exact Nat.le_trans hc (by decide));obtain⟨g,h3,h4⟩:=hs.made lo F N (Nat.le_refl _) s.toks;exact⟨c,as,.flist _,g,⟨_,_,rfl,h4,⟨_,h3⟩,CVs.append (g.cvs hs e4) (g.cvs hs e2)⟩,(sj h).symm▸q⟩
theorem Kp(hs:St AA c e as s.heap){a b:AV}(ha:CV s.heap as a v)(hb:CV s.heap as b u)(h:TN c.st op a b=some z)(q:Q (.v z) c):
  wpAny (model pw AA.w) A (binaryOp op v u) (AI AA e c as s Q) no s:=by
 rcases BM h with⟨i,hx,h⟩|⟨_,h⟩
 .obtain⟨j,hy,h⟩:=AD h;obtain⟨t,rfl⟩:=((AM hx▸ha:CV _ _ (.int i) v));obtain⟨t',rfl⟩:=((AM hy▸hb:CV _ _ (.int j) u));exact Cu hs h q
 .cases op with
  |Add=>exact Cv hs ha hb h q
  |Mult=>obtain⟨j,hy,h⟩:=AD h;obtain⟨t',rfl⟩:=((AM hy▸hb:CV _ _ (.int j) u));obtain⟨xs,h1,h⟩:=AD h;obtain⟨hc,h⟩:=AS h;exact Ct hs ha h1 hc ((sj h).symm▸q)
  |_=>exact BJ h
theorem HA(hs:St AA c e as s.heap)(x:Str):e.kindOf x=c.fr.scope.names.lookup x:=by unfold Env.kindOf;rw[hs.scope]
theorem CC(hs:St AA c e as s.heap):e.scope.kind= .function:=by rw[hs.scope];exact hs.kind
noncomputable def TV:List (Nat×Bool×Nat):=TI++[(193,true,21),(212,true,24),(49,true,7),(239,true,29)]
noncomputable def cS(a:Nat):Option FD:=(TV.lookup a).map λp=>KF (if p.1 then DA p.2 else KY p.2)
theorem vY{α β:Type}[BEq α](l r:List (α×β))(a:α)(b:β):l.lookup a=some b->(l++r).lookup a=some b:=by
 induction l with
 |nil=>exactλh=>BJ h
 |cons p l ih=>
  show(match a==p.1 with|true=>some p.2|false=>l.lookup a)=some b->(match a==p.1 with|true=>some p.2|false=>(l++r).lookup a)=some b;cases a==p.1 with
  |true=>exact id
  |false=>exact ih
theorem ZG{a:Nat}{fd:FD}(h:DD a=some fd):cS a=some fd:=by obtain⟨p,h1,h2⟩:=AZ h;exact Option.map_eq_some_iff.mpr ⟨p,vY _ _ _ _ h1,h2⟩
structure C4(fd:FD)(f:FuncData):Prop where
 scope:f.scope=fd.scope
 body:f.body= .stmts fd.body
 params:f.params=fd.params
 glb:f.globals=mainGlobals
 blt:f.builtins=builtinsNs
 dfl:f.defaults= .none
inductive cT(h:Heap)(a:Nat)(fd:FD):Prop
 |mk (o:Obj) (f:FuncData) (cd:Nat) (oc:Obj) (fs:Array Value) (t:Tok) (h1:h.get? a=some o) (h2:o.cls= .type "function") (h3:o.data= .func f) (ff:C4 fd f) (clo:f.closure=[]) (code:f.code= .ref cd)
   (c1:h.get? cd=some oc) (c2:oc.data= .fields fs) (c3:fs[1]? =some (.str f.qualname t)):cT h a fd
structure BH(AA:AP):Prop where
 glob:∀x v,JA.lookup x=some v->∀(A:Around) (e:Env) (s:Shared) (Q:Value->Shared->Prop),e.globals=mainGlobals->e.builtins=builtinsNs->(∀b o,AA.get? b=some o->NT b->s.heap.get? b=some o)->
  (∀r,(∀h as,CV h as v r)->Q r s)->∀M E,wpAny M A (loadGlobal e x) Q E s
 mods:∃o,AA.get? sysModules=some o
 b1:∃n,AA.toHeap.SetOf (intKind pw AA.w) 99 (λk=>VW.contains k) n
 b3:∃kvs,AA.toHeap.DictOf (intKind pw AA.w) 110 kvs/\∀i,match Br.lookup i with
  |some x=>∃t,valueAt kvs i=some (.str x t)
  |none=>valueAt kvs i=none
 fns:∀a fd,cS a=some fd->cT AA.toHeap a fd
 lim:AA.toHeap.NoLimit
 ltab:AA.get? BO=none
 lex:∃o f cd mg,AA.get? 169=some o/\o.data= .func f/\f.code= .ref cd/\PySem.W.CodeHd AA.toHeap cd BO/\AA.toHeap.Ns mainGlobals mg/\AA.toHeap.BuiltinsAt mg BO
 cls:∃N mN,ClsAt AA.toHeap FZ N mN/\mN "__getattribute__"=none/\mN "__getattr__"=none/\mN "__setattr__"=none/\(∀x,GM x=true->mN x=none)/\(∀x f,FI.lookup x=some f->mN x=some (.ref f))/\mN "__init__"=some (.ref 63)
theorem St.old(T:BH AA)(hs:St AA c e as s.heap):∀b o,AA.get? b=some o->s.heap.get? b=some o:=
 λb o e1=>hs.keep b o e1 True.intro
theorem LH(hs:St AA c e as s.heap){x:Str}{v:AV}(h:tQ c x=some v):∃a r,e.cells.lookup x=some a/\s.heap.IsCell a (some r)/\CV s.heap as v r:=by obtain⟨l,hl,h⟩:=AD h;obtain⟨o,h1,h⟩:=AD h;obtain⟨b,h2,h1⟩:=AD h1;obtain⟨a,e1,e2⟩:=hs.cells x l hl;obtain⟨r,k1,k2⟩:=hs.at e1 (h2.trans (congrArg some ((MH h1).trans (congrArg AO.cell (h:o=some v)))));exact⟨a,r,e2,k1,k2⟩
theorem CL(T:BH AA)(hs:St AA c e as s.heap){x:Str}{v:AV}(hd:(x==("__debug__":Str))=false)(hd':(x==("__classdict__":Str))=false)(h:DB c x=some v)(q:Q (.v v) c):
  wpAny (model pw AA.w) A (eval (.Name x p) e) (AI AA e c as s Q) no s:=by
 obtain⟨k,hk,h⟩:=AD h;have hk:=(HA hs x).trans hk;cases k with
 |«local»=>obtain⟨m,lo⟩:=hs.locs;obtain⟨r,h1,h2⟩:=lo.val x v h;exact wpAny_Name (wpAny_loadName_local (CC hs) hk lo.ns h1 (AI.here0 hs h2 q)) hd
 |cell=>obtain⟨a,r,h2,h5,h6⟩:=LH hs h;exact wpAny_Name (wpAny_loadName_cell (CC hs) hk h2 h5 (AI.here0 hs h6 q)) hd
 |free=>obtain⟨a,r,h2,h5,h6⟩:=LH hs h;exact wpAny_Name (wpAny_loadName_free (CC hs) hk h2 h5 (AI.here0 hs h6 q) hd') hd
 |globalImplicit=>exact Name_function_global (CC hs) hk (T.glob x v h A e s _ hs.glb hs.blt hs.keep (λr hr=>AI.here0 hs (hr _ _) q) _ _) hd
 |globalExplicit=>exact BJ h
theorem EV{α β:Type}[BEq α][LawfulBEq α][DecidableEq α](z y:α)(u:β)(r:List (α×β)):((z,u)::r).lookup y=if y=z then some u else r.lookup y:=by
 by_cases h:y=z
 .exact(List.lookup_cons ..).trans (by rw[if_pos h,beq_iff_eq.mpr h])
 .exact(List.lookup_cons ..).trans (by rw[if_neg h,beq_eq_false_iff_ne.mpr h])
theorem CE(x y:Str)(v:AV)(l:List (Str×AV)):(HW x v l).lookup y=if y=x then some v else l.lookup y:=by
 induction l with
 |nil=>exact EV ..
 |cons p r ih=>
  show(if p.1==x then(p.1,v)::r else p::HW x v r).lookup y=_;by_cases h:p.1=x
  .rw[if_pos (beq_iff_eq.mpr h),EV,h,show p::r=(p.1,p.2)::r from rfl,EV,h];by_cases q:y=x
   .rw[if_pos q,if_pos q]
   .rw[if_neg q,if_neg q,if_neg q]
  .rw[if_neg (λq=>h (beq_iff_eq.mp q)),show(p::HW x v r).lookup y=_ from EV p.1 y p.2 _,show(p::r).lookup y=_ from EV p.1 y p.2 _,ih];by_cases q:y=x
   .rw[if_neg λz=>h (z.symm.trans q),if_pos q,if_pos q]
   .rw[if_neg q,if_neg q]
theorem St.turnedO(hs:St AA c e as s.heap){a:Nat}(hl:as.pl[l]? =some a)(hk:∀b ob,b≠a->s.heap.get? b=some ob->h'.get? b=some ob)(co:BR s.heap as h' as->CO AA.w h' as o a)
  (M:BR s.heap as h' as)(l':Nat)(o':AO)(e1:(c.setAt l o).st[l']? =some o'):LG AA.w h' as l' o':=by
 by_cases q:l=l'
 .have e2:=(List.getElem?_set_self (show l<c.st.length from hs.len▸EC hl)).symm.trans ((congrArg (_[·]?) q).trans e1);exact⟨a,q▸hl,sj e2▸co M⟩
 .obtain⟨b,h1,h2⟩:=hs.objs l' o' ((List.getElem?_set_ne q).symm.trans e1);exact⟨b,h1,CO.mono M (λo'' h3=>hk b o'' (λz=>q ((List.getElem_inj hs.nodup).mp ((List.getElem?_eq_some_iff.mp hl).2.trans (z.symm.trans (List.getElem?_eq_some_iff.mp h1).2.symm)))) h3) h2⟩
theorem St.turned(hs:St AA c e as s.heap){a:Nat}(hl:as.pl[l]? =some a)(sb:Heap.SameBut a s.heap h')(ha:∃o',h'.get? a=some o')
  (co:BR s.heap as h' as->CO AA.w h' as o a)(tb:GZ h')(t:Nat)(ht:s.toks<=t:=by first|assumption|exact Nat.le_refl _|exact Nat.le_succ _|omega):Go AA e as.pl.length c as s (c.setAt l o) as {s with heap:=h',toks:=t}:=by
 obtain⟨m,lo⟩:=hs.locs;have hm:a∈as.pl:=List.mem_of_getElem? hl;have hk:∀b ob,b≠a->s.heap.get? b=some ob->h'.get? b=some ob:=λb ob h1 h2=>(sb.2 b h1).trans h2;refine hs.step (c':=c.setAt l o) ⟨rfl,Nat.le_refl _,λb o e1 e0 _ _=>hk b o (λq=>e0 (q▸hm)) e1,λb o e1=>?_,λ_ h1 h2=>absurd h1 h2⟩ rfl rfl rfl List.length_set
  (hs.turnedO hl hk co) (λM=>⟨m,lo.ns.sameBut sb λq=>hs.loff (q▸hm),λy u e1=>(lo.val y u e1).mono M⟩) tb t
 by_cases q:b=a
 .exact q▸ha
 .exact⟨o,hk b o q e1⟩
theorem EK(hs:St AA c e as s.heap){x:Str}{a:AV}(cv:CV s.heap as a v)(hb:HS c x a=some c'){f:Unit->Shared->Prop}
  (k:∀s',Go AA e as.pl.length c as s c' as s'->f () s'):wpAny (model pw AA.w) A (storeName e x v) f no s:=by
 obtain⟨kd,hk,hb⟩:=AD hb;replace hk:=(HA hs x).trans hk;cases kd with
 |«local»=>
  obtain⟨m,lo⟩:=hs.locs;refine wpAny_storeName_local hk lo.ns (λh' hn hsb=>k _ (sj hb▸?_)) (by rw[CC hs];rfl);have hk':∀b o,s.heap.get? b=some o->b≠e.locals->h'.get? b=some o:=λb o e1 e2=>(hsb.2 b e2).trans e1;refine hs.step (c':=c.setL x a) ⟨rfl,Nat.le_refl _,λb o e1 _ e2 _=>hk' b o e1 e2,λb o e1=>?_,λ_ h1 h2=>absurd h1 h2⟩ rfl rfl rfl rfl (λM l o' e1=>?_) (λM=>⟨_,hn,λy u e1=>?_⟩) (hs.tabx.ofNs lo.ns hk') _
  .by_cases q:b=e.locals
   .exact q▸hn.elim λo' x=>x.elim λ_ x=>x.elim λ_ x=>⟨o',x.1⟩
   .exact⟨o,hk' b o e1 q⟩
  .obtain⟨b,h1,h2⟩:=hs.objs l o' e1;exact⟨b,h1,CO.mono M (λo'' h3=>hk' b o'' h3 λq=>hs.loff (q▸List.mem_of_getElem? h1)) h2⟩
  .have e2:=(CE x y a c.fr.locals).symm.trans e1;by_cases q:y=x
   .exact⟨v,if_pos q,sj ((if_pos q).symm.trans e2)▸CV.mono M _ _ cv⟩
   .obtain⟨r,h1,h2⟩:=lo.val y u ((if_neg q).symm.trans e2);exact⟨r,(if_neg q).trans h1,CV.mono M _ _ h2⟩
 |cell=>
  obtain⟨l,hl,hb⟩:=AD hb;obtain⟨u,h1,hb⟩:=AZ hb;obtain⟨o,h2,h1⟩:=AD h1;obtain⟨b,e1,e2⟩:=hs.cells x l hl;have h4:=hs.at e1 (h2.trans (congrArg some (MH h1)));have h5:∃Uz,s.heap.IsCell b Uz:=by
   cases u with
   |none=>exact h4
   |some y=>exact Exists.elim h4 λr h5=>⟨_,h5.1⟩
  obtain⟨Uz,h5⟩:=h5;refine wpAny_storeName_cell (CC hs) hk e2 h5 λh' h6 h7=>k _ (hb▸hs.turned (o:= .cell (some a)) e1 h7 (h6.imp λ_ x=>x.1) (λM=>⟨v,h6,CV.mono M _ _ cv⟩) ?_ s.toks);obtain⟨_,h8,h9⟩:=h5;exact hs.tabx.of h8 (.inr λ_ z=>nI PySem.Data.ctorIdx (h9.symm.trans z)) λb o e1 e2=>(h7.2 b e2).trans e1
 |_=>exact BJ hb
theorem Kq(hs:St AA c e as s.heap)(h:Q (.f .next) c):wpAny (model pw AA.w) A (execs [] e) (CP AA e c as s Q) no s:=
 wpAny_execs_nil ⟨c,as,.next,Go.refl hs hs.low,rfl,h⟩
theorem Kr(ih:Ok AA n)(hs:St AA c e as s.heap)(hr:AL A e (n+1))(ht:1<=s.toks){x:Stmt}{r:List Stmt}
  (h:AX n (.exec x) c (VY λf c1=>match f with| .next=>AX n (.execs r) c1 Q|f=>Q (.f f) c1)):wpAny (model pw AA.w) A (execs (x::r) e) (CP AA e c as s Q) no s:=by
 refine wpAny_execs_cons (wpAny_mono (ih.S _ _ _ h _ _ _ _ hs (hr.le (Nat.le_succ _)) (by trivial)) (λf s1 x=>CP.rec (λc1 as1 a g cf q=>?_) x) λ_ _ x=>x);cases a with
 |next=>obtain rfl:f= .next:=cf;exact wpAny_mono (ih.Ss _ _ _ q _ _ _ _ g.st (hr.le (Nat.le_succ _)) (by trivial)) (λf s2 x=>CP.rec (λc2 as2 b g2 cf2 q2=>⟨c2,as2,b,g.trans g2 (Nat.le_of_eq g.lo.symm),cf2,q2⟩) x) λ_ _ x=>x
 |brk=>obtain rfl:f= .brk:=cf;exact⟨c1,as1,.brk,g,rfl,q⟩
 |cont=>obtain rfl:f= .cont:=cf;exact⟨c1,as1,.cont,g,rfl,q⟩
 |ret z=>obtain⟨v,rfl,cv⟩:=cf;exact⟨c1,as1,.ret z,g,⟨v,rfl,cv⟩,q⟩
theorem Cw(ih:Ok AA n)(hs:St AA c e as s.heap)(hr:AL A e (n+1))(ht:1<=s.toks){x:Expr}(h:AX n (.eval x) c (FH λa c1=>Q (.f (.ret a)) c1)):
  wpAny (model pw AA.w) A (exec (.Return (some x) p) e) (CP AA e c as s Q) no s:=
 wpAny_Return_some (JI ih hr h hs ht λc1 as1 a s1 v g cv q=>⟨c1,as1,.ret a,g.le hs.low,⟨v,rfl,cv⟩,q⟩)
theorem E7(ih:Ok AA n)(hs:St AA c e as s.heap)(hr:AL A e (n+1))(ht:1<=s.toks){t:Expr}{b o:List Stmt}
  (h:vK (AX n) t b o c Q):wpAny (model pw AA.w) A (exec (.If t b o p) e) (CP AA e c as s Q) no s:=
 wpAny_If (Pc ih hr h hs ht λc1 as1 x s1 g q=>by
  cases x with
  |true=>exact Qp ih hr hs.low g q ht
  |false=>exact Qp ih hr hs.low g q ht)
theorem cU(ih:Ok AA n)(hs:St AA c e as s.heap)(hr:AL A e (n+1))(ht:1<=s.toks){x:Str}{q:Pos}{v:Expr}(hsw:swapsWith v (some (.Name x p)) q.line e=pure false)
  (h:AX n (.eval v) c (FH λa c1=>on (HS c1 x a) λc2=>Q (.f .next) c2)):wpAny (model pw AA.w) A (exec (.Assign [.Name x p] v q) e) (CP AA e c as s Q) no s:=by
 refine wpAny_Assign_Name (JI ih hr h hs ht λc1 as1 a s1 u g cv k=>?_) hsw;obtain⟨c2,hb,k⟩:=AG k;exact EK g.st cv hb λs' g2=>⟨c2,as1,.next,(g.trans g2 g.len).le hs.low,rfl,k⟩
theorem Qr(hs:St AA c e as s.heap)(h:Q (.f .cont) c):wpAny (model pw AA.w) A (exec (.Continue p) e) (CP AA e c as s Q) no s:=
 wpAny_Continue ⟨c,as,.cont,Go.refl hs hs.low,rfl,h⟩
theorem Ks(ih:Ok AA n)(hs:St AA c e as s.heap)(hr:AL A e (n+1))(ht:1<=s.toks){t b o:Expr}
  (h:uS (AX n) t b o c Q):wpAny (model pw AA.w) A (eval (.IfExp t b o p) e) (AI AA e c as s Q) no s:=
 wpAny_IfExp (Pc ih hr h hs ht λc1 as1 x s1 g q=>by
  cases x with
  |true=>exact B9 ih hr g q ht
  |false=>exact B9 ih hr g q ht)
end Mine.Internal
end
section
open PySem PySem.Calls PyProof.Rows PySem.W
set_option autoImplicit true
namespace Mine.Internal
open SeqAt
variable{AA:AP}{n:Nat}{A:Around}{e:Env}{as as1:AH}{s s1 s':Shared}{c c1:AC}{Q:AB}
variable{f:AV->AV->Option Bool}{h:Heap}{a b j k:AV}{vs us:List Value}{r z:Bool}{xs ys:List AV}{l:Nat}{t:Expr×Expr}{v u:Value}{p:Pos}{es:List (AV×AV)}{i:Str}{x:Expr}{d:Addr}{op o:CmpOp}{W:Sem Value}
inductive Qs(A:Around)(s:Shared)(vs us:List Value)(m k:Nat)(r:Bool):Prop
 |mk (hl:m=k) (bs:List Bool) (he:∀j (h1:j<vs.length) (h2:j<us.length),EqAt A s vs[j] us[j] (bs.getD j false)) (hb:bs.length=vs.length) (ha:bs.all id=r):Qs A s vs us m k r
theorem cV(hf:∀a b r v u,f a b=some r->CV s.heap as a v->CV s.heap as b u->EqAt A s v u r)(xs:List AV):
  ∀(ys:List AV) (vs us:List Value) (r:Bool),JC f xs ys=some r->CVs s.heap as xs vs->CVs s.heap as ys us->Qs A s vs us xs.length ys.length r:=by
 induction xs with
 |nil=>
  intro ys vs us r h h1 h2;cases ys with
  |nil=>obtain rfl:=h1;obtain rfl:=h2;exact⟨rfl,[],λj h=>absurd h (Nat.not_lt_zero _),rfl,sj h⟩
  |cons=>exact BJ h
 |cons x xs ih=>
  intro ys vs us r h h1 h2;obtain⟨p,e,h⟩:=AD h;obtain rfl:=GG e;obtain⟨a,h3,h⟩:=AD h;obtain⟨b,h4,rfl⟩:=AZ h;obtain⟨v,vs,rfl,a1,a2⟩:=h1;obtain⟨u,us,rfl,b1,b2⟩:=h2;obtain⟨hl,bs,k1,k2,k3⟩:=ih _ _ _ _ h4 a2 b2;refine⟨congrArg (· +1) hl,a::bs,λj h1 h2=>?_,congrArg (· +1) k2,congrArg _ k3⟩;cases j with
  |zero=>exact hf _ _ _ _ _ h3 a1 b1
  |succ j=>exact k1 j (Nat.lt_of_succ_lt_succ h1) (Nat.lt_of_succ_lt_succ h2)
theorem WQ(bs:List Bool):(List.range bs.length).all (λj=>bs.getD j false)=bs.all id:=by
 rw[Bool.eq_iff_iff];simp only[List.all_eq_true,List.mem_range,id];constructor
 .intro h x hx;obtain⟨j,hj,rfl⟩:=List.getElem_of_mem hx;have:=h j hj;rwa[List.getD_eq_getElem?_getD,List.getElem?_eq_getElem hj]at this
 .intro h j hj;rw[List.getD_eq_getElem?_getD,List.getElem?_eq_getElem hj];exact h _ (List.getElem_mem hj)
theorem TW(hf:∀a b r v,f a b=some r->CV h as a v->CV h as b v->r=true)(xs:List AV):
  ∀(ys:List AV) (vs:List Value) (r:Bool),JC f xs ys=some r->CVs h as xs vs->CVs h as ys vs->r=true:=by
 induction xs with
 |nil=>
  intro ys vs r h h1 h2;cases ys with
  |nil=>exact(sj h).symm
  |cons=>exact BJ h
 |cons x xs ih=>intro ys vs r h h1 h2;obtain⟨p,e,h⟩:=AD h;obtain rfl:=GG e;obtain⟨a,h3,h⟩:=AD h;obtain⟨b,h4,h⟩:=AZ h;obtain⟨v,vs,rfl,a1,a2⟩:=h1;obtain⟨u,us,e,b1,b2⟩:=h2;have e:=List.cons.inj e;exact h.symm.trans (by rw[hf _ _ _ _ h3 a1 (e.1▸b1),ih _ _ _ h4 a2 (e.2▸b2)];rfl)
theorem cW{a:Nat}{P P':Obj->Prop}(x:∃o,h.get? a=some o/\P o/\∃n,o.data= .seq vs.toArray n)(y:∃o,h.get? a=some o/\P' o/\∃n,o.data= .seq us.toArray n):vs=us:=by obtain⟨o,h1,_,n,h2⟩:=x;obtain⟨o',h3,_,n',h4⟩:=y;exact congrArg (λd=>match d with|Data.seq x _=>x.toList|_=>[]) (h2.symm.trans ((congrArg Obj.data (sj (h1.symm.trans h3))).trans h4))
theorem cX{a:Nat}(x:h.IsList a vs.toArray)(y:h.IsList a us.toArray):vs=us:=cW x y
theorem gS{a:Nat}(x:IsTup h a vs.toArray)(y:IsTup h a us.toArray):vs=us:=cW x y
theorem Cx{a:Nat}{vs us:Array Value}(x:h.IsList a vs)(y:IsTup h a us):False:=by obtain⟨o,h1,c1,_⟩:=x;obtain⟨o',h3,c2,_⟩:=y;exact absurd (c1.symm.trans ((congrArg Obj.cls (sj (h1.symm.trans h3))).trans c2)) (by decide)
inductive Pe(f:AV->AV->Option Bool)(a b:AV)(r:Bool):Prop
 |int (i j:Int) (ea:a= .int i) (eb:b= .int j) (e:decide (i=j)=r):Pe f a b r
 |bool (i:Bool) (j:Int) (ea:a= .bool i) (eb:b= .int j) (e:decide (JB i=j)=r):Pe f a b r
 |str (i j:List Nat) (ea:a= .str i) (eb:b= .str j) (e:decide (i=j)=r):Pe f a b r
 |fl (xs ys:List AV) (ea:a= .flist xs) (eb:b= .flist ys) (e:(bif Nat.beq xs.length ys.length then JC f xs ys else some false)=some r):Pe f a b r
 |tup (xs ys:List AV) (ea:a= .ftup xs) (eb:b= .ftup ys) (e:JC f xs ys=some r):Pe f a b r
theorem QN(h:gF f a b=some r):Pe f a b r:=by
 rcases BM h with⟨i,h1,h⟩|⟨_,h⟩
 .obtain⟨j,h2,h⟩:=AZ h;exact .int i j (AM h1) (AM h2) h
 rcases BM h with⟨i,h1,h⟩|⟨_,h⟩
 .obtain⟨j,h2,h⟩:=AZ h;exact .bool i j (QD h1) (AM h2) h
 rcases BM h with⟨i,h1,h⟩|⟨_,h⟩
 .obtain⟨j,h2,h⟩:=AZ h;exact .str i j (AU h1) (AU h2) h
 rcases BM h with⟨i,h1,h⟩|⟨_,h⟩
 .obtain⟨j,h2,h⟩:=AD h;exact .fl i j (HO h1) (HO h2) h
 .obtain⟨i,h1,h⟩:=AD h;obtain⟨j,h2,h⟩:=AD h;exact .tup i j (JQ h1) (JQ h2) h
theorem WR(k:Nat):∀(a b:AV) (r:Bool) (v:Value),KZ k a b=some r->CV h as a v->CV h as b v->r=true:=by
 induction k with
 |zero=>exactλ_ _ _ _ h=>BJ h
 |succ k ih=>
  intro a b r v h h1 h2;rcases QN h with⟨i,j,rfl,rfl,e⟩|⟨i,j,rfl,rfl,e⟩|⟨i,j,rfl,rfl,e⟩|⟨i,j,rfl,rfl,e⟩|⟨i,j,rfl,rfl,e⟩
  .obtain⟨t,rfl⟩:=h1;obtain⟨u,q⟩:=h2;exact e.symm.trans (decide_eq_true (Value.int.inj q).1)
  .exact h2.elim λu q=>nI Value.ctorIdx ((h1:v= .bool i).symm.trans q)
  .obtain⟨t,rfl⟩:=h1;obtain⟨u,q⟩:=h2;exact e.symm.trans (decide_eq_true (congrArg (λv=>match v with|Value.str x _=>x.cps.toList|_=>[]) q))
  .obtain⟨a,vs,rfl,_,e1,e2⟩:=h1;obtain⟨b,us,q,_,e3,e4⟩:=h2;have e4:=cX (Value.ref.inj q▸e3.isList) e1.isList▸e4;rcases lB e with⟨_,e⟩|⟨q,_⟩
   .exact TW ih _ _ _ _ e e2 e4
   .exact absurd ((CVs.length e2).symm.trans (CVs.length e4)) (Nat.ne_of_beq_eq_false q)
  .obtain⟨a,vs,rfl,_,e1,e2⟩:=h1;obtain⟨b,us,q,_,e3,e4⟩:=h2;exact TW ih _ _ _ _ e e2 (gS (Value.ref.inj q▸e3) e1▸e4)
theorem cY(hu:A.units<cLine)(hf:∀a b r v u,f a b=some r->CV s.heap as a v->CV s.heap as b u->EqAt A.in1 s v u r)
  {b:Nat}(h:(bif Nat.beq xs.length ys.length then JC f xs ys else some false)=some r)(h1:s.heap.IsList l vs.toArray)(h2:s.heap.IsList b us.toArray)(h3:CVs s.heap as xs vs)(h4:CVs s.heap as ys us):
  RcAt A s (.ref l) (.ref b) r/\RcNeAt A s (.ref l) (.ref b) (!r):=by
 rcases lB h with⟨_,h⟩|⟨q,h⟩
 .obtain⟨hl,bs,k1,k2,rfl⟩:=cV hf _ _ _ _ _ h h3 h4;have hsz:vs.toArray.size=us.toArray.size:=by simp[CVs.length h3,CVs.length h4,hl]
  have he:∀j (h1:j<vs.toArray.size) (h2:j<us.toArray.size),EqAt A.in1 s vs.toArray[j] us.toArray[j] (bs.getD j false):=λj j1 j2=>by simpa using k1 j (by exact j1) (by exact j2)
  have ha:(List.range vs.toArray.size).all (λj=>bs.getD j false)=bs.all id:=by rw[<-WQ,k2];rfl
  refine ha▸?_;exact⟨RcAt.lists h1 h2 hsz hu he,RcNeAt.lists h1 h2 hsz hu he⟩
 ·(obtain rfl:=sj h;clear h);have hsz:(vs.toArray.size !=us.toArray.size)=true:=by have:=Nat.ne_of_beq_eq_false q;simpa[CVs.length h3,CVs.length h4]using this
  exact⟨RcAt.lists_lengths h1 h2 hsz hu,RcNeAt.lists_lengths h1 h2 hsz hu⟩
theorem pV(hu:A.units<cLine)(hf:∀a b r v u,f a b=some r->CV s.heap as a v->CV s.heap as b u->EqAt A.in1 s v u r)
  {b:Nat}(h:JC f xs ys=some r)(h1:IsTup s.heap l vs.toArray)(h2:IsTup s.heap b us.toArray)(h3:CVs s.heap as xs vs)(h4:CVs s.heap as ys us):
  RcAt A s (.ref l) (.ref b) r/\RcNeAt A s (.ref l) (.ref b) (!r):=by
 obtain⟨hl,bs,k1,k2,rfl⟩:=cV hf _ _ _ _ _ h h3 h4;have hsz:vs.toArray.size=us.toArray.size:=by simp[CVs.length h3,CVs.length h4,hl]
 have he:∀j (h1:j<vs.toArray.size) (h2:j<us.toArray.size),EqAt A.in1 s vs.toArray[j] us.toArray[j] (bs.getD j false):=λj j1 j2=>by simpa using k1 j (by exact j1) (by exact j2)
 have ha:((List.range (min vs.toArray.size us.toArray.size)).all (λj=>bs.getD j false)&&vs.toArray.size==us.toArray.size)=bs.all id:=by rw[<-WQ,k2,<-hsz];simp
 refine ha▸?_;exact⟨RcAt.tuples h1 h2 hu he,RcNeAt.tuples h1 h2 hu he⟩
theorem Cy{s t:List Nat}:((Str.mk s.toArray==Str.mk t.toArray):Bool)=decide (s=t):=by
 by_cases h:s=t
 .subst h;simp
 .rw[decide_eq_false h];refine beq_eq_false_iff_ne.mpr λq=>h ?_;have:=congrArg (λx:Str=>x.cps.toList) q;exact this
theorem mG(i j:Int):(i==j)=decide (i=j):=by by_cases h:i=j<;>rfl
theorem cZ{a:Bool}{j:Int}:(((if a then 1 else 0:Int)==j):Bool)=decide (JB a=j):=by rw[mG];cases a<;>rfl
theorem mH{b:Nat}(x:RcAt A s (.ref l) (.ref b) r/\RcNeAt A s (.ref l) (.ref b) (!r))(k:l=b->r=true):EqAt A s (.ref l) (.ref b) r/\RcAt A s (.ref l) (.ref b) r/\RcNeAt A s (.ref l) (.ref b) (!r):=by
 refine⟨?_,x⟩;by_cases q:l=b
 .exact k q▸q▸EqAt.same _
 .exact EqAt.of_refs q x.1
theorem ZH(k:Nat):∀{A:Around} (_:A.units+k<cLine) (a b:AV) (r:Bool) (v u:Value),KZ k a b=some r->CV s.heap as a v->CV s.heap as b u->EqAt A s v u r/\RcAt A s v u r/\RcNeAt A s v u (!r):=by
 induction k with
 |zero=>exactλ_ _ _ _ _ _ h=>BJ h
 |succ k ih=>
  intro A hu a b r v u h h1 h2;have c1:=h1;have c2:=h2;have ih:∀a b r v u,KZ k a b=some r->CV s.heap as a v->CV s.heap as b u->EqAt A.in1 s v u r:=λa b r v u h h1 h2=>(ih (A:=A.in1) (by show A.units+1+k<cLine;exact oD hu) a b r v u h h1 h2).1;rcases QN h with⟨i,j,rfl,rfl,e⟩|⟨i,j,rfl,rfl,e⟩|⟨i,j,rfl,rfl,e⟩|⟨i,j,rfl,rfl,e⟩|⟨i,j,rfl,rfl,e⟩
  .obtain⟨t,rfl⟩:=h1;obtain⟨u,rfl⟩:=h2;exact e▸mG i j▸⟨EqAt.int_int _ _ _ _,RcAt.int_int _ _ _ _,RcNeAt.int_int _ _ _ _⟩
  .obtain rfl:=h1;obtain⟨u,rfl⟩:=h2;exact e▸cZ▸⟨EqAt.bool_int _ _ _,RcAt.bool_int _ _ _,RcNeAt.bool_int _ _ _⟩
  .obtain⟨t,rfl⟩:=h1;obtain⟨u,rfl⟩:=h2;exact e▸Cy▸⟨EqAt.str_str _ _ _ _,RcAt.str_str _ _ _ _,RcNeAt.str_str _ _ _ _⟩
  .obtain⟨l,vs,rfl,_,e1,e2⟩:=h1;obtain⟨b,us,rfl,_,e3,e4⟩:=h2;exact mH (cY (A:=A) (by exact oD hu) ih e e1.isList e3.isList e2 e4) λq=>WR (k+1) _ _ _ _ h c1 (q▸c2)
  .obtain⟨l,vs,rfl,_,e1,e2⟩:=h1;obtain⟨b,us,rfl,_,e3,e4⟩:=h2;exact mH (pV (A:=A) (by exact oD hu) ih e e1 e3 e2 e4) λq=>WR (k+1) _ _ _ _ h c1 (q▸c2)
theorem Qt(h:gF f a b=some r):cM a=cM b:=by rcases QN h with⟨_,_,rfl,rfl,_⟩|⟨_,_,rfl,rfl,_⟩|⟨_,_,rfl,rfl,_⟩|⟨_,_,rfl,rfl,_⟩|⟨_,_,rfl,rfl,_⟩<;>rfl
inductive Kt(s:Shared)(as:AH)(st:List AO)(a:AV)(v:Value):Prop
 |l (xs:List AV) (l:Nat) (vs:List Value) (e:KQ st a= .flist xs) (ev:v= .ref l) (li:s.heap.IsList l vs.toArray) (cv:CVs s.heap as xs vs):Kt s as st a v
 |r (e:KQ st a=a) (n:cM a=false):Kt s as st a v
theorem gT(hs:St AA c e as s.heap)(ha:CV s.heap as a v):Kt s as c.st a v:=by
 cases q:BN c.st a with
 |some xs=>obtain⟨l,vs,h1,h2,h3⟩:=ET hs ha q;exact .l xs l vs (by unfold KQ;rw[q];rfl) h1 h2 h3
 |none=>
  refine .r (by unfold KQ;rw[q];rfl) ?_;cases q2:MZ a with
  |none=>exact congrArg Option.isSome q2
  |some xs=>unfold BN at q;rw[q2]at q;exact tE q
theorem Ic(hs:St AA c e as s.heap)(hu:A.units+4<cLine)(ha:CV s.heap as a v)(hb:CV s.heap as b u)(h:VX (KQ c.st a) (KQ c.st b)=some r):RcAt A s v u r/\RcNeAt A s v u (!r):=by
 have q:=Qt h;rcases gT hs ha with⟨xs,l,vs,h1,rfl,h2,h3⟩|⟨h1,hn⟩
 .rcases gT hs hb with⟨ys,m,us,k1,rfl,k2,k3⟩|⟨k1,kn⟩
  .rw[h1,k1]at h;exact cY (A:=A) (f:=KZ 3) (by exact oD hu) (λa b r v u h h1 h2=>(ZH 3 (A:=A.in1) (by show A.units+1+3<cLine;exact hu) a b r v u h h1 h2).1) h h2 k2 h3 k3
  .exact tJ ((congrArg cM h1).symm.trans (q.trans ((congrArg cM k1).trans kn)))
 .rcases gT hs hb with⟨ys,m,us,k1,rfl,k2,k3⟩|⟨k1,kn⟩
  .exact ME (((congrArg cM h1).trans hn).symm.trans (q.trans (congrArg cM k1)))
  .exact(ZH 4 hu _ _ _ _ _ (k1▸h1▸h) ha hb).2
inductive Qu(A:Around)(s:Shared)(u:Value)(vs:List Value)(r:Bool):Prop
 |mk (h1:∀y∈vs,EqAt A s y u true\/EqAt A s y u false) (h2:r=true->∃y∈vs,EqAt A s y u true) (h3:r=false->∀y∈vs,EqAt A s y u false):Qu A s u vs r
theorem Cz(hu:A.units+8<cLine)(hb:CV s.heap as a u)(xs:List AV):∀(vs:List Value) (r:Bool),WK a xs=some r->CVs s.heap as xs vs->Qu A.in1 s u vs r:=by
 induction xs with
 |nil=>intro vs r h hv;obtain rfl:=hv;exact⟨λy hy=>(nomatch hy),λq=>ME ((sj h).trans q),λ_ y hy=>(nomatch hy)⟩
 |cons x xs ih=>
  intro vs r h hv;obtain⟨p,h3,h⟩:=AD h;obtain⟨q,h4,h⟩:=AZ h;obtain⟨v,vs,rfl,h1,h2⟩:=hv;obtain⟨k1,k2,k3⟩:=ih vs q h4 h2;have k0:EqAt A.in1 s v u p:=(ZH 4 (A:=A.in1) (by show A.units+1+4<cLine;exact oD hu) x a p v u h3 h1 hb).1;refine⟨λy hy=>?_,λhr=>?_,λhr y hy=>?_⟩
  .rcases AN hy with rfl|hy
   .cases p
    .exact .inr k0
    .exact .inl k0
   .exact k1 y hy
  .cases p with
   |true=>exact⟨v,List.mem_cons_self ..,k0⟩
   |false=>exact(k2 (h.trans hr)).imp λy hy=>hy.imp_left (List.mem_cons_of_mem _)
  .obtain⟨e1,e2⟩:=A6 (h.trans hr);rcases AN hy with rfl|hy
   .exact e1▸k0
   .exact k3 e2 y hy
theorem Ku(hu:A.units+8<cLine)(hb:CV s.heap as a u)(xs:List AV)(vs:List Value)(r:Bool)(h:WK a xs=some r)(hv:CVs s.heap as xs vs):
  ∃e:Value->Bool,(∀y∈vs,EqAt A.in1 s y u (e y))/\vs.any e=r:=by
 obtain⟨k1,k2,k3⟩:=Cz hu hb xs vs r h hv;cases r with
 |true=>
  classical
  refine⟨λy=>decide (EqAt A.in1 s y u true),λy hy=>?_,?_⟩
  .by_cases q:EqAt A.in1 s y u true
   .exact Eq.mpr (congrArg (EqAt A.in1 s y u) (decide_eq_true q)) q
   .exact Eq.mpr (congrArg (EqAt A.in1 s y u) (decide_eq_false q)) ((k1 y hy).resolve_left q)
  .exact List.any_eq_true.mpr ((k2 rfl).imp λy hy=>hy.imp_right decide_eq_true)
 |false=>exact⟨λ_=>false,k3 rfl,by simp⟩
noncomputable def Qv{K:Type}[DecidableEq K](h:Heap)(as:AH)(kvs:List (K×Value))(k:K):Option AV->Prop
 |some a=>IR h as (valueAt kvs) k a
 |none=>valueAt kvs k=none
noncomputable def WS{K:Type}[DecidableEq K](f:K->AV):Prop:=∀a b,LA (f a) (f b)=some (decide (a=b))
theorem vZ:WS AV.int:=λ_ _=>rfl
theorem Wk(a:Str):a=⟨a.cps.toList.toArray⟩:=Str.ext' (Array.ext' rfl)
theorem wA:WS RM:=λa b=>congrArg some (decide_eq_decide.mpr ⟨λq=>Str.ext' (Array.ext' q),λq=>congrArg (λs=>s.cps.toList) q⟩)
theorem OO{K:Type}[DecidableEq K]{j i:K}{kvs:List (K×Value)}:valueAt ((j,v)::kvs) i=if j=i then some v else valueAt kvs i:=by by_cases q:j=i<;>simp[valueAt,List.find?_cons,q]
inductive Id{K:Type}(f:K->AV)(h:Heap)(as:AH)(k:AV)(a:AV)(es:List (AV×AV))(kvs:List (K×Value)):Prop
 |mk (j:K) (v:Value) (t:List (K×Value)) (e:kvs=(j,v)::t) (ek:k=f j) (cv:CV h as a v) (e2:es.map (·.1)=t.map (λe=>f e.1)) (cvs:CVs h as (es.map (·.2)) (t.map (·.2))):Id f h as k a es kvs
theorem wB{K:Type}{f:K->AV}{p:AV×AV}{kvs:List (K×Value)}(h2:(p::es).map (·.1)=kvs.map (λe=>f e.1))(h3:CVs h as ((p::es).map (·.2)) (kvs.map (·.2))):Id f h as p.1 p.2 es kvs:=by
 cases kvs with
 |nil=>exact nI List.ctorIdx h2
 |cons q kvs=>have e:=List.cons.inj h2;obtain⟨v,t,e1,h4,h5⟩:=h3;have f1:q.2=v:=(List.cons.inj e1).1;have f2:kvs.map (·.2)=t:=(List.cons.inj e1).2;exact⟨q.1,q.2,kvs,rfl,e.1,f1.symm▸h4,e.2,f2.symm▸h5⟩
theorem Kv{K:Type}[DecidableEq K]{f:K->AV}(hf:WS f){i:K}(es:List (AV×AV)):∀(kvs:List (K×Value)) (r:Option AV),TM (f i) es=some r->es.map (·.1)=kvs.map (λe=>f e.1)->CVs h as (es.map (·.2)) (kvs.map (·.2))->Qv h as kvs i r:=by
 induction es with
 |nil=>
  intro kvs r h1 h2 h3;cases kvs with
  |nil=>exact sj h1▸rfl
  |cons=>exact nI List.ctorIdx h2
 |cons p es ih=>
  intro kvs r h1 h2 h3;obtain⟨j,v,t,rfl,ek,cv,e2,cvs⟩:=wB h2 h3;obtain⟨b,e3,h1⟩:=AD h1;have e3:=sj ((ek▸hf j i:LA p.1 (f i)=_).symm.trans e3);by_cases q:j=i
  .obtain rfl:b=true:=e3.symm.trans (decide_eq_true q);exact sj h1▸⟨v,OO.trans (if_pos q),cv⟩
  .obtain rfl:b=false:=e3.symm.trans (decide_eq_false q);have k:=ih t r h1 e2 cvs;have e:valueAt ((j,v)::t) i=valueAt t i:=OO.trans (if_neg q);cases r with
   |none=>exact e.trans k
   |some a=>exact IR.rec (λv e1 cv=>⟨v,e.trans e1,cv⟩) k
inductive WT{w:World}{K:Type}[DecidableEq K](knd:KeyKind pw w K)(f:K->AV)(h:Heap)(as:AH)(es:List (AV×AV))(a:Nat)(k:AV)(u:Value)(r:Option AV):Prop
 |mk (i:K) (kvs:List (K×Value)) (ek:k=f i) (is:knd.is i u=true) (d1:h.DictOf knd a kvs) (d2:es.map (·.1)=kvs.map (λe=>f e.1)) (d3:CVs h as (es.map (·.2)) (kvs.map (·.2))) (d4:Qv h as kvs i r):WT knd f h as es a k u r
theorem Ie{w:World}{K:Type}[DecidableEq K]{knd:KeyKind pw w K}{f:K->AV}(hf:WS f)(hk:∀{j k:AV} {b:Bool} {i:K} {h:Heap} {as:AH} {u:Value},LA j k=some b->j=f i->CV h as k u->∃i,k=f i/\knd.is i u=true){a:Nat}{r:Option AV}
  (d:DK knd f h as es a)(cv:CV h as k u)(hl:IN k es=some r):WT knd f h as es a k u r:=by
 obtain⟨kvs,d1,d2,d3⟩:=d;cases es with
 |nil=>exact BJ hl
 |cons p es=>obtain⟨b,h1,_⟩:=AD (show(LA p.1 k).bind _=some r from hl);obtain⟨j,v,t,rfl,ek,_,_,_⟩:=wB d2 d3;obtain⟨i,rfl,is⟩:=hk h1 ek cv;exact⟨i,_,rfl,is,d1,d2,d3,Kv hf (p::es) _ _ hl d2 d3⟩
theorem Wl{w:World}{b:Bool}{i:Int}(e:LA j k=some b)(ej:j= .int i)(cv:CV h as k u):∃i,k= .int i/\(intKind pw w).is i u=true:=by subst ej;obtain⟨x,hx,_⟩:=AZ e;obtain⟨t,rfl⟩:=(AM hx▸cv:CV h as (.int x) u);exact⟨x,AM hx,intKind_is _ _ _ _⟩
theorem Wm{w:World}{b:Bool}(e:LA j k=some b)(ej:j=RM i)(cv:CV h as k u):∃i,k=RM i/\(strKind pw w).is i u=true:=by subst ej;obtain⟨x,hx,_⟩:=AZ e;obtain⟨t,rfl⟩:=(AU hx▸cv:CV h as (.str x) u);exact⟨⟨x.toArray⟩,AU hx,strKind_is _ _ _ _⟩
theorem ZI{w:World}{a:Nat}{r:Option AV}{g:Obj}(d:CO w h as (.dict es g) a)(hk:CV h as k u)(hl:IN k es=some r):
  WT (intKind pw w) .int h as es a k u r\/WT (strKind pw w) RM h as es a k u r:=
 d.2.imp (λd=>Ie vZ Wl d hk hl) (λd=>Ie wA Wm d hk hl)
theorem TX(T:BH AA)(hs:St AA c e as s.heap){a:Nat}(h:as.pl[l]? =some a):(a==sysModules)=false:=by refine beq_eq_false_iff_ne.mpr λq=>?_;obtain⟨o,ho⟩:=T.mods;exact BJ ((hs.off a (List.mem_of_getElem? h)).symm.trans (q▸ho))
theorem pW(s:List Nat):∀t,(!decide (t<s))=cF s t:=by
 induction s with
 |nil=>exactλt=>congrArg (! ·) (decide_eq_false (List.not_lt_nil t))
 |cons a r ih=>
  intro t;cases t with
  |nil=>exact congrArg (! ·) (decide_eq_true (List.nil_lt_cons ..))
  |cons b t=>
   show _=if a=b then cF r t else decide (a<b);by_cases h:a=b
   .rw[if_pos h,<-ih t];exact congrArg (! ·) (decide_eq_decide.mpr (List.cons_lt_cons_iff.trans ⟨λx=>(x.resolve_left λq=>Nat.ne_of_gt q h).2,λx=> .inr ⟨h.symm,x⟩⟩))
   .rw[if_neg h,<-decide_not];exact decide_eq_decide.mpr ⟨λx=>(Nat.lt_or_gt_of_ne h).resolve_right λq=>x (List.cons_lt_cons_iff.mpr (.inl q)),λx q=>(List.cons_lt_cons_iff.mp q).elim (Nat.lt_asymm x) λq=>h q.1.symm⟩
noncomputable def Pf(neg:Bool):CmpOp:=bif neg then .NotIn else .In
noncomputable def Pg(neg b:Bool):Value:= .bool (bif neg then !b else b)
section
variable{w:World}{E:Value->Shared->Prop}{P:Value->Shared->Prop}
theorem Da{neg:Bool}{x y:Str}{t u:Tok}(h:P (Pg neg (!(PySem.Builtin.Str.occurrences x y 0 x.length 1).isEmpty)) s):wpAny (model pw w) A (compareOp (Pf neg) (.str y u) (.str x t)) P E s:=by cases neg;exact in_str h;exact notIn_str h
theorem wD{neg:Bool}{l:Addr}{items:Array Value}{x:Value}(e:Value->Bool)(hl:s.heap.IsList l items)(he:∀y,y∈items->EqAt A.in1 s y x (e y))(h:P (Pg neg (items.any e)) s):wpAny (model pw w) A (compareOp (Pf neg) x (.ref l)) P E s:=by cases neg;exact in_listAt e hl he h;exact notIn_listAt e hl he h
theorem wE{neg:Bool}{K:Type}[DecidableEq K]{knd:KeyKind pw w K}{k:K}{key:Value}{f:K->Option Value}(hkey:knd.is k key=true)(hd:(d==sysModules)=false)(hm:s.heap.MapOf knd d f)
  (h:P (Pg neg (f k).isSome) {s with toks:=s.toks+1}):wpAny (model pw w) A (compareOp (Pf neg) key (.ref d)) P E s:=by
 cases neg;exact wpAny_in_of hkey hd hm h;exact wpAny_notIn_of hkey hd hm h
theorem Db{neg:Bool}{K:Type}[DecidableEq K]{knd:KeyKind pw w K}{k:K}{key:Value}{S:K->Bool}(hkey:knd.is k key=true)(hsc:key.scannable=true)(hS:s.heap.SetOf knd d S n)
  (h:P (Pg neg (S k)) {s with toks:=s.toks+1}):wpAny (model pw w) A (compareOp (Pf neg) key (.ref d)) P E s:=by
 cases neg;exact wpAny_inSet_of hkey hsc hS h;exact wpAny_notInSet_of hkey hsc hS h
end
theorem Qv.some{K:Type}[DecidableEq K]{kvs:List (K×Value)}{k:K}{r:Option AV}(x:Qv h as kvs k r):(valueAt kvs k).isSome=r.isSome:=by
 cases r with
 |none=>exact congrArg _ (x:valueAt kvs k=none)
 |some a=>exact IR.rec (λv e _=>congrArg _ e) x
theorem E8{w:World}{K:Type}[DecidableEq K]{knd:KeyKind pw w K}{f:K->AV}{neg:Bool}{r:Option AV}(hd:(l==sysModules)=false)(d:WT knd f s.heap as es l a v r){P:Value->Shared->Prop}
  (q:∀t,P (Pg neg r.isSome) {s with toks:=t}):wpAny (model pw w) A (compareOp (Pf neg) v (.ref l)) P no s:=by
 obtain⟨i,kvs,ek,is,d1,d2,d3,d4⟩:=d;exact wE is hd d1.mapOf (d4.some▸q _)
theorem wF(T:BH AA)(hs:St AA c e as s.heap)(hu:A.units+8<cLine){neg:Bool}(ha:CV s.heap as a v)(hb:CV s.heap as b u)(h:pP c.st a b=some z){P:Value->Shared->Prop}
  (q:∀t,P (Pg neg z) {s with toks:=t}):wpAny (model pw AA.w) A (compareOp (Pf neg) v u) P no s:=by
 rcases BM h with⟨x,hx,h⟩|⟨_,h⟩
 .obtain⟨y,hy,h⟩:=AD h;obtain⟨k,hk,h5⟩:=AZ h;obtain⟨t,rfl⟩:=(AU hx▸hb:CV _ _ (.str x) u);obtain⟨t',rfl⟩:=(AU hy▸ha:CV _ _ (.str y) v);obtain rfl:=CX hk;refine Da ?_;rw[StrLaws.found_one,show decide (k∈x)=x.contains k from List.contains_eq_mem .. |>.symm,h5];exact q s.toks
 rcases BM h with⟨f,hf,h⟩|⟨_,h⟩
 .obtain⟨rfl,h⟩:=AS h;obtain⟨i,hi,rfl⟩:=AZ h;obtain rfl:u= .ref 99:=(OI hf▸hb:CV _ _ (.fn 99) u);obtain⟨t,rfl⟩:=(AM hi▸ha:CV _ _ (.int i) v);obtain⟨n,o,es,ep,t',h1,h2⟩:=T.b1;exact Db (intKind_is _ _ _ _) rfl ⟨o,es,ep,t',hs.keep _ _ h1 True.intro,h2⟩ (q _)
 rcases BM h with⟨xs,hx,h⟩|⟨_,h⟩
 .obtain⟨l,vs,rfl,h1,h2⟩:=ET hs hb hx;obtain⟨e,k1,k2⟩:=Ku hu ha xs vs z h h2;exact wD e h1 (λy hy=>k1 y hy.1) (by rw[List.any_toArray,k2];exact q s.toks)
 .obtain⟨es,hx,h⟩:=AD h;obtain⟨r,h4,rfl⟩:=AZ h;obtain⟨l,b,g,rfl,hl,co⟩:=mF hs hb hx;rcases ZI co ha h4 with d|d<;>exact E8 (TX T hs hl) d q
theorem dA(ha:CV h as a v)(e:uE a=some z):(v== .none)=z:=by
 rcases lB e with⟨q,e⟩|⟨_,e⟩
 .obtain rfl:v= .none:=(SN q▸ha:CV h as .none v);exact sj e
 .obtain⟨q,e⟩:=TA e;rcases Bool.or_eq_true_iff.mp q with q|q
  .obtain⟨i,q⟩:=Option.isSome_iff_exists.mp q;obtain⟨t,rfl⟩:=(AM q▸ha:CV h as (.int i) v);exact sj e
  .obtain⟨i,q⟩:=Option.isSome_iff_exists.mp q;obtain⟨t,rfl⟩:=(AU q▸ha:CV h as (.str i) v);exact sj e
theorem Dc(T:BH AA)(hs:St AA c e as s.heap)(hr:AL A e n)(ha:CV s.heap as a v)(hb:CV s.heap as b u)(h:GL c.st op a b=some z){P:Value->Shared->Prop}
  (q:∀t,P (.bool z) {s with toks:=t}):wpAny (model pw AA.w) A (compareOp op v u) P no s:=by
 have q0:P (.bool z) s:=q s.toks;have hu:A.units+8<cLine:=by have:=hr.units;show A.units+8<9900;exact oD this
 cases op with
 |Eq=>exact EqBoolInt.of_rc (Ic hs (by exact oD hu) ha hb h).1 q0
 |NotEq=>obtain⟨z',h2,rfl⟩:=AZ h;exact EqBoolInt.of_rcne (Ic hs (by exact oD hu) ha hb h2).2 q0
 |Lt=>obtain⟨i,hi,h⟩:=AD h;obtain⟨j,hj,h⟩:=AZ h;obtain⟨t,rfl⟩:=(AM hi▸ha:CV _ _ (.int i) v);obtain⟨t',rfl⟩:=(AM hj▸hb:CV _ _ (.int j) u);exact lt_int (h▸q0)
 |LtE=>
  rcases BM h with⟨i,hi,h⟩|⟨_,h⟩
  .obtain⟨j,hj,h⟩:=AZ h;obtain⟨t,rfl⟩:=(AM hi▸ha:CV _ _ (.int i) v);obtain⟨t',rfl⟩:=(AM hj▸hb:CV _ _ (.int j) u);exact le_int (h▸q0)
  .obtain⟨i,hi,h⟩:=AD h;obtain⟨j,hj,h⟩:=AZ h;obtain⟨t,rfl⟩:=(AU hi▸ha:CV _ _ (.str i) v);obtain⟨t',rfl⟩:=(AU hj▸hb:CV _ _ (.str j) u);exact PySem.P.le_str (((pW i j).trans h).symm▸q0)
 |Is=>obtain⟨k,h⟩:=AS h;obtain rfl:u= .none:=(SN k▸hb:CV _ _ .none u);exact is_none_gen (dA ha h▸q0)
 |IsNot=>obtain⟨k,h⟩:=AS h;obtain⟨y,h,e⟩:=AZ h;obtain rfl:u= .none:=(SN k▸hb:CV _ _ .none u);exact isnot_none_gen (dA ha h▸e▸q0)
 |In=>exact wF (neg:=false) T hs hu ha hb h q
 |NotIn=>obtain⟨z',h2,rfl⟩:=AZ h;exact wF (neg:=true) T hs hu ha hb h2 q
 |_=>exact BJ h
theorem QO(T:BH AA)(hs:St AA c e as s.heap)(hr:AL A e n)(ha:CV s.heap as a v)(hb:CV s.heap as b u)(h:GL c.st op a b=some z){P:Value->Shared->Prop}
  (q:∀t,s.toks<=t->P (.bool z) {s with toks:=t}):wpAny (model pw AA.w) A (compareOp op v u) P no s:=BI (Dc T hs hr ha hb h q)
theorem pX(hs:St AA c e as s.heap)(ha:CV s.heap as a v)(h:TO c.st a=some z){P:Bool->Shared->Prop}
  (q:∀t,P z {s with toks:=t}):wpAny (model pw AA.w) A (truthy v) P no s:=by
 rcases BM h with⟨i,hi,h⟩|⟨_,h⟩
 .obtain rfl:v= .bool i:=(QD hi▸ha:CV _ _ (.bool i) v);exact wpAny_truthy_bool (sj h▸q s.toks)
 rcases BM h with⟨i,hi,h⟩|⟨_,h⟩
 .obtain⟨t,rfl⟩:=(AM hi▸ha:CV _ _ (.int i) v);refine truthy_int ?_;rw[show(i !=0)=decide (i≠0)from by by_cases h:i=0<;>simp[h],sj h];exact q s.toks
 rcases BM h with⟨x,hi,h⟩|⟨_,h⟩
 .obtain⟨hl,h⟩:=AS h;obtain⟨t,rfl⟩:=(AU hi▸ha:CV _ _ (.str x) v);have e:((x.length:Int)!=0)=z:=by
   refine Eq.trans ?_ (sj h);cases x with
   |nil=>rfl
   |cons a r=>exact bne_iff_ne.mpr (tI (Nat.succ_ne_zero _))
  exact PySem.P.truthy_str (Int.not_le.mpr (Int.ofNat_lt.mpr (Nat.lt_of_le_of_lt hl (by decide+kernel)))) (e.symm▸q _)
 rcases lB h with⟨hi,h⟩|⟨_,h⟩
 .obtain rfl:v= .none:=(SN hi▸ha:CV _ _ .none v);exact truthy_none (sj h▸q s.toks)
 .obtain⟨xs,hx,h⟩:=AD h;obtain⟨hl,h⟩:=AS h;obtain⟨l,vs,rfl,h1,h2⟩:=ET hs ha hx;have hn:=CVs.length h2;refine wpAny_truthy_list h1 (Int.ofNat_lt.mpr (Nat.lt_of_le_of_lt (hn▸hl) (by decide+kernel))) ?_;have e:(!vs.toArray.isEmpty)=z:=by
   refine Eq.trans ?_ (sj h);cases xs with
   |nil=>obtain rfl:=(h2:vs=[]);rfl
   |cons x xs=>obtain⟨v,t,rfl,_⟩:=h2;rfl
  rw[e];exact q _
theorem wG(hs:St AA c e as s.heap)(ha:CV s.heap as a v)(h:TO c.st a=some z){P:Bool->Shared->Prop}
  (q:∀t,s.toks<=t->P z {s with toks:=t}):wpAny (model pw AA.w) A (truthy v) P no s:=BI (pX hs ha h q)
theorem wH(T:BH AA)(ih:Ok AA n)(hs:St AA c e as s.heap)(hr:AL A e (n+1))(ht:1<=s.toks){l r:Expr}(hm:behindInMarks op r=false)
  (h:AX n (.eval l) c (FH λa c1=>AX n (.eval r) c1 (FH λb c2=>on (GL c2.st op a b) λz=>Q (.v (.bool z)) c2))):wpAny (model pw AA.w) A (eval (.Compare l [op] [r] p) e) (AI AA e c as s Q) no s:=by
 refine wpAny_Compare1 (JI ih hr h hs ht λc1 as1 a s1 v g1 v1 h1=>JI ih hr h1 g1.st (g1.tk ht) λc2 as2 b s2 u g2 v2 h2=>?_) hm;obtain⟨z,hz2,q⟩:=AG h2;exact QO T g2.st hr (g2.cv g1.st v1) v2 hz2 λt hk=>AI.after g1 (AI.after g2 (AI.here (a:= .bool z) g2.st rfl q))
theorem EJ.here(hs:St AA c e as s.heap){t:Nat}{b:Bool}(q:Q (.t b) c)(ht:s.toks<=t:=by first|assumption|exact Nat.le_refl _|exact Nat.le_succ _|omega):EJ AA e c as s Q b {s with toks:=t}:=
 ⟨c,as,hs.toks t,q⟩
theorem Kw(T:BH AA)(hs:St AA c e as s.heap)(hr:AL A e n)(ha:CV s.heap as a v)(hb:CV s.heap as b u)(h:GL c.st op a b=some z){P:Bool->Shared->Prop}
  (q:∀t,s.toks<=t->P z {s with toks:=t}):wpAny (model pw AA.w) A (compareOp op v u) (λr s'=>wpAny (model pw AA.w) A (truthy r) P no s') no s:=
 QO T hs hr ha hb h λt hk=>wpAny_truthy_bool (q t hk)
theorem wI(T:BH AA)(ih:Ok AA n)(hs:St AA c e as s.heap)(hr:AL A e (n+1))(ht:1<=s.toks){l r:Expr}(hm:behindInMarks op r=false)
  (h:AX n (.eval l) c (FH λa c1=>AX n (.eval r) c1 (FH λb c2=>RL (GL c2.st op a b) c2 Q))):wpAny (model pw AA.w) A (isTrue (.Compare l [op] [r] p) e W) (EJ AA e c as s Q) no s:=by
 refine wpAny_isTrue_Compare1 (JI ih hr h hs ht λc1 as1 a s1 v g1 v1 h1=>JI ih hr h1 g1.st (g1.tk ht) λc2 as2 b s2 u g2 v2 h2=>?_) hm;obtain⟨z,hz,q⟩:=AG h2;exact Kw T g2.st hr (g2.cv g1.st v1) v2 hz λt hk=>EJ.after g1 (EJ.after g2 (EJ.here g2.st q))
theorem pY(T:BH AA)(ih:Ok AA n)(hs:St AA c e as s.heap)(hr:AL A e (n+1))(ht:1<=s.toks){l r r':Expr}{op':CmpOp}(hm:lastMarks [op,op'] [r,r']=false)
  (h:AX n (.eval l) c (FH λa c1=>AX n (.eval r) c1 (FH λb c2=>on (GL c2.st op a b) λx=>GA x (AX n (.eval r') c2 (FH λd c3=>RL (GL c3.st op' b d) c3 Q)) (Q (.t false) c2)))):
  wpAny (model pw AA.w) A (isTrue (.Compare l [op,op'] [r,r'] p) e W) (EJ AA e c as s Q) no s:=by
 refine isTrue_chain (rs:=[]) (ops:=[]) (JI ih hr h hs ht λc1 as1 a s1 v g1 v1 h1=>?_) hm;refine test_link (JI ih hr h1 g1.st (g1.tk ht) λc2 as2 b s2 u g2 v2 h2=>?_);obtain⟨z,hz,q⟩:=AG h2;refine Kw T g2.st hr (g2.cv g1.st v1) v2 hz λt hk=>?_;have g2':=g2.trans (g2.st.toks t) g2.len;cases z with
 |false=>exact EJ.after g1 (EJ.after g2 (EJ.here g2.st q))
 |true=>refine test_last (JI ih hr q g2'.st (g2'.tk (g1.tk ht)) λc3 as3 d s3 y g3 v3 h3=>?_);obtain⟨z,hz,q⟩:=AG h3;exact Kw T g3.st hr (g3.cv g2'.st (v2:CV {s2 with toks:=t}.heap as2 b u)) v3 hz λt hk=>EJ.after g1 (EJ.after g2' (EJ.after g3 (EJ.here g3.st q)))
theorem Wn(ih:Ok AA n)(hs:St AA c e as s.heap)(hr:AL A e (n+1))(ht:1<=s.toks){a b:Expr}
  (h:AX n (.test a) c (lJ λx c1=>GA x (AX n (.test b) c1 Q) (Q (.t false) c1))):wpAny (model pw AA.w) A (isTrue (.BoolOp .And [a,b] p) e W) (EJ AA e c as s Q) no s:=by
 refine isTrue_and (Pc ih hr h hs ht λc1 as1 x s1 g q=>?_);cases x with
 |false=>exact⟨c1,as1,g,q⟩
 |true=>
  refine isTrue_and (wpAny_mono (C2 ih hr g q ht) (λy s2 k=>?_) λ_ _ x=>x);cases y with
  |false=>exact k
  |true=>exact isTrue_and_nil k
theorem E9(ih:Ok AA n)(hs:St AA c e as s.heap)(hr:AL A e (n+1))(ht:1<=s.toks){a b:Expr}
  (h:AX n (.test a) c (lJ λx c1=>GA x (Q (.t true) c1) (AX n (.test b) c1 Q))):wpAny (model pw AA.w) A (isTrue (.BoolOp .Or [a,b] p) e W) (EJ AA e c as s Q) no s:=by
 refine isTrue_or (Pc ih hr h hs ht λc1 as1 x s1 g q=>?_);cases x with
 |true=>exact⟨c1,as1,g,q⟩
 |false=>
  refine isTrue_or (wpAny_mono (C2 ih hr g q ht) (λy s2 k=>?_) λ_ _ x=>x);cases y with
  |true=>exact k
  |false=>exact isTrue_or_nil k
theorem Wo(ih:Ok AA n)(hs:St AA c e as s.heap)(hr:AL A e (n+1))(ht:1<=s.toks){a:Expr}
  (h:AX n (.test a) c (lJ λb c1=>Q (.t (!b)) c1)):wpAny (model pw AA.w) A (isTrue (.UnaryOp .Not a p) e W) (EJ AA e c as s Q) no s:=
 isTrue_not (Pc ih hr h hs ht λc1 as1 x s1 g q=>⟨c1,as1,g,q⟩)
theorem Kx(ih:Ok AA n)(hs:St AA c e as s.heap)(hr:AL A e (n+1))(ht:1<=s.toks)(he:isTrue x e (eval x e)=(do let v<-eval x e;standAt x.pos;holding [v] (truthy v)))
  (h:AX n (.eval x) c (FH λa c1=>RL (TO c1.st a) c1 Q)):wpAny (model pw AA.w) A (isTrue x e (eval x e)) (EJ AA e c as s Q) no s:=by
 refine isTrue_plain (JI ih hr h hs ht λc1 as1 a s1 v g1 v1 h1=>?_) he;obtain⟨z,hz,q⟩:=AG h1;exact wG g1.st v1 hz λt hk=>EJ.after g1 (EJ.here g1.st q)
theorem Dd(h:Qe o=true):o= .Is:=by cases o<;>first|rfl|exact ME h
theorem Df(h:Qf o=true):o= .Eq:=by cases o<;>first|rfl|exact ME h
theorem OP(h:TR x=some t):∃i p q j p' q' r r' k,t=(.Name i p,.Name j q)/\x= .BoolOp .Or [.Compare (.Name i p) [.Is] [.Name j q] r,.Compare (.Name i p') [.Eq] [.Name j q'] r'] k:=by obtain⟨es,h1,h⟩:=AD h;obtain⟨y,h2,h⟩:=AD h;obtain⟨p,h3,h⟩:=AD h;obtain⟨q,h4,h⟩:=AD h;obtain⟨h5,h⟩:=AS h;obtain⟨h5,h6⟩:=BG h5;obtain⟨k,h7⟩:=Kc h1;obtain⟨o1,r,i1,e1⟩:=WM h3;obtain⟨o2,r',i2,e2⟩:=WM h4;exact⟨_,_,_,_,q.1.2,q.2.2,r,r',k,(sj h).symm,by rw[h7,NN h2,e1,e2,Dd i1,Df i2,<-eq_of_beq h5,<-eq_of_beq h6]⟩
inductive RO(c:AC)(x:Str)(v:AV):Prop
 |mk (h1:(x==("__debug__":Str))=false) (h2:(x==("__classdict__":Str))=false) (h3:DB c x=some v):RO c x v
theorem mI{m:Nat}{x:Str}(h:AX m (.eval (.Name x p)) c Q):∃v,RO c x v/\Q (.v v) c:=by
 cases m with
 |zero=>exact h.elim
 |succ m=>obtain⟨h1,h⟩:=IO h;obtain⟨h2,h⟩:=IO h;obtain⟨v,h3,h4⟩:=AG h;exact⟨v,⟨h1,h2,h3⟩,h4⟩
theorem Vg(T:BH AA)(hs:St AA c e as s.heap){j:Str}{va vb:AV}{q:Pos}(hi:RO c i va)(hj:RO c j vb){f:Value->Value->Shared->Prop}(k:∀as1 s1 w1 w2,Go AA e as.pl.length c as s c as1 s1->CV s1.heap as1 va w1->CV s1.heap as1 vb w2->f w1 w2 s1):
  wpAny (model pw AA.w) A (eval (.Name i p) e) (λw1 s1=>wpAny (model pw AA.w) A (eval (.Name j q) e) (λw2 s2=>f w1 w2 s2) no s1) no s:=by
 obtain⟨h1,h2,h3⟩:=hi;obtain⟨k1,k2,k3⟩:=hj;refine Cs (CL T hs h1 h2 h3 (Q:=FH λa c1=>a=va/\c1=c) ⟨rfl,rfl⟩) λc1 as1 a s1 w1 g1 v1 e1=>?_;obtain⟨rfl,rfl⟩:=e1;refine Cs (CL T g1.st k1 k2 k3 (Q:=FH λa c2=>a=vb/\c2=c1) ⟨rfl,rfl⟩) λc2 as2 b s2 w2 g2 v2 e2=>?_;obtain⟨rfl,rfl⟩:=e2;exact k as2 s2 w1 w2 (g1.trans g2 g1.len) (g2.cv g1.st v1) v2
theorem Qw(T:BH AA)(hs:St AA c e as s.heap)(hx:TR x=some t)(h:lX (AX n) t.1 t.2 c Q):wpAny (model pw AA.w) A (isTrue x e W) (EJ AA e c as s Q) no s:=by
 obtain⟨i,p,q,j,p',q',r,r',t,rfl,rfl⟩:=OP hx;obtain⟨v,ni,h⟩:=mI h;obtain⟨u,nj,h⟩:=mI h;obtain⟨z,k4,k5⟩:=AG h;obtain⟨va,ha,k6⟩:=AD k4;obtain⟨j,hj,k7⟩:=AZ k6;replace ni:=(QD ha▸ni:RO c i (.bool va));replace nj:=(AM hj▸nj:RO c _ (.int _));refine isTrue_or (wpAny_isTrue_Compare1 (Vg T hs ni nj λas1 s1 w1 w2 g1 v1 v2=>?_) rfl);obtain rfl:w1= .bool va:=v1;obtain⟨tk,rfl⟩:=v2;refine wpAny_is_plain rfl (wpAny_truthy_bool ?_);show if(Value.bool va==Value.int j tk)=true then _ else _;rw[show(Value.bool va==Value.int j tk)=false from by rfl];refine isTrue_or (wpAny_isTrue_Compare1 (Vg T g1.st ni nj λas2 s2 w1 w2 g2 v1 v2=>?_) rfl);obtain rfl:w1= .bool va:=v1;obtain⟨tk',rfl⟩:=v2;refine EqBoolInt.eq_bool_int (wpAny_truthy_bool ?_);rw[cZ,k7];have fin:EJ AA e c as s Q z s2:=EJ.after g1 ⟨_,as2,g2,k5⟩;cases z with
 |true=>exact fin
 |false=>exact isTrue_or_nil fin
theorem wJ(h:gN x=true):isTrue x e (eval x e)=(do let v<-eval x e;standAt x.pos;holding [v] (truthy v)):=by
 unfold gN at h;rcases Bool.or_eq_true_iff.mp h with h|h
 .exact Expr.Name.elim (motive_1:=λx=>isTrue x e (eval x e)=(do let v<-eval x e;standAt x.pos;holding [v] (truthy v))) x (Nat.eq_of_beq_eq_true h) λ_ _=>rfl
 rcases Bool.or_eq_true_iff.mp h with h|h
 .exact Expr.Call.elim (motive_1:=λx=>isTrue x e (eval x e)=(do let v<-eval x e;standAt x.pos;holding [v] (truthy v))) x (Nat.eq_of_beq_eq_true h) λ_ _ _ _=>rfl
 rcases Bool.or_eq_true_iff.mp h with h|h
 .exact Expr.Subscript.elim (motive_1:=λx=>isTrue x e (eval x e)=(do let v<-eval x e;standAt x.pos;holding [v] (truthy v))) x (Nat.eq_of_beq_eq_true h) λ_ _ _=>rfl
 rcases Bool.or_eq_true_iff.mp h with h|h
 .exact Expr.Attribute.elim (motive_1:=λx=>isTrue x e (eval x e)=(do let v<-eval x e;standAt x.pos;holding [v] (truthy v))) x (Nat.eq_of_beq_eq_true h) λ_ _ _=>rfl
 rcases Bool.or_eq_true_iff.mp h with h|h
 .exact Expr.BinOp.elim (motive_1:=λx=>isTrue x e (eval x e)=(do let v<-eval x e;standAt x.pos;holding [v] (truthy v))) x (Nat.eq_of_beq_eq_true h) λ_ _ _ _=>rfl
 .exact Expr.ListComp.elim (motive_1:=λx=>isTrue x e (eval x e)=(do let v<-eval x e;standAt x.pos;holding [v] (truthy v))) x (Nat.eq_of_beq_eq_true h) λ_ _ _ _=>rfl
theorem Dg{t}(h:Qk x=some t):x= .UnaryOp .Not t.1 t.2:=by
 obtain⟨u,h1,h⟩:=AD h;obtain⟨h2,h⟩:=AS h;have e:u.1= .Not:=by revert h2;cases u.1<;>intro h2<;>first|rfl|exact ME h2
 rw[tS h1,e,<-sj h]
theorem Ky(ih:Ok AA n)(hs:St AA c e as s.heap)(hr:AL A e (n+1))(ht:1<=s.toks){op:BoolOp}{es:List Expr}(h:cP (AX n) op es c Q):wpAny (model pw AA.w) A (isTrue (.BoolOp op es p) e W) (EJ AA e c as s Q) no s:=by
 obtain⟨x,h1,h⟩:=AG h;rw[NN h1];cases op with
 |And=>exact Wn ih hs hr ht h
 |Or=>exact E9 ih hs hr ht h
theorem Qx(T:BH AA)(ih:Ok AA n)(hs:St AA c e as s.heap)(hr:AL A e (n+1))(ht:1<=s.toks){l:Expr}{ops:List CmpOp}{rs:List Expr}(h:lW (AX n) l ops rs c Q):wpAny (model pw AA.w) A (isTrue (.Compare l ops rs p) e W) (EJ AA e c as s Q) no s:=by
 rcases DP h with⟨_,h⟩|⟨_,h⟩
 .obtain⟨op,h1,h⟩:=AG h;obtain⟨r,h2,h⟩:=AG h;rw[CX h1,CX h2];exact wI T ih hs hr ht (IO h).1 (IO h).2
 .obtain⟨op,h1,h⟩:=AG h;obtain⟨r,h2,h⟩:=AG h;rw[NN h1,NN h2];exact pY T ih hs hr ht (IO h).1 (IO h).2
theorem Qy(T:BH AA)(ih:Ok AA n):B6 AA (n+1):=by
 intro x c Q h A e as s hs hr ht;rcases DR (show lY (AX n) x c Q from h)with⟨t,h1,h⟩|⟨_,h⟩
 .exact Qw T hs h1 h
 rcases DR h with⟨t,h1,h⟩|⟨_,h⟩
 .exact(ZA h1).symm▸Qx T ih hs hr ht h
 rcases DR h with⟨t,h1,h⟩|⟨_,h⟩
 .exact(cC h1).symm▸Ky ih hs hr ht h
 rcases DR h with⟨t,h1,h⟩|⟨_,h⟩
 .exact(Dg h1).symm▸Wo ih hs hr ht h
 .obtain⟨hp,h⟩:=DT h;exact Kx ih hs hr ht (wJ hp) h
end Mine.Internal
end
section
open PySem PySem.Calls PyProof.Rows PySem.W
set_option autoImplicit true
namespace Mine.Internal
variable{AA:AP}{n:Nat}{A:Around}{e:Env}{as as1:AH}{s s1 s':Shared}{c c1:AC}{Q:AB}
variable{t o it:Expr}{f m y x:Str}{K:List AV->AC->Prop}{xs ys:List AV}{p p' r q:Pos}{h h':Heap}{i k b a d l sl D N lo0 I g dx j:Nat}{u v ov iv wv av:Value}{z:AV}{lo st:Option Int}{vs us:List Value}{es:List Expr}{ob o1:Obj}{P X:Value->Shared->Prop}{c2 c' c0 c4:AC}{as2 as0 as' as4:AH}{s2 s4 s0:Shared}{fs:List (Str×AV)}{ex:Bool}{M:Model}{T:String}{sc:Scope}{st0:List AO}{pl' fp pl H Hs:List Nat}{L:List Str}{R:Result->Shared->Prop}{wr:List Addr}{G:Array GenState->Array GenState->Prop}{cl:List (Str×Nat)}{op:Operator}{S St':Nat->Heap->Prop}{tk:Tok}{gs:List Comprehension}
theorem Qz{t:Sem (List Value)}{f:List Value->Shared->Prop}
  {m:Nat}(h:wpAny (model pw AA.w) A t (λv s'=>v.length=m/\TU AA e c as s (QI K) v s') no s)
  (k:∀c1 as1 a s1 v,v.length=m->Go AA e as.pl.length c as s c1 as1 s1->CVs s1.heap as1 a v->K a c1->f v s1):wpAny (model pw AA.w) A t f no s:=
 wpAny_mono h (λv s1 x=>TU.rec (λc1 as1 a g cv q=>k c1 as1 a s1 v x.1 g cv q) x.2) λ_ _ x=>x
theorem wK(ih:Ok AA n)(hr:AL A e (n+1)){xs:List Expr}(h:AX n (.evs xs) c (QI K))(pos:Pos)(hs:St AA c e as s.heap)(ht:1<=s.toks){f:List Value->Shared->Prop}
  (k:∀c1 as1 a s1 v,v.length=xs.length->Go AA e as.pl.length c as s c1 as1 s1->CVs s1.heap as1 a v->K a c1->f v s1):wpAny (model pw AA.w) A (spliced (backTo pos (starEach xs e))) f no s:=
 Qz (ih.Vs _ _ _ h _ _ _ _ pos hs (hr.le (Nat.le_succ _)) ht) k
theorem NF(x:Expr):(∃y p,x= .Starred y p)\/∀r e,starEach (x::r) e=(false,eval x e)::starEach r e:=by cases x<;>first|exact .inl ⟨_,_,rfl⟩|exact .inr λ_ _=>rfl
theorem mJ{m:Nat}{y:Expr}(h:AX m (.eval (.Starred y p)) c Q):False:=by cases m<;>exact h.elim
theorem F0(ih:Ok AA n):Qn AA (n+1):=by
 intro xs c Q h A e as s pos hs hr ht;cases xs with
 |nil=>exact spliced_nil ⟨rfl,c,as,[],Go.refl hs (Nat.le_refl _),by rfl,h⟩
 |cons x r=>
  rcases NF x with⟨y,p,rfl⟩|hx
  .exact(mJ h).elim
  .rw[hx];show wpAny _ _ (spliced ((false,eval x e)::backTo pos (starEach r e))) _ _ _;exact spliced_cons (JI ih hr h hs ht λc1 as1 a s1 v g1 v1 h1=>wK ih hr h1 pos g1.st (g1.tk ht) λc2 as2 b s2 vs l g2 v2 q=>
    ⟨congrArg (· +1) l,c2,as2,a::b,g1.trans g2 g1.len,⟨v,vs,rfl,g2.cv g1.st v1,v2⟩,q⟩)
theorem Ra(ih:Ok AA n)(hs:St AA c e as s.heap)(hr:AL A e (n+1))(ht:1<=s.toks){x:Expr}
  (h:AX n (.eval x) c (FH λa c1=>JU ((BY a).map λi=> .int (-i)) c1 Q)):wpAny (model pw AA.w) A (eval (.UnaryOp .USub x p) e) (AI AA e c as s Q) no s:=by
 refine UnaryOp_ (JI ih hr h hs ht λc1 as1 a s1 v g1 v1 h1=>?_);obtain⟨z,hz,q⟩:=AG h1;obtain⟨i,hi,hz⟩:=AZ hz;obtain⟨t,rfl⟩:=(AM hi▸v1:CV s1.heap as1 (.int i) v);exact neg_int (AI.after g1 (AI.here (a:= .int _) g1.st ⟨_,rfl⟩ (hz▸q)))
theorem CVs.get:∀{vs:List Value} {i:Nat} {x:AV},CVs h as xs vs->xs[i]? =some x->∃v,vs[i]? =some v/\CV h as x v:=by
 induction xs with
 |nil=>exactλ_ e=>BJ e
 |cons y r ih=>
  intro vs i x z e;obtain⟨v,t,rfl,h1,h2⟩:=z;cases i with
  |zero=>exact⟨v,rfl,sj e▸h1⟩
  |succ i=>exact ih (i:=i) h2 e
theorem CVs.take:∀{vs:List Value} (k:Nat),CVs h as xs vs->CVs h as (xs.take k) (vs.take k):=by
 induction xs with
 |nil=>exactλk z=>by obtain rfl:=z;rw[List.take_nil,List.take_nil];rfl
 |cons y r ih=>
  intro vs k z;cases k with
  |zero=>rfl
  |succ k=>obtain⟨v,t,rfl,h1,h2⟩:=z;exact⟨v,_,rfl,h1,ih k h2⟩
theorem CVs.drop:∀{vs:List Value} (k:Nat),CVs h as xs vs->CVs h as (xs.drop k) (vs.drop k):=by
 induction xs with
 |nil=>exactλk z=>by obtain rfl:=z;rw[List.drop_nil,List.drop_nil];rfl
 |cons y r ih=>
  intro vs k z;cases k with
  |zero=>exact z
  |succ k=>obtain⟨v,t,rfl,h1,h2⟩:=z;exact ih k h2
theorem JX{i:Int}(h:FO i=some k):i=(k:Int)/\k<1099511627776:=by
 cases i with
 |ofNat n=>obtain⟨e,h⟩:=TA h;exact⟨congrArg Int.ofNat (sj h),sj h▸Nat.le_of_ble_eq_true e⟩
 |negSucc n=>exact BJ h
theorem NQ{i:Int}(h:FO i=some k):(0<=i/\i<1099511627776)/\i.toNat=k:=by obtain⟨e,h2⟩:=JX h;exact e▸⟨⟨Int.natCast_nonneg _,Int.ofNat_lt.mpr h2⟩,rfl⟩
theorem wL{i:Int}{m:Nat}(h:FO i=some k)(hk:k<m):seqIndex? i m=some k:=by obtain⟨rfl,_⟩:=JX h;unfold seqIndex?;have h3:¬(k:Int)<0:=Int.not_lt.mpr (Int.natCast_nonneg _);simp[h3,Int.natCast_nonneg,Int.ofNat_lt.mpr hk]
theorem KR(sl:Expr)(o i:Value):∃ops,subscripted sl false o i=operate ops (getItem o i):=by
 cases sl with
 |Slice lo up stp p=>cases stp<;>exact⟨_,rfl⟩
 |_=>exact⟨_,rfl⟩
inductive Rb(b:AV)(u:Value)(n:Nat):Prop
 |mk (i:Int) (t:Tok) (eb:b= .int i) (e:u= .int i t) (h:FO i=some n):Rb b u n
theorem ZJ{b:AV}(hb:CV h as b u)(e:uF b=some n):Rb b u n:=by obtain⟨i,h1,h2⟩:=AD e;obtain⟨t,e⟩:=(AM h1▸hb:CV h as (.int i) u);exact⟨i,t,AM h1,e,h2⟩
theorem Dh(T:BH AA)(hs:St AA c e as s.heap){a b:AV}{value slice:Expr}(ha:CV s.heap as a v)(hb:CV s.heap as b u)(h:ZB c.st a b=some z)(q:Q (.v z) c):
  wpAny (model pw AA.w) A (subscriptTail value slice v u) (AI AA e c as s Q) no s:=by
 obtain⟨ops,ho⟩:=KR slice v u;rcases BM h with⟨x,hx,h⟩|⟨_,h⟩
 .obtain⟨k,hk,h⟩:=AD h;obtain⟨cp,hc,h⟩:=AZ h;obtain⟨i,t',_,rfl,hk⟩:=ZJ hb hk;obtain⟨t,rfl⟩:=(AU hx▸ha:CV _ _ (.str x) v);refine tail_any (typeIs_str _ _ _) F.slot_str_getitem.lookup (getItem_str (c:=cp) ?_ ?_ (AI.here (a:= .str [cp]) hs ⟨_,rfl⟩ (h▸q))) ho
  .obtain⟨rfl,k1⟩:=JX hk;rw[decide_eq_false (Int.not_lt.mpr (Int.le_trans (by decide) (Int.natCast_nonneg k))),decide_eq_false (Int.not_le.mpr (Int.lt_trans (Int.ofNat_lt.mpr k1) (by decide)))];rfl
  .rw[gR,wL hk (EC hc)];simpa using hc
 rcases BM h with⟨xs,hx,h⟩|⟨_,h⟩
 .obtain⟨k,hk,h⟩:=AD h;obtain⟨i,t',_,rfl,hk⟩:=ZJ hb hk;obtain⟨l,vs,rfl,_,h1,h2⟩:=(JQ hx▸ha:CV _ _ (.ftup xs) v);obtain⟨x,hx,cv⟩:=CVs.get h2 h;obtain⟨k1,k2⟩:=NQ hk;exact tail_any h1.typeIs slot_tuple_getitem.lookup (PyProof.Rows.getItem_tuple (x:=x) h1 (Int.le_trans (by decide) k1.1) (Int.lt_trans k1.2 (by decide)) (wL hk (EC hx)) (by simpa using hx) (AI.here0 hs cv q)) ho
 rcases BM h with⟨xs,hx,h⟩|⟨_,h⟩
 .obtain⟨k,hk,h⟩:=AD h;obtain⟨i,t',_,rfl,hk⟩:=ZJ hb hk;obtain⟨l,vs,rfl,h1,h2⟩:=ET hs ha hx;obtain⟨x,hx,cv⟩:=CVs.get h2 h;obtain⟨k1,k2⟩:=NQ hk;exact tail_any h1.typeIs slot_list_getitem.lookup (wpAny_getItem_list (x:=x) h1 k1.1 (Int.lt_trans k1.2 (by decide)) (by rw[k2];simpa using hx) (AI.here0 hs cv q)) ho
 .obtain⟨es,hx,h⟩:=AD h;obtain⟨j,hj,h⟩:=AD h;obtain⟨r,h4,h5⟩:=AD h;obtain⟨l,d,g,rfl,hl,co⟩:=mF hs ha hx;rcases ZI co hb h4 with⟨i,kvs,ek,is,d1,_,_,d4⟩|⟨i,kvs,ek,_⟩
  .obtain⟨x,e2,cv⟩:=((show r=some z from h5)▸d4:Qv _ _ kvs i (some z));exact tail_any d1.typeIs slot_dict_getitem.lookup (wpAny_getItem_of is d1.mapOf e2 ⟨c,as,z,hs.toks (s:=s) (s.toks+1),cv,q⟩) ho
  .exact nI Mine.Internal.AV.ctorIdx ((AM hj).symm.trans ek)
theorem VZ(ih:Ok AA n)(T:BH AA)(hs:St AA c e as s.heap)(hr:AL A e (n+1))(ht:1<=s.toks){i:Expr}
  (h:uQ (AX n) o i c Q):wpAny (model pw AA.w) A (eval (.Subscript o i p) e) (AI AA e c as s Q) no s:=by
 refine Subscript_ (JI ih hr h hs ht λc1 as1 a s1 v g1 v1 h1=>JI ih hr h1 g1.st (g1.tk ht) λc2 as2 b s2 u g2 v2 h2=>?_);obtain⟨z,hz,q⟩:=AG h2;exact wpAny_mono (Dh T g2.st (g2.cv g1.st v1) v2 hz q) (λ_ _ x=>AI.after g1 (AI.after g2 x)) λ_ _ x=>x
noncomputable def dB{α:Type}(xs:List α)(lo hi st:Option Int):List α:=(sliceRange (sliceBounds lo hi st xs.length).1 (sliceBounds lo hi st xs.length).2.1 (sliceBounds lo hi st xs.length).2.2).filterMap (xs[·]?)
theorem Rc{o:Option Int}(h:TP o d=some a)(hd:d<=n):o.elim d (clipAt n)=min a n:=by
 cases o with
 |none=>obtain rfl:=sj h;exact(Nat.min_eq_left hd).symm
 |some i=>obtain⟨rfl,_⟩:=JX h;exact clipAt_nat n a
theorem ZK{up:Option Int}(hl:TP lo 0=some a)(hu:TP up n=some b):sliceBounds lo up none n=(((min a n:Nat):Int),((min b n:Nat):Int),1):=
 (sliceBounds_plain lo up n).trans (by rw[Rc hl (Nat.zero_le _),Rc hu (Nat.le_refl _)])
theorem Di{up:Option Int}(hl:TP lo 0=some a)(hu:TP up n=some b):sliceBounds lo up (some 8) n=(((min a n:Nat):Int),((min b n:Nat):Int),8):=
 Eq.trans (b:=((sliceBounds lo up none n).1,(sliceBounds lo up none n).2.1,8)) (by cases lo<;>cases up<;>rfl) (by rw[ZK hl hu])
theorem Rd{α:Type}(xs:List α)(a:Nat)(k:Nat):((List.range k).map (a+ ·)).filterMap (xs[·]?)=(xs.drop a).take k:=by
 induction k with
 |zero=>rfl
 |succ k ih=>rw[List.range_succ,List.map_append,List.filterMap_append,ih,List.take_add_one,List.getElem?_drop];refine congrArg (λz=>(xs.drop a).take k++z) ?_;show List.filterMap _ [a+k]=_;cases h:xs[a+k]? <;>simp[h]
theorem wM(a b n:Nat):min b n-a=min b n-min a n:=by
 rcases Nat.le_total a n with q|q
 .rw[Nat.min_eq_left q]
 .rw[Nat.min_eq_right q,Nat.sub_eq_zero_of_le (Nat.le_trans (Nat.min_le_right ..) q),Nat.sub_eq_zero_of_le (Nat.min_le_right ..)]
theorem Dj{α:Type}(xs:List α)(b:Nat):xs.take b=xs.take (min b xs.length):=by
 rcases Nat.le_total b xs.length with q|q
 .rw[Nat.min_eq_left q]
 .rw[Nat.min_eq_right q,List.take_of_length_le q,List.take_length]
theorem Dk{α:Type}(xs:List α)(a:Nat):xs.drop a=xs.drop (min a xs.length):=by
 rcases Nat.le_total a xs.length with q|q
 .rw[Nat.min_eq_left q]
 .rw[Nat.min_eq_right q,List.drop_of_length_le q,List.drop_length]
inductive Kz{α:Type}(xs:List α)(lo up:Option Int):Option Int->List α->Prop
 |one (a b:Nat) (hl:TP lo 0=some a) (hu:TP up xs.length=some b):Kz xs lo up none ((xs.take b).drop a)
 |eight (a b:Nat) (hl:TP lo 0=some a) (hu:TP up xs.length=some b) (h:(NO a b xs.length).length<=xs.length):Kz xs lo up (some 8) (every (NO a b xs.length) xs)
theorem Dl{α:Type}{xs:List α}{up:Option Int}{ys:List α}(h:cut xs lo up st=some ys):Kz xs lo up st ys:=by
 obtain⟨a,hl,h⟩:=AD h;obtain⟨b,hu,h⟩:=AD h;cases st with
 |none=>exact sj h▸ .one a b hl hu
 |some k=>obtain⟨rfl,h⟩:=AS h;obtain⟨hk,h⟩:=AS h;exact sj h▸ .eight a b hl hu hk
theorem dC{α:Type}{xs:List α}{up:Option Int}{ys:List α}(h:cut xs lo up st=some ys):dB xs lo up st=ys/\(st=none\/st=some 8):=by
 rcases Dl h with⟨a,b,hl,hu⟩|⟨a,b,hl,hu,_⟩
 .refine⟨?_,.inl rfl⟩;unfold dB;rw[ZK hl hu];show(sliceRange ((min a xs.length:Nat):Int) ((min b xs.length:Nat):Int) 1).filterMap _=_;rw[sliceRange_one,Rd,<-Dk,<-wM,Dj xs b,List.drop_take]
 .refine⟨?_,.inr rfl⟩;unfold dB;rw[Di hl hu];rfl
theorem Dm{α:Type}{xs:List α}{up:Option Int}{ys:List α}(h:cut xs lo up none=some ys):ys.Sublist xs/\ys.length=(sliceRange (sliceBounds lo up none xs.length).1 (sliceBounds lo up none xs.length).2.1 (sliceBounds lo up none xs.length).2.2).length:=by rcases Dl h with⟨a,b,hl,hu⟩;refine⟨(List.drop_sublist _ _).trans (List.take_sublist _ _),?_⟩;rw[ZK hl hu];show _=(sliceRange ((min a xs.length:Nat):Int) ((min b xs.length:Nat):Int) 1).length;rw[sliceRange_one,List.length_map,List.length_range,List.length_drop,List.length_take,wM]
theorem Dn{α:Type}{xs:List α}{up:Option Int}{ys:List α}(h:cut xs lo up st=some ys):ys.length<=xs.length:=by
 rcases Dl h with⟨a,b,hl,hu⟩|⟨a,b,hl,hu,hk⟩
 .exact((List.drop_sublist _ _).trans (List.take_sublist _ _)).length_le
 .exact Nat.le_trans (List.length_filterMap_le ..) hk
theorem CVs.none(x:CVs h as xs vs)(e:xs[i]? = .none):vs[i]? = .none:=
 List.getElem?_eq_none_iff.mpr (CVs.length x▸List.getElem?_eq_none_iff.mp e)
theorem CVs.every(x:CVs h as xs vs)(r:List Nat):CVs h as (every r xs) (every r vs):=by
 induction r with
 |nil=>rfl
 |cons i r ih=>
  unfold Mine.Internal.every;rw[List.filterMap_cons,List.filterMap_cons];cases q:xs[i]? with
  |none=>rw[x.none q];exact ih
  |some y=>obtain⟨v,hv,cv⟩:=CVs.get x q;rw[hv];exact⟨v,_,rfl,cv,ih⟩
theorem CVs.cut{up:Option Int}(x:CVs h as xs vs)(hc:cut xs lo up st=some ys):∃us,Mine.Internal.cut vs lo up st=some us/\CVs h as ys us:=by
 have e:=CVs.length x;unfold Mine.Internal.cut;rw[e];rcases Dl hc with⟨a,b,hl,hu⟩|⟨a,b,hl,hu,hk⟩<;>rw[hl,hu]
 .exact⟨_,rfl,(x.take b).drop a⟩
 .exact⟨_,if_pos (e.symm▸hk),x.every _⟩
noncomputable def wN(h:Heap)(as:AH):List AV->Value->Prop
 |[],v=>v= .none
 |a::r,v=>r=[]/\CV h as a v
inductive La(AA:AP)(e:Env)(c:AC)(as:AH)(s:Shared)(Q:AB)(v:Value)(s':Shared):Prop
 |mk (c':AC) (as':AH) (l:List AV) (g:Go AA e as.pl.length c as s c' as' s') (p:wN s'.heap as' l v) (q:Q (.vs l) c'):La AA e c as s Q v s'
noncomputable def Vh(AA:AP)(n:Nat):Prop:=∀x c Q,AX n (.opt x) c Q->∀A e as s,St AA c e as s.heap->AL A e n->1<=s.toks->wpAny (model pw AA.w) A (evalPart x e) (La AA e c as s Q) no s
theorem Wp(ih:Ok AA n):Vh AA (n+1):=by
 intro x c Q h A e as s hs hr ht;cases x with
 |none=>exact(evalPart_none ..).symm▸wpAny_pure ⟨c,as,[],Go.refl hs (Nat.le_refl _),rfl,h⟩
 |some x=>exact(evalPart_some ..).symm▸JI ih hr h hs ht λc1 as1 a s1 v g1 v1 h1=>⟨c1,as1,[a],g1,⟨rfl,v1⟩,h1⟩
theorem Wq(io:Vh AA n)(hr:AL A e (n+1)){x:Option Expr}{f:Value->Shared->Prop}(h:AX n (.opt x) c (QI K))(hs:St AA c e as s.heap)(ht:1<=s.toks)
  (k:∀c1 as1 l s1 v,Go AA e as.pl.length c as s c1 as1 s1->wN s1.heap as1 l v->K l c1->f v s1):wpAny (model pw AA.w) A (evalPart x e) f no s:=
 wpAny_mono (io _ _ _ h _ _ _ _ hs (hr.le (Nat.le_succ _)) ht) (λv s1 x=>La.rec (λc1 as1 l g cv q=>k c1 as1 l s1 v g cv q) x) λ_ _ x=>x
theorem ZL{l:List AV}(x:wN h as l v){o:Option Int}(e:ZD l.head?=some o):∃q:Option (Int×Tok),v=partValue q/\q.map (·.1)=o:=by
 cases l with
 |nil=>exact⟨none,x,sj e⟩
 |cons a r=>obtain⟨i,h1,e⟩:=AZ e;obtain⟨t,e1⟩:=(AM h1▸x.2:CV h as (.int i) v);exact⟨some (i,t),e1,e⟩
theorem gU(q:Option (Int×Tok)):IsPart (partValue q) (q.map (·.1)):=by
 cases q with
 |none=>exact .none
 |some q=>exact .int _ _
set_option tactic.hygienic true in
theorem Do(hs:St AA c e as s.heap){a:AV}{value slice:Expr}{ql qu qs:Option (Int×Tok)}(ha:CV s.heap as a v)
  (hsl:s.heap.get? sl=some {cls:= .type "slice",data:= .fields #[partValue ql,partValue qu,partValue qs]})(h:cG c.st a (ql.map (·.1)) (qu.map (·.1)) (qs.map (·.1))=some z)(q:Q (.v z) c):
  wpAny (model pw AA.w) A (subscriptTail value slice v (.ref sl)) (AI AA e c as s Q) no s:=by
 obtain⟨ops,ho⟩:=KR slice v (.ref sl);have step:∀{o:Option Int},(o=none\/o=some 8)->(o.getD 1==0)=false:=λh=>by rcases h with rfl|rfl<;>rfl
 rcases BM h with⟨x,hx,h⟩|⟨_,h⟩
 .obtain⟨hl,h⟩:=AS h;obtain⟨ys,hc,rfl⟩:=AZ h;obtain⟨t,rfl⟩:=(AU hx▸ha:CV _ _ (.str x) v);obtain⟨e1,e2⟩:=dC hc;refine tail_any (typeIs_str _ _ _) F.slot_str_getitem.lookup (wpAny_getItem_str_slice (l:=ql) (u:=qu) (st:=qs) ⟨_,hsl,rfl,rfl⟩ (step e2) ?_) ho;have ex:slicePicked ⟨x.toArray⟩ ql qu qs=sliceRange (sliceBounds (ql.map (·.1)) (qu.map (·.1)) (qs.map (·.1)) x.length).1 (sliceBounds (ql.map (·.1)) (qu.map (·.1)) (qs.map (·.1)) x.length).2.1 (sliceBounds (ql.map (·.1)) (qu.map (·.1)) (qs.map (·.1)) x.length).2.2:=rfl;have e3:(slicePicked ⟨x.toArray⟩ ql qu qs).filterMap ((Str.mk x.toArray).cps[·]?)=ys:=by rw[ex,<-e1];simp[dB]
  unfold sliceMade;split
  .rename_i hq;obtain⟨q1,q2⟩:=BG hq;have hqs:qs.map (·.1)=none:=e2.resolve_right λe=>absurd (e▸q1) (by decide);obtain⟨k1,k2⟩:=Dm (hqs▸hc);have e4:ys=x:=k1.eq_of_length (k2.trans (by rw[<-hqs,<-ex];exact beq_iff_eq.mp q2));exact AI.here0 (a:= .str x) hs ⟨_,rfl⟩ (e4▸q)
  .refine⟨?_,?_⟩
   .rw[e3,gR,sizeLine_eq];exact oA (Nat.le_trans (Dn hc) hl)
   .rw[e3];exact AI.here (a:= .str ys) hs ⟨_,rfl⟩ q
 .obtain⟨xs,hx,h⟩:=AD h;obtain⟨hl,h⟩:=AS h;obtain⟨ys,hc,rfl⟩:=AZ h;obtain⟨l,vs,rfl,h1,h2⟩:=ET hs ha hx;obtain⟨us,hu,cu⟩:=CVs.cut h2 hc;obtain⟨e1,e2⟩:=dC hu;refine tail_any h1.typeIs slot_list_getitem.lookup (wpAny_getItem_list_slice h1 ⟨_,hsl,rfl,rfl⟩ (gU _) (gU _) (gU _) (λz=>e2.elim (λe=>BJ (e.symm.trans z)) λe=>absurd (sj (e.symm.trans z)) (by decide)) ?_ (by rw[sizeLine_eq,List.size_toArray,CVs.length h2];exact oA hl)) ho;rw[show slicePick vs.toArray (ql.map (·.1)) (qu.map (·.1)) (qs.map (·.1))=us.toArray from by unfold slicePick;rw[<-e1];simp[dB]];have g:=hs.push {cls:= .type "list",data:= .seq us.toArray} s.toks;exact⟨c,as,.flist ys,g,⟨_,us,rfl,hs.offNew (Nat.le_refl _),⟨0,Heap.get?_push_at rfl rfl⟩,g.cvs hs cu⟩,q⟩
theorem Lb(ih:Ok AA n)(io:Vh AA n)(hs:St AA c e as s.heap)(hr:AL A e (n+1))(ht:1<=s.toks){lo up stp:Option Expr}
  (h:cO (AX n) o lo up stp c Q):wpAny (model pw AA.w) A (eval (.Subscript o (.Slice lo up stp p) p') e) (AI AA e c as s Q) no s:=by
 refine Subscript_ (JI ih hr h hs ht λc1 as1 a s1 v g1 v1 h1=>?_);refine wpAny_Slice (Wq io hr h1 g1.st (g1.tk ht) λc2 as2 l s2 vl g2 v2 h2=>?_);have G:=g1.trans g2 g1.len;refine Wq io hr h2 g2.st (G.tk ht) λc3 as3 u s3 vu g3 v3 h3=>?_;replace G:=G.trans g3 G.len;refine Wq io hr h3 g3.st (G.tk ht) λc4 as4 t s4 vt g4 v4 h4=>?_;replace G:=G.trans g4 G.len;obtain⟨lo',e1,h4⟩:=AG h4;obtain⟨up',e2,h4⟩:=AG h4;obtain⟨st',e3,h4⟩:=AG h4;obtain⟨z,hz,q⟩:=AG h4;obtain⟨ql,rfl,rfl⟩:=ZL v2 e1;obtain⟨qu,rfl,rfl⟩:=ZL v3 e2;obtain⟨qs,rfl,rfl⟩:=ZL v4 e3;have g5:=g4.st.push {cls:= .type "slice",data:= .fields #[partValue ql,partValue qu,partValue qs]} s4.toks;exact wpAny_mono (Do g5.st (g5.cv g4.st (g4.cv g3.st (g3.cv g2.st (g2.cv g1.st v1)))) (Heap.get?_push_at rfl rfl) hz q) (λ_ _ x=>AI.after (G.trans g5 G.len) x) λ_ _ x=>x
theorem dD{m:Nat}(h:Nat.ble m 100=true)(e:k=m):k<=sizeLine:=by have:=Nat.le_of_ble_eq_true h;rw[sizeLine_eq];exact oA (Nat.le_trans (Nat.le_of_eq e) this)
theorem Re(ih:Ok AA n)(hs:St AA c e as s.heap)(hr:AL A e (n+1))(ht:1<=s.toks)
  (h:lR (AX n) es c Q):wpAny (model pw AA.w) A (eval (.List es p) e) (AI AA e c as s Q) no s:=by
 obtain⟨hb,h⟩:=DT h;refine wpAny_List (wK ih hr h p hs ht λc1 as1 a s1 v l g1 v1 h1=>⟨dD hb l,?_⟩);rcases DP h1 with⟨_,h1⟩|⟨_,h1⟩
 .have g2:=g1.st.placed {cls:= .type "list",data:= .seq v.toArray} (o:= .list a) (λM=>⟨v,⟨0,Heap.get?_push_at rfl rfl⟩,CVs.mono M _ _ v1⟩) s1.toks;exact⟨_,_,.loc c1.st.length,g1.trans g2 g1.len,⟨_,g1.st.len▸AH.last,rfl⟩,h1⟩
 .have g2:=g1.st.push {cls:= .type "list",data:= .seq v.toArray} s1.toks;exact⟨_,_,.flist a,g1.trans g2 g1.len,⟨_,v,rfl,g1.st.offNew (Nat.le_refl _),⟨0,Heap.get?_push_at rfl rfl⟩,g2.cvs g1.st v1⟩,h1⟩
theorem Lc(ih:Ok AA n)(hs:St AA c e as s.heap)(hr:AL A e (n+1))(ht:1<=s.toks)
  (h:uT (AX n) es c Q):wpAny (model pw AA.w) A (eval (.Tuple es k p) e) (AI AA e c as s Q) no s:=by
 obtain⟨hb,h⟩:=DT h;refine wpAny_Tuple (wK ih hr h p hs ht λc1 as1 a s1 v l g1 v1 h1=>⟨dD hb l,?_⟩);have g2:=g1.st.push {cls:= .type "tuple",data:= .seq v.toArray} s1.toks;exact⟨_,_,.ftup a,g1.trans g2 g1.len,⟨_,v,rfl,g1.st.offNew (Nat.le_refl _),⟨_,Heap.get?_push_at rfl rfl,rfl,_,rfl⟩,g2.cvs g1.st v1⟩,h1⟩
theorem BR.adopt(ho:h.get? a=some ob)(hd:¬JV ob):BR h as h (as.add a):=
 ⟨λb o e1 h1 h2=>⟨e1,λq=>(TD q).elim h1.1 λq=>hd (sj ((q▸ho:h.get? b=_).symm.trans e1)▸h2),h1.2.1,h1.2.2⟩,λl b e1=>AH.up e1⟩
theorem Go.adopt(g:Go AA e k c as s c1 as1 s1){o:AO}(hn:s.heap.get? a=none)(ho:s1.heap.get? a=some ob)(hd:¬JV ob)(ha:a∉as1.pl)(hi:a∉as1.hid)(hl:a≠e.locals)(hb:AA.get? a=none)(ht:NT a)
  (co:CO AA.w s1.heap (as1.add a) o a):Go AA e k c as s (c1.add o) (as1.add a) s1:=by
 obtain⟨x,ev,hh,sh,lo⟩:=g;obtain⟨m,l⟩:=x.locs;exact⟨x.addP l l.ns (λ_ _ e _=>e) (BR.adopt ho hd) ha hl hi hb co,ev.add hn,hh,sh,lo⟩
theorem BR.loose(hD:h.get? D=some ob)(nS:¬JV ob)(sb:Heap.SameBut D h h'):BR h as h' as:=
 ⟨λx o e1 h1 h2=>⟨(sb.2 x λq=>nS (sj ((q▸hD:h.get? x=_).symm.trans e1)▸h2)).trans e1,h1⟩,λ_ _ e=>e⟩
structure ZM(AA:AP)(e:Env)(as:AH)(h:Heap)(D:Nat)(ob:Obj):Prop where
 at':h.get? D=some ob
 nS:¬JV ob
 cls:ob.cls≠ .none
 pl:D∉as.pl
 hid:D∉as.hid
 loc:D≠e.locals
 base:AA.get? D=none
theorem St.loose(x:St AA c e as h)(l:ZM AA e as h D ob)(sb:Heap.SameBut D h h'):St AA c e as h':=
 have k2:∀x o,h.get? x=some o->x≠D->h'.get? x=some o:=λx o e1 e2=>(sb.2 x e2).trans e1;have M:BR h as h' as:=BR.loose l.at' l.nS sb
 {x with
  keep:=λb o e1 e2=>k2 b o (x.keep b o e1 e2) λq=>BJ (l.base.symm.trans (q▸e1))
  tabx:=x.tabx.of l.at' (.inl l.cls) k2
  objs:=λi o e1=>LG.rec (λy e2 e3=>⟨y,e2,CO.mono M (λo' e4=>k2 y o' e4 λq=>l.pl (q▸List.mem_of_getElem? e2)) e3⟩) (x.objs i o e1)
  loc:=x.loc.imp λm lo=>⟨lo.ns.sameBut sb l.loc.symm,λy v e1=>(lo.val y v e1).mono M⟩
  hid:=λb hb=>(x.hid b hb).imp_left λq=>q.imp λo q1=>k2 b o q1 λq=>l.hid (q▸hb)}
theorem Go.loose(g:Go AA e k c as s c1 as1 s1)(l:ZM AA e as1 s1.heap D ob)(hn:s.heap.get? D=none)(sb:Heap.SameBut D s1.heap h'):Go AA e k c as s c1 as1 {s1 with heap:=h',toks:=s1.toks+1}:=by obtain⟨x,ev,hh,sh,lo⟩:=g;have k2:∀x o,s1.heap.get? x=some o->x≠D->h'.get? x=some o:=λx o e1 e2=>(sb.2 x e2).trans e1;refine⟨x.loose l sb,⟨ev.pre,ev.kle,λx o e1 e2 e3 e4=>k2 x o (ev.same x o e1 e2 e3 e4) λq=>BJ (hn.symm.trans (q▸e1)),λx o e1=>(ev.alive x o e1).imp λo' e2=>k2 x o' e2 λq=>BJ (hn.symm.trans (q▸e1)),ev.new⟩,hh,?_,lo⟩;obtain⟨a1,a2,gg,a3,a4,a5⟩:=sh;exact⟨a1,a2,gg,a3,Nat.le_succ_of_le a4,a5⟩
theorem WA{k v:Sem Value}{P:List (Value×Value)->Shared->Prop}(h:wpAny (model pw AA.w) A k (λa s1=>wpAny (model pw AA.w) A v (λb s2=>P [(a,b)] s2) no s1) no s):wpAny (model pw AA.w) A (evalPairs [(k,v)]) P no s:=by unfold evalPairs;refine wpAny_bind (wpAny_mono h (λa s1 h1=>?_) λ_ _ x=>x);refine wpAny_bind (wpAny_holding (wpAny_mono h1 (λb s2 h2=>?_) λ_ _ x=>x));exact wpAny_bind (wpAny_holding (wpAny_pure (wpAny_pure h2)))
theorem WU{K:Type}[DecidableEq K]{knd:KeyKind pw AA.w K}{f:K->AV}{b:AV}{va vb:Value}{kk:K}(g:Go AA e as.pl.length c as s c2 as2 s2)(l:ZM AA e as2 s2.heap D ob)(hn:s.heap.get? D=none)(od:ob.ExactDict/\ob.data= .dict #[])(cvb:CV s2.heap as2 b vb)(hk:knd.is kk va=true)
  (co:∀h as,DK knd f h as [(f kk,b)] D->DK (intKind pw AA.w) .int h as [(f kk,b)] D\/DK (strKind pw AA.w) RM h as [(f kk,b)] D)(q:∀g,Q (.v (.loc c2.st.length)) (c2.add (.dict [(f kk,b)] g))):
  wpAny (model pw AA.w) A (storeAll D [(va,vb)]) (λ_ GJ=>AI AA e c as s Q (.ref D) GJ) no s2:=by
 refine wpAny_storeAll (knd:=knd) _ [(kk,vb)] [] s2 _ ⟨hk,rfl,trivial⟩ ⟨ob,#[],_,l.at',od.1,od.2,λe he=>absurd he (by simp),.nil,List.nodup_nil⟩ (by rw[sizeLine_eq];exact(by decide:1<=16777216)) λh' hd sb=>?_;have hd':h'.DictOf knd D [(kk,vb)]:=hd;obtain⟨ob',es,ep,ho',hex,hdat,_⟩:=id hd';have g3:=g.loose l hn sb;have nS:¬JV ob':=λq=>by rcases q with⟨_,_,q⟩|⟨_,q⟩<;>exact nI PySem.Data.ctorIdx (hdat.symm.trans q)
 have M:BR s2.heap as2 h' (as2.add D):=
  ⟨λx o e1 h1 h2=>⟨((BR.loose (as:=as2) l.at' l.nS sb).1 x o e1 h1 h2).1,((BR.adopt l.at' l.nS).1 x o e1 h1 h2).2⟩,λl b e1=>AH.up e1⟩
 have g4:=g3.adopt (o:= .dict [(f kk,b)] ob') hn ho' nS l.pl l.hid l.loc l.base trivial ⟨ho',co _ _ ⟨[(kk,vb)],hd',rfl,vb,[],rfl,CV.mono M _ _ cvb,rfl⟩⟩;exact⟨_,_,.loc c2.st.length,g4,⟨_,g3.st.len▸AH.last,rfl⟩,q _⟩
theorem Rf(ih:Ok AA n)(hs:St AA c e as s.heap)(hr:AL A e (n+1))(ht:1<=s.toks){ks:List (Option Expr)}{vs:List Expr}
  (h:lQ (AX n) ks vs c Q):wpAny (model pw AA.w) A (eval (.Dict ks vs p) e) (AI AA e c as s Q) no s:=by
 obtain⟨k,h1,h⟩:=AG h;obtain⟨k,h2,h⟩:=AG h;obtain⟨v,h3,h⟩:=AG h;rw[CX h1,h2,CX h3];have g0:=hs.push {cls:= .type "dict",data:= .dict #[]} s.toks;have fh:s.heap.get? s.heap.objs.size=none:=(IA.of (Nat.le_refl _)).none;have f:=hs.freshN fh;have fb:AA.get? s.heap.objs.size=none:=by
  cases q:AA.get? s.heap.objs.size with
  |none=>rfl
  |some o=>exact BJ (fh.symm.trans (hs.keep _ o q f.2.1))
 have at0:(s.heap.push {cls:= .type "dict",data:= .dict #[]}).get? s.heap.objs.size=some {cls:= .type "dict",data:= .dict #[]}:=Heap.get?_push_at rfl rfl;refine wpAny_Dict_any rfl rfl (by simp) (Nat.succ_pos _) (WA (JI ih hr h g0.st ht λc1 as1 a s1 va g1 v1 h1=>?_));refine wpAny_bind (JI ih hr h1 g1.st (g1.tk ht) λc2 as2 b s2 vb g2 v2 h2=>?_);refine wpAny_bind (wpAny_standAt (wpAny_pure ?_));obtain⟨hk,q⟩:=DT h2;have G:=g1.trans g2 g1.len;have l:ZM AA e as2 s2.heap s.heap.objs.size {cls:= .type "dict",data:= .dict #[]}:=
  ⟨G.evo.same _ _ at0 f.1 f.2.2 f.2.1,λq=>by rcases q with⟨_,_,q⟩|⟨_,q⟩<;>exact nI PySem.Data.ctorIdx q,(nomatch ·),G.evo.notin at0 f.1,G.hid▸(hs.offNew (Nat.le_refl _)).2.1,f.2.2,fb⟩
 replace G:=g0.trans G g0.len;replace v1:=g2.cv g1.st v1;rcases Bool.or_eq_true_iff.mp hk with hk|hk
 .obtain⟨i,hk⟩:=Option.isSome_iff_exists.mp hk;obtain⟨t,rfl⟩:=(AM hk▸v1:CV _ _ (.int i) va);exact WU (f:= .int) G l fh ⟨⟨rfl,rfl,rfl⟩,rfl⟩ v2 (intKind_is _ _ _ _) (λ_ _=> .inl) (AM hk▸q)
 .obtain⟨i,hk⟩:=Option.isSome_iff_exists.mp hk;obtain⟨t,rfl⟩:=(AU hk▸v1:CV _ _ (.str i) va);exact WU (f:=RM) G l fh ⟨⟨rfl,rfl,rfl⟩,rfl⟩ v2 (strKind_is _ _ (⟨i.toArray⟩:Str) _) (λ_ _=> .inr) ((AU hk▸q:∀g,Q (.v (.loc c2.st.length)) (c2.add (.dict [(.str i,b)] g))))
theorem QP(h:GM x=true):typeLookup (.type "object") x=pure none:=by unfold GM at h;simp only[List.contains_cons,List.contains_nil,Bool.or_false,Bool.or_eq_true,beq_iff_eq]at h;rcases h with rfl|rfl|rfl|rfl|rfl<;>(rw[typeLookup_type,builtinLookup_eq_fast];kernel_rfl)
theorem Ld{a:AV}(x:CV h as a v)(hb:QH a=true):handedOut v=pure v:=by
 cases a with
 |none=>subst x;rfl
 |bool b=>subst x;rfl
 |int i=>obtain⟨t,rfl⟩:=x;rfl
 |str i=>obtain⟨t,rfl⟩:=x;rfl
 |fn a=>subst x;rfl
 |blt id=>exact ME hb
 |raw v=>exact ME hb
 |typ n=>subst x;rfl
 |loc l=>obtain⟨a,_,rfl⟩:=x;rfl
 |flist xs=>obtain⟨a,vs,rfl,_⟩:=x;rfl
 |ftup xs=>obtain⟨a,vs,rfl,_⟩:=x;rfl
 |range n=>obtain⟨a,t,u,r,rfl,_⟩:=x;rfl
inductive mK(h:Heap)(as:AH)(fs:List (Str×AV))(a d k:Nat):Prop
 |mk (dx:Nat) (m:Str->Option Value) (h1:as.pl[d]? =some dx) (h2:dx≠a) (h3:h.Inst a k m) (h4:h.Ns1 dx m) (h5:∃o,h.get? a=some o/\o.dict=some dx) (h6:∀x,m x≠none->fs.lookup x≠none) (h7:∀x v,fs.lookup x=some v->IR h as m x v):mK h as fs a d k
theorem Dp(hs:St AA c e as s.heap)(hl:as.pl[l]? =some a)(h1:c.st[l]? =some (.inst k d))(h2:c.st[d]? =some (.ns fs)):
  mK s.heap as fs a d k:=by
 obtain⟨o,dx,k1,k2,k3,k4,k5⟩:=hs.at hl h1;obtain⟨m,k6,k7,k8⟩:=hs.at k5 h2;have hne:dx≠a:=by rintro rfl;have:l=d:=(List.getElem_inj hs.nodup).mp ((List.getElem?_eq_some_iff.mp hl).2.trans (List.getElem?_eq_some_iff.mp k5).2.symm);exact nI Mine.Internal.AO.ctorIdx (sj (h1.symm.trans (this▸h2)))
 exact⟨dx,m,k5,hne,⟨o,k1,k2,k3,.inr ⟨dx,k4,hne,k6⟩⟩,k6,⟨o,k1,k4⟩,k7,k8⟩
inductive Ig(h:Heap)(as:AH)(st:List AO)(p:Nat×Nat×List (Str×AV))(a:AV)(v:Value):Prop
 |mk (l x:Nat) (ea:a= .loc l) (e:v= .ref x) (hl:as.pl[l]? =some x) (h1:st[l]? =some (.inst p.1 p.2.1)) (h2:st[p.2.1]? =some (.ns p.2.2)) (k:mK h as p.2.2 x p.2.1 p.1):Ig h as st p a v
theorem OQ(hs:St AA c e as s.heap){a:AV}{p:Nat×Nat×List (Str×AV)}(ha:CV s.heap as a v)(h:LB c.st a=some p):Ig s.heap as c.st p a v:=by obtain⟨l,h1,h⟩:=AD h;obtain⟨o,h2,h⟩:=AD h;obtain⟨i,h3,h⟩:=AD h;obtain⟨o',h4,h⟩:=AD h;obtain⟨fs,h5,rfl⟩:=AZ h;obtain⟨b,e1,e2⟩:=(CT h1▸ha:CV s.heap as (.loc l) v);have f1:=h2.trans (congrArg some (tO h3));have f2:=h4.trans (congrArg some (Bt h5));exact⟨l,b,CT h1,e2,e1,f1,f2,Dp hs e1 f1 f2⟩
theorem mM(T:BH AA)(hs:St AA c e as s.heap){a:AV}(ha:CV s.heap as a v)(h:Jz c.st a x=some z)(q:∀r t,CV s.heap as z r->P r {s with toks:=t}):
  wpAny (model pw AA.w) A (getAttr v x ex) P no s:=by
 obtain⟨⟨k,d,fs⟩,hp,h⟩:=AD h;obtain⟨hk,h⟩:=AS h;obtain⟨hk1,hk2⟩:=BG hk;obtain⟨h3,h4⟩:=Option.filter_eq_some_iff.mp h;obtain rfl:k=FZ:=beq_iff_eq.mp hk1;obtain⟨l,b,_,rfl,_,_,_,dx,m,i1,i2,i3,i4,i5,i6,i7⟩:=OQ hs ha hp;obtain⟨r,e1,cv⟩:=i7 _ _ h3;obtain⟨N,mN,X,n1,n2,n3,n4,n5,n6⟩:=T.cls;obtain⟨nm,q',bs,sn,sub,col,dd,k0,k1,k2,k3,k5,hC⟩:=gP (X.keeps (hs.old T));obtain⟨hh,g,d',t,os⟩:=s;exact load_attr hC (X.keeps (hs.old T)).ns n1 (n4 _ hk2) (QP hk2) i3 e1 (Ld cv h4) (q r (t+1) cv)
theorem OR{W:Sem Value}(h:IP o=true):attributeBase o m e W=W:=by
 unfold IP at h;rcases Bool.or_eq_true_iff.mp h with h|h
 .exact Expr.Name.elim (motive_1:=λo=>attributeBase o m e W=W) o (Nat.eq_of_beq_eq_true h) λ_ _=>rfl
 rcases Bool.or_eq_true_iff.mp h with h|h
 .exact Expr.Constant.elim (motive_1:=λo=>attributeBase o m e W=W) o (Nat.eq_of_beq_eq_true h) λ_ _ _=>rfl
 rcases Bool.or_eq_true_iff.mp h with h|h
 .exact Expr.Attribute.elim (motive_1:=λo=>attributeBase o m e W=W) o (Nat.eq_of_beq_eq_true h) λ_ _ _=>rfl
 .exact Expr.Subscript.elim (motive_1:=λo=>attributeBase o m e W=W) o (Nat.eq_of_beq_eq_true h) λ_ _ _=>rfl
theorem Rg(T:BH AA)(ih:Ok AA n)(hs:St AA c e as s.heap)(hr:AL A e (n+1))(ht:1<=s.toks)
  (h:lU (AX n) o m c Q):wpAny (model pw AA.w) A (eval (.Attribute o m p) e) (AI AA e c as s Q) no s:=by
 obtain⟨hb,h⟩:=DT h;rw[arm_eval_Attribute,OR hb];refine wpAny_bind (JI ih hr h hs ht λc1 as1 a s1 v g1 v1 h1=>?_);obtain⟨z,hz,q⟩:=AG h1;refine wpAny_bind (wpAny_standAt (wpAny_bind (wpAny_holding (BI (mM T g1.st v1 hz λr t cv hk=>?_)))));exact wpAny_bind (wpAny_letTemporaryGo (wpAny_pure (AI.after g1 (AI.here g1.st cv q))))
noncomputable def JD(M:Model)(h:Heap)(f:Value):Prop:=∃k,(k=Keeper.frame\/k=Keeper.machine\/k=Keeper.boundFrame)/\Looks M h (keeperOf f) k
theorem GP(h:es.all DQ=true):starEach es e=es.map λx=>(false,eval x e):=by
 induction es with
 |nil=>rfl
 |cons x r ih=>
  obtain⟨h1,h2⟩:=BG (show(DQ x&&r.all DQ)=true from h);rcases NF x with⟨y,p,rfl⟩|hx
  .exact ME h1
  .rw[hx,ih h2];rfl
theorem RP{pos:Pos}{f:Value}{first:List Value}(hst:es.all DQ=true)
  (h:wpAny (model pw AA.w) A (spliced (backTo pos (starEach es e))) (λvs s1=>JD (model pw AA.w) s1.heap f/\wpAny (model pw AA.w) A (PySem.call f (first++vs)) P X s1) X s):
  wpAny (model pw AA.w) A (callWith pos f first (backTo pos (starEach es e)) []) P X s:=by
 rw[GP hst]at h⊢;refine callWith_of (P:=λh=>JD (model pw AA.w) h f) ?_ (λh x=>x) ?_
 .have:(backTo pos (es.map λx=>(false,eval x e))).any (·.1)=false:=by rw[List.any_eq_false];intro x hx;unfold backTo at hx;rw[List.map_map]at hx;obtain⟨y,_,rfl⟩:=ID hx;simp
  rw[this];rfl
 .cases es with
  |nil=>unfold evalArgs;show wpAny _ _ (spliced []>>=_) _ _ s;refine wpAny_bind (wpAny_mono (show wpAny _ _ (spliced []) _ _ s from h) (λvs s' h'=>?_) λ_ _ x=>x);refine wpAny_holding ?_;exact wpAny_bind (wpAny_pure (wpAny_bind (wpAny_pure (wpAny_pure h'))))
  |cons x r=>exact evalArgs_plain (wpAny_mono h (λvs s1 h1=>h1) λ_ _ x=>x)
theorem EW{id:String}:JD M h (.builtin id):=⟨.machine,.inr (.inl rfl),λA Q E s _ q=>by unfold keeperOf;exact wpAny_pure q⟩
theorem IL:JD M h (.type T):=⟨.machine,.inr (.inl rfl),λA Q E s _ q=>by unfold keeperOf;exact wpAny_pure q⟩
theorem wO{o:Obj}{fd:FuncData}(ho:h.get? a=some o)(hd:o.data= .func fd):JD M h (.ref a):=
 ⟨.frame,.inl rfl,λA Q E s k q=>by unfold keeperOf;refine wpAny_bind (wpAny_load (k _ _ ho) ?_);rw[hd];exact wpAny_pure q⟩
theorem pZ{mN:Str->Option Value}(X:ClsAt h a N mN):JD M h (.ref a):=
 ⟨.machine,.inr (.inl rfl),λA Q E s k q=>by
  obtain⟨nm,q',bs,sn,sub,col,dd,k0,k1,k2,k3,k5,hC⟩:=gP (X.keeps k);obtain⟨hh,g,d,t,os⟩:=s;have f1:=tc_lookup;have hT:(⟨hh,g,d,t,os⟩:Shared).TypeIs (.ref a) "type":=⟨_,hC,rfl⟩;unfold keeperOf specialOf
  repeat (any_goals (first|assumption|with_reducible refine wpAny_loadPart_at hC ?_|with_reducible refine wpAny_load' hC ?_|wp_step))⟩
noncomputable def KG(p:Arguments):Prop:=∀(f:FuncData) (us:List Value),f.params=p->f.defaults= .none->(p.args.map (·.arg)).length=us.length->bindArgs f ⟨us,[]⟩=pure ((p.args.map (·.arg)).zip us)
theorem mO{p:Arguments}(hl:(p.args.map (·.arg)).length=0)(h:∀f:FuncData,bindArgs {f with params:=p,defaults:= .none} ⟨[],[]⟩=pure ((p.args.map (·.arg)).zip [])):KG p:=by rintro f us rfl hd e;obtain rfl:=List.length_eq_zero_iff.mp (e.symm.trans hl);have k:=h f;cases f;obtain rfl:=hd;exact k
theorem mP{p:Arguments}(hl:(p.args.map (·.arg)).length=1)(h:∀(f:FuncData) (u:Value),bindArgs {f with params:=p,defaults:= .none} ⟨[u],[]⟩=pure ((p.args.map (·.arg)).zip [u])):KG p:=by rintro f us rfl hd e;obtain⟨u,rfl⟩:=List.length_eq_one_iff.mp (e.symm.trans hl);have k:=h f u;cases f;obtain rfl:=hd;exact k
theorem mQ{p:Arguments}(hl:(p.args.map (·.arg)).length=2)(h:∀(f:FuncData) (u v:Value),bindArgs {f with params:=p,defaults:= .none} ⟨[u,v],[]⟩=pure ((p.args.map (·.arg)).zip [u,v])):KG p:=by rintro f us rfl hd e;obtain⟨u,r,rfl,e1⟩:=TC (e.symm.trans hl);obtain⟨v,r,rfl,e2⟩:=TC e1;obtain rfl:=List.length_eq_zero_iff.mp e2;have k:=h f u v;cases f;obtain rfl:=hd;exact k
theorem mR{p:Arguments}(hl:(p.args.map (·.arg)).length=3)(h:∀(f:FuncData) (u v w:Value),bindArgs {f with params:=p,defaults:= .none} ⟨[u,v,w],[]⟩=pure ((p.args.map (·.arg)).zip [u,v,w])):KG p:=by rintro f us rfl hd e;obtain⟨u,r,rfl,e1⟩:=TC (e.symm.trans hl);obtain⟨v,r,rfl,e2⟩:=TC e1;obtain⟨w,r,rfl,e3⟩:=TC e2;obtain rfl:=List.length_eq_zero_iff.mp e3;have k:=h f u v w;cases f;obtain rfl:=hd;exact k
theorem St.recell(x:St AA c e as h){cl acl}(hc:∀y l,List.lookup y acl=some l->∃a,as.pl[l]? =some a/\List.lookup y cl=some a):
  St AA ⟨{c.fr with cells:=acl},c.st,c.lo⟩ {e with cells:=cl} as h:={x with cells:=hc}
theorem St.rescope(x:St AA c e as h)(hk:sc.kind= .function):St AA ⟨{c.fr with scope:=sc},c.st,c.lo⟩ {e with scope:=sc} as h:={x with scope:=rfl,kind:=hk}
theorem Le(names:List (Str×NameKind)):∀(c:AC) (e:Env) (as:AH) (s:Shared),St AA c e as s.heap->
  ∃as',Go AA {e with cells:=cellsFrom s.heap.objs.size names e.cells} as.pl.length c as s ⟨{c.fr with cells:=FX c.st.length names c.fr.cells},CN c.st names,c.lo⟩ as' {s with heap:=pushCells s.heap names}:=by
 induction names with
 |nil=>exactλc e as s hs=>⟨as,Go.refl (e:=e) hs (Nat.le_refl _)⟩
 |cons p r ih=>
  intro c e as s hs;obtain⟨x,k⟩:=p;cases q:k== .cell with
  |true=>
   have g:=hs.placed (o:= .cell none) {cls:= .type "cell",data:= .cell none} (λ_=>⟨none,_,Heap.get?_push_size _ rfl,rfl⟩) s.toks;have h1:=g.st.recell (cl:=(x,s.heap.objs.size)::e.cells) (acl:=(x,c.st.length)::c.fr.cells) λy l hl=>by
    by_cases q:y=x
    .have hl:=(EV ..).symm.trans hl;exact⟨_,(congrArg (_[·]?) ((sj ((if_pos q).symm.trans hl)).symm.trans hs.len.symm)).trans AH.last,(EV ..).trans (if_pos q)⟩
    .have hl:=(EV ..).symm.trans hl;exact(g.st.cells y l ((if_neg q).symm.trans hl)).imp λa e=>e.imp_right ((EV ..).trans (if_neg q)).trans
   obtain⟨as',g'⟩:=ih _ _ _ {s with heap:=s.heap.push {cls:= .type "cell",data:= .cell none}} h1;refine⟨as',?_⟩;rw[show({s with heap:=s.heap.push {cls:= .type "cell",data:= .cell none}}:Shared).heap.objs.size=s.heap.objs.size+1 from Heap.size_push ..,
    show(c.add (.cell none)).st.length=c.st.length+1 from List.length_append ..]at g'
   have e1:FX c.st.length ((x,k)::r) c.fr.cells=FX (c.st.length+1) r ((x,c.st.length)::c.fr.cells):=if_pos q;have e2:CN c.st ((x,k)::r)=CN (c.st++[.cell none]) r:=if_pos q;have e3:cellsFrom s.heap.objs.size ((x,k)::r) e.cells=cellsFrom (s.heap.objs.size+1) r ((x,s.heap.objs.size)::e.cells):=if_pos q;have e4:pushCells s.heap ((x,k)::r)=pushCells (s.heap.push {cls:= .type "cell",data:= .cell none}) r:=if_pos q;rw[e1,e2,e3,e4];exact⟨g'.st,g.evo.trans (g'.evo.le g.len),g'.hid.trans g.hid,g.sh.trans g'.sh,g'.lo⟩
  |false=>have e1:FX c.st.length ((x,k)::r) c.fr.cells=FX c.st.length r c.fr.cells:=if_neg (Bool.eq_false_iff.mp q);have e2:CN c.st ((x,k)::r)=CN c.st r:=if_neg (Bool.eq_false_iff.mp q);have e3:cellsFrom s.heap.objs.size ((x,k)::r) e.cells=cellsFrom s.heap.objs.size r e.cells:=if_neg (Bool.eq_false_iff.mp q);have e4:pushCells s.heap ((x,k)::r)=pushCells s.heap r:=if_neg (Bool.eq_false_iff.mp q);rw[e1,e2,e3,e4];exact ih c e as s hs
theorem dE(f:Str×Value->PUnit->Sem (ForInStep PUnit))(hf:∀n v u,f (n,v) u=(do storeName e n v;pure (.yield ⟨⟩)))(names:List Str):∀(vs:List AV) (us:List Value) (c:AC) (s:Shared),St AA c e as s.heap->
  CVs s.heap as vs us->∀{c':AC},GN c names vs=some c'->∀{P:PUnit->Shared->Prop},(∀s',Go AA e as.pl.length c as s c' as s'->P ⟨⟩ s')->wpAny (model pw AA.w) A (forIn (names.zip us) ⟨⟩ f) P no s:=by
 induction names with
 |nil=>intro vs us c s hs cv c' hb P k;obtain⟨_,hb⟩:=TA hb;exact wpAny_pure (a:=PUnit.unit) (k s (sj hb▸Go.refl hs (Nat.le_refl _)))
 |cons x r ih=>intro vs us c s hs cv c' hb P k;obtain⟨p,e1,hb⟩:=AD hb;obtain⟨c1,h3,h4⟩:=AD hb;obtain⟨u,us,rfl,h1,h2⟩:=(GG e1▸cv:CVs s.heap as (p.1::p.2) us);rw[List.zip_cons_cons,List.forIn_cons,hf];exact wpAny_bind (wpAny_bind (EK hs h1 h3 λs1 g=>wpAny_pure (ih _ _ _ _ g.st (g.cvs hs h2) h4 λs' g'=>k s' (g.trans g' (Nat.le_refl _)))))
theorem gV{names:List Str}:∀{vs:List AV} {c c':AC},GN c names vs=some c'->names.length=vs.length:=by
 induction names with
 |nil=>exactλh=>(congrArg List.length (List.isEmpty_iff.mp (TA h).1)).symm
 |cons x r ih=>intro vs c c' h;obtain⟨p,e1,h⟩:=AD h;obtain⟨c1,_,h⟩:=AD h;exact(congrArg (· +1) (ih h)).trans (congrArg List.length (GG e1)).symm
theorem QQ{scope:Scope}{clos:List (Str×Addr)}{names:List Str}{vs:List AV}{qual:Str}{func:Option Addr}{code:Value}{around:Option Env}{builtins:Addr}{acl:List (Str×Nat)}
  (hob:ob={cls:= .type (if around.isSome then "dict" else "frame"),data:= .dict #[]})
  (h0:St AA ⟨⟨scope,[],acl⟩,st0,lo0⟩ (newEnv scope s.heap.objs.size mainGlobals clos qual func code around builtins) as0 (s.heap.push ob))(cv:CVs (s.heap.push ob) as0 vs us)
  (hb:GN ⟨⟨scope,[],FX st0.length scope.names acl⟩,CN st0 scope.names,lo0⟩ names vs=some c'){P:Env->Shared->Prop}
  (k:∀as' s' env,(∃cells,env=newEnv scope s.heap.objs.size mainGlobals cells qual func code around builtins)->Go AA env as0.pl.length ⟨⟨scope,[],acl⟩,st0,lo0⟩ as0 {s with heap:=s.heap.push ob} c' as' s'->P env s'):
  wpAny (model pw AA.w) A (newFunctionEnv scope mainGlobals clos (names.zip us) qual func code around builtins) P no s:=by
 subst hob;obtain⟨as',g⟩:=Le scope.names _ _ _ {s with heap:=s.heap.push {cls:= .type (if around.isSome then "dict" else "frame"),data:= .dict #[]}} h0;unfold newFunctionEnv;refine wpAny_bind (wpAny_alloc (wpAny_bind (wpAny_layCells _ (λname kind cells=>?_) _ _ _ _ ?_)))
 .rfl
 .have cv':CVs (pushCells (s.heap.push {cls:= .type (if around.isSome then "dict" else "frame"),data:= .dict #[]}) scope.names) as' vs us:=by obtain⟨_,hn,_⟩:=h0.loc;exact CVs.mono (g.evo.mono (Nat.le_refl _) g.hid hn) _ _ cv
  cases around with
  |none=>refine wpAny_bind (dE _ (λ_ _ _=>rfl) _ _ _ _ _ g.st cv' hb λs' g'=>wpAny_pure ?_);exact k as' s' _ ⟨_,rfl⟩ (Go.trans (e:=_) g g' g.len)
  |some outer=>refine wpAny_bind (dE _ (λ_ _ _=>rfl) _ _ _ _ _ g.st cv' hb λs' g'=>wpAny_pure ?_);exact k as' s' _ ⟨_,rfl⟩ (Go.trans (e:=_) g g' g.len)
noncomputable def OS(h:Heap)(as:AH)(h':Heap)(as':AH):Prop:=∀a o,h.get? a=some o->as.off a->JV o->h'.get? a=some o/\as'.off a
theorem OS.li(M:OS h as h' as')(l:LI h a vs)(o:as.off a):LI h' a vs/\as'.off a:=
 l.elim λn l=>(M a _ l o (.inl ⟨_,_,rfl⟩)).imp (λl=>⟨n,l⟩) id
theorem OS.tup(M:OS h as h' as'){vs:Array Value}(l:IsTup h a vs)(o:as.off a):IsTup h' a vs/\as'.off a:=
 l.elim λob l=>(M a ob l.1 o (l.2.2.elim λ_ h=> .inl ⟨_,_,h⟩)).imp (λh=>⟨ob,h,l.2⟩) id
theorem CV.frz(M:OS h as h' as')(a:AV):∀(v:Value),a.free=true->CV h as a v->CV h' as' a v:=
 AV.rec (motive_1:=λa=>∀v,a.free=true->CV h as a v->CV h' as' a v) (motive_2:=λxs=>∀vs,frees xs=true->CVs h as xs vs->CVs h' as' xs vs) (λ_ _ e=>e) (λ_ _ _ e=>e) (λ_ _ _ e=>e) (λ_ _ _ e=>e) (λ_ _ _ e=>e) (λ_ _ _ e=>e) (λ_ _ _ e=>e)
  (λ_ _ f _=>ME f) (λ_ ih _ f e=>e.rec λa vs e o l p=>⟨a,vs,e,(M.li l o).2,(M.li l o).1,ih vs f p⟩) (λ_ ih _ f e=>e.rec λa vs e o l p=>⟨a,vs,e,(M.tup l o).2,(M.tup l o).1,ih vs f p⟩)
  (λ_ _ _ e=>e.imp λa=>Exists.imp λ_=>Exists.imp λ_=>Exists.imp λ_ e=>⟨e.1,(M a _ e.2.2 e.2.1 (.inr ⟨_,rfl⟩)).symm⟩) (λ_ _ _ e=>e) (λ_ _ e=>e) (λ_ _ ih1 ih2 _ f e=>e.rec λv t e p r=>⟨v,t,e,ih1 v (BG f).1 p,ih2 t (BG f).2 r⟩) a
theorem CVs.frz(M:OS h as h' as'):∀{vs:List Value},frees xs=true->CVs h as xs vs->CVs h' as' xs vs:=by
 induction xs with
 |nil=>exactλ_ e=>e
 |cons y r ih=>exactλf e=>e.rec λv t e p r=>⟨v,t,e,CV.frz M y v (BG f).1 p,ih (BG f).2 r⟩
structure Wr(AA:AP)(c:AC)(e:Env)(as:AH)(h:Heap):Prop where
 pl:h.objs.size∉as.pl
 loc:h.objs.size≠e.locals
 base:AA.get? h.objs.size=none
theorem St.newK(hs:St AA c e as h):Wr AA c e as h:=by
 have fh:h.get? h.objs.size=none:=(IA.of (Nat.le_refl _)).none;refine⟨(hs.freshN fh).1,(hs.freshN fh).2.2,?_⟩;cases q:AA.get? h.objs.size with
 |none=>rfl
 |some o=>exact BJ (fh.symm.trans (hs.keep _ o q True.intro))
theorem St.hidN(hs:St AA c e as h)(ob:Obj)(ha:a∈e.locals::as.hid)(hp:∀a,a∉as.pl->a∉pl'):(∃o,(h.push ob).get? a=some o)/\vU AA h.objs.size pl' a:=by
 have up:∀b o,h.get? b=some o->(h.push ob).get? b=some o:=λ_ _ e1=>Heap.get?_push_of_some _ e1;rcases AN ha with q|q
 .obtain⟨m,hn,_⟩:=hs.loc;exact q▸⟨hn.elim λo x=>x.elim λ_ x=>x.elim λ_ x=>⟨o,up _ _ x.1⟩,hp _ hs.loff,hs.newK.loc.symm,hs.lbase,hs.ltab⟩
 .obtain⟨⟨o,q1⟩,q2,q3,q4,q5⟩:=hs.hid a q;exact⟨⟨o,up _ _ q1⟩,hp _ q2,Nat.ne_of_lt (Heap.lt_size q1),q4,q5⟩
theorem St.frame(hs:St AA c e as s.heap){E:Env}{acl:List (Str×Nat)}(h1:E.scope=sc)(h2:E.locals=s.heap.objs.size)(h3:E.globals=mainGlobals)(h4:E.builtins=builtinsNs)(hk:sc.kind= .function)
  (hc:∀x l,acl.lookup x=some l->∃a,as.pl[l]? =some a/\E.cells.lookup x=some a):
  St AA ⟨⟨sc,[],acl⟩,c.st,as.pl.length⟩ E ⟨as.pl,e.locals::as.hid⟩ (s.heap.push {cls:= .type T,data:= .dict #[]})/\BR s.heap as (s.heap.push {cls:= .type T,data:= .dict #[]}) ⟨as.pl,e.locals::as.hid⟩:=by
 obtain⟨m,hn,hl⟩:=id hs.loc;have f:=hs.newK;have up:∀b o,s.heap.get? b=some o->(s.heap.push {cls:= .type T,data:= .dict #[]}).get? b=some o:=λ_ _ e1=>Heap.get?_push_of_some _ e1;have M:BR s.heap as (s.heap.push {cls:= .type T,data:= .dict #[]}) ⟨as.pl,e.locals::as.hid⟩:=
  ⟨λb o e1 h1 h2=>⟨up b o e1,h1.1,λq=>((AN q).elim (h2.ne e1 hn) h1.2.1),h1.2.2⟩,λ_ _ e1=>e1⟩
 exact⟨⟨λb o e1 e2=>up b o (hs.keep b o e1 e2),True.intro,hs.tabx.all up,hs.len,hs.nodup,hs.off,hs.ptab,λl o e1=>LG.rec (λa e2 e3=>⟨a,e2,CO.mono M (λo' e4=>up a o' e4) e3⟩) (hs.objs l o e1),h2.symm▸f.pl,h2.symm▸f.base,True.intro,
  h1,hk,h3,h4,hc,⟨_,h2▸Heap.Ns.new ..,λx v e1=>(nomatch e1)⟩,Nat.le_refl _,λa ha=>h2.symm▸hs.hidN _ ha λ_ x=>x⟩,M⟩
theorem St.frame0(hs:St AA c e as s.heap){E:Env}(h1:E.scope=sc)(h2:E.locals=s.heap.objs.size)(h3:E.globals=mainGlobals)(h4:E.builtins=builtinsNs)(hk:sc.kind= .function):
  St AA ⟨⟨sc,[],[]⟩,[],0⟩ E ⟨[],e.locals::(as.hid++as.pl)⟩ (s.heap.push {cls:= .type T,data:= .dict #[]})/\
   OS s.heap as (s.heap.push {cls:= .type T,data:= .dict #[]}) ⟨[],e.locals::(as.hid++as.pl)⟩:=by
 obtain⟨m,hn,hl⟩:=id hs.loc;have f:=hs.newK;have up:∀b o,s.heap.get? b=some o->(s.heap.push {cls:= .type T,data:= .dict #[]}).get? b=some o:=λ_ _ e1=>Heap.get?_push_of_some _ e1;refine⟨⟨λb o e1 e2=>up b o (hs.keep b o e1 e2),True.intro,hs.tabx.all up,rfl,List.nodup_nil,λa ha=>(nomatch ha),True.intro,λl o e1=>BJ (List.getElem?_nil.symm.trans e1),λha=>(nomatch ha),h2.symm▸f.base,True.intro,h1,hk,h3,h4,λx l e1=>(nomatch e1),⟨_,h2▸Heap.Ns.new ..,λx v e1=>(nomatch e1)⟩,Nat.zero_le _,λa ha=>?_⟩,
  λb o e1 h1 h2=>⟨up b o e1,λq=>(nomatch q),λq=>(AN q).elim (h2.ne e1 hn) λq=>(HV q).elim h1.2.1 h1.1,h1.2.2⟩⟩
 rw[h2];rcases AN (show a∈e.locals::(as.hid++as.pl)from ha)with q|q
 .exact hs.hidN _ (q▸ .head _) λ_ _ x=>nomatch x
 .rcases HV q with q|q
  .exact hs.hidN _ (.tail _ q) λ_ _ x=>nomatch x
  .obtain⟨o,q1⟩:=hs.mem_lt q;exact⟨⟨o,up _ _ q1⟩,λha=>(nomatch ha),Nat.ne_of_lt (Heap.lt_size q1),hs.off a q,True.intro⟩
theorem QB.unpush{L L':Nat}{as as2:List Nat}{h2:Heap}(ev:QB k L as (h.push ob) as2 h2)(e2:L=h.objs.size):QB k L' as h as2 h2:=by
 refine⟨ev.pre,ev.kle,λa o e1 e3 _ e4=>ev.same a o (Heap.get?_push_of_some _ e1) e3 (e2▸Nat.ne_of_lt (Heap.lt_size e1)) e4,λa o e1=>ev.alive a o (Heap.get?_push_of_some _ e1),λa e1 e2=>?_⟩;cases q:h.get? a with
 |none=>rfl
 |some o=>exact tE ((Heap.get?_push_of_some _ q).symm.trans (ev.new a e1 e2))
theorem St.back(hs:St AA c e as s.heap){E:Env}(h2:E.locals=s.heap.objs.size)
  (g:Go AA E as.pl.length c0 ⟨as.pl,e.locals::as.hid⟩ {s with heap:=s.heap.push {cls:= .type T,data:= .dict #[]}} c2 as2 s2):
  Go AA e as.pl.length c as s ⟨c.fr,c2.st,c.lo⟩ ⟨as2.pl,as.hid⟩ s2/\BR s2.heap as2 s2.heap ⟨as2.pl,as.hid⟩:=by
 obtain⟨m,hn,hl⟩:=id hs.loc;obtain⟨x,ev,hh,sh,lo⟩:=g;have hh':as2.hid=e.locals::as.hid:=hh;have ev':QB as.pl.length e.locals as.pl s.heap as2.pl s2.heap:=ev.unpush h2;have M0:BR s2.heap as2 s2.heap ⟨as2.pl,as.hid⟩:=⟨λb o e1 h1 _=>⟨e1,h1.1,λq=>h1.2.1 (hh'▸ .tail _ q),h1.2.2⟩,λ_ _ e1=>e1⟩;have M1:BR s.heap as s2.heap ⟨as2.pl,as.hid⟩:=ev'.mono (as:=as) (as':=⟨as2.pl,as.hid⟩) (Nat.le_refl _) rfl hn;obtain⟨oL,es,ep,hoL,hr⟩:=id hn;have hn2:s2.heap.Ns e.locals m:=⟨oL,es,ep,ev.same _ oL (Heap.get?_push_of_some _ hoL) hs.loff (h2▸hs.newK.loc.symm) hs.ltab,hr⟩;exact⟨⟨⟨x.keep,hs.tab,x.tabx,x.len,x.nodup,x.off,x.ptab,λl o e1=>LG.rec (λa e2 e3=>⟨a,e2,CO.mono M0 (λ_ e4=>e4) e3⟩) (x.objs l o e1),ev.notin (Heap.get?_push_of_some _ hoL) hs.loff,hs.lbase,hs.ltab,hs.scope,hs.kind,hs.glb,hs.blt,
  λy l e1=>(hs.cells y l e1).imp λ_ e=>e.imp_left (M1.2 _ _),⟨m,hn2,λy v e1=>(hl y v e1).mono M1⟩,Nat.le_trans hs.low ev.kle,λa ha=>(x.hid a (hh'▸ .tail _ ha)).imp_right λq=>⟨q.pl,(hs.hid a ha).2.loc,q.base,q.nt⟩⟩,ev',rfl,sh,rfl⟩,M0⟩
theorem St.back0(hs:St AA c e as s.heap){E:Env}(h2:E.locals=s.heap.objs.size)
  (g:Go AA E 0 c0 ⟨[],e.locals::(as.hid++as.pl)⟩ {s with heap:=s.heap.push {cls:= .type T,data:= .dict #[]}} c2 as2 s2):
  Go AA e as.pl.length c as s c as s2/\OS s2.heap as2 s2.heap as/\∀a∈as2.pl,as.off a:=by
 obtain⟨m,hn,hl⟩:=id hs.loc;obtain⟨x,ev,hh,sh,lo⟩:=g;have hh':as2.hid=e.locals::(as.hid++as.pl):=hh;have ks:∀a o,s.heap.get? a=some o->s2.heap.get? a=some o:=λa o e1=>ev.same a o (Heap.get?_push_of_some _ e1) (λq=>(nomatch q)) (h2▸Nat.ne_of_lt (Heap.lt_size e1)) True.intro;have inP:∀{a},a∈as.pl->a∈as2.hid:=λq=>hh'▸ .tail _ (List.mem_append_right _ q);have inH:∀{a},a∈as.hid->a∈as2.hid:=λq=>hh'▸ .tail _ (List.mem_append_left _ q);exact⟨hs.stepS ⟨rfl,Nat.le_refl _,λa o e1 _ _ _=>ks a o e1,λa o e1=>⟨o,ks a o e1⟩,λa e1 e2=>absurd e1 e2⟩ rfl rfl rfl rfl (λM l o e1=>LG.rec (λa e2 e3=>⟨a,e2,CO.mono M (λo' e4=>ks a o' e4) e3⟩) (hs.objs l o e1)) (λM=>⟨m,hn.at' λo e=>ks _ o e,λy v e1=>(hl y v e1).mono M⟩) sh x.tabx,
  λa o e1 h1 _=>⟨e1,λq=>h1.2.1 (inP q),λq=>h1.2.1 (inH q),h1.2.2⟩,λa ha=>⟨λq=>(x.hid a (inP q)).2.pl ha,λq=>(x.hid a (inH q)).2.pl ha,True.intro⟩⟩
noncomputable def WV(fd:FD):Bool:=(fd.scope.kind== .function)&& !fd.scope.isCoroutine&& !fd.scope.isGenerator
noncomputable def QR(fd:FD):Bool:=WV fd&& !FN fd.scope
theorem Vi{fd:FD}(h:QR fd=true):WV fd=true:=(Bool.and_eq_true _ _▸h).1
theorem Ws{fd:FD}(h:WV fd=true):fd.scope.kind= .function:=eq_of_beq (BG (BG h).1).1
theorem C5{fd:FD}(h:QR fd=true):fd.scope.kind= .function:=Ws (Vi h)
theorem Lf{fd:FD}(h:QR fd=true){P:Prop}(q:FN fd.scope=true):P:=ME ((congrArg (! ·) q).symm.trans (BG h).2)
inductive LJ(h:Heap)(a:Nat)(fd:FD)(clos:List (Str×Addr)):Prop
 |mk (o:Obj) (f:FuncData) (h1:h.get? a=some o) (h2:o.data= .func f) (ff:C4 fd f) (clo:f.closure=clos) (code:h.CodeRec f.code f.qualname) (bd:KG fd.params):LJ h a fd clos
structure LK(A:Around)(n:Nat):Prop where
 here:A.depth<1000
 body:∀env,(FN env.scope=true->A.frames=some []/\env.frame=some env.locals)->AL (A.deeper env) env n
theorem TY{env:Env}(lk:FN env.scope=true->A.frames=some []/\env.frame=some env.locals)(h:FN env.scope=true):(A.deeper env).frames=some [env]/\env.frame=some env.locals:=⟨by show A.frames.map _=_;rw[(lk h).1];rfl,(lk h).2⟩
theorem AL.call(hr:AL A e (n+1)):LK A n:=
 ⟨by have:=hr.depth;exact oD this,λenv lk=>⟨by have:=hr.depth;show A.depth+1+2*n+50<=990;exact oD this,by have:=hr.units;show A.units+3+20*n+100<=9000;exact oD this,hr.quiet,TY lk⟩⟩
theorem St.noLimit(T:BH AA)(hs:St AA c e as s.heap):s.heap.NoLimit:=by obtain⟨mc,⟨o,es,ep,h1,h2⟩,h3⟩:=T.lim;exact⟨mc,⟨o,es,ep,hs.old T _ _ h1,h2⟩,h3⟩
noncomputable def mS:Flow->Value
 | .ret v=>v
 |_=> .none
theorem dH(T:BH AA)(hr:LK A n){fd:FD}{clos:List (Str×Addr)}(F:LJ s.heap a fd clos)(ok:WV fd=true)(lk:FN fd.scope=true->A.frames=some []){acl:List (Str×Nat)}{vs:List AV}
  (h0:∀E:Env,E.scope=fd.scope->E.locals=s.heap.objs.size->E.globals=mainGlobals->E.builtins=builtinsNs->E.cells=clos->St AA ⟨⟨fd.scope,[],acl⟩,st0,lo0⟩ E as0 (s.heap.push {cls:= .type "frame",data:= .dict #[]}))
  (cv:CVs (s.heap.push {cls:= .type "frame",data:= .dict #[]}) as0 vs us)
  (hb:GN ⟨⟨fd.scope,[],FX st0.length fd.scope.names acl⟩,CN st0 fd.scope.names,lo0⟩ (params fd) vs=some c')
  (k:∀(E:Env) as1 s1,E.locals=s.heap.objs.size->(∀o f,s.heap.get? a=some o->o.data= .func f->E.code=f.code)->E.frame=some E.locals->E.scope=fd.scope->Go AA E as0.pl.length ⟨⟨fd.scope,[],acl⟩,st0,lo0⟩ as0 {s with heap:=s.heap.push {cls:= .type "frame",data:= .dict #[]}} c' as1 s1->AL (A.deeper E) E n->
   wpAny (model pw AA.w) (A.deeper E) (execs fd.body E) (λfl s2=>P (mS fl) s2) (λx s2=>wpAny (model pw AA.w) (A.deeper E) (leaving E x) (λ_ s3=>X x s3) X s2) s1):
  codeAny (model pw AA.w) A (.call (.ref a) ⟨us,[]⟩) (λr s'=>match r with| .ok (.ret v)=>P v s'| .ok _=>False| .error x=>X x s') s:=by
 obtain⟨o,f,h1,h2,⟨h3,h4,h5,h6,h7,h8⟩,h9,h10,bd⟩:=F;obtain⟨o1,o3⟩:=BG ok;obtain⟨o1,o2⟩:=BG o1;refine codeAny_call_function hr.here h1 h2 (h3▸(Bool.not_eq_true' _).mp o2) (h3▸(Bool.not_eq_true' _).mp o3) h4 h10 ?_;have hl:(fd.params.args.map (·.arg)).length=us.length:=(gV hb).trans (CVs.length cv).symm;rw[bd f us h5 h8 hl,h3,h6,h7,h9];refine wpAny_pure (wpAny_mono (QQ (names:=params fd) (P:=λenv s'=>s'.heap.NoLimit/\codeAny (model pw AA.w) A (.func fd.body env) (λr s'=>match r with| .ok (.ret v)=>P v s'| .ok _=>False| .error x=>X x s') s') rfl (h0 _ rfl rfl rfl rfl rfl) cv hb λas1 s1 env he g=>?_) (λ_ _ q=>q) λ_ _ x=>x.elim);obtain⟨cells,rfl⟩:=he;refine⟨g.st.noLimit T,codeAny_func (wpAny_mono (k _ as1 s1 rfl (λo' f' e1 e2=>congrArg FuncData.code (PySem.Data.func.inj (h2.symm.trans ((congrArg Obj.data (sj (h1.symm.trans e1))).trans e2)))) rfl rfl g (hr.body _ λh=>⟨lk h,rfl⟩)) (λfl s2 q=>?_) λ_ _ x=>x)⟩;cases fl<;>exact q
theorem TZ(T:BH AA)(hr:LK A n){fd:FD}{clos:List (Str×Addr)}(F:LJ s.heap a fd clos)(ok:WV fd=true)(lk:FN fd.scope=true->A.frames=some []){acl:List (Str×Nat)}{vs:List AV}
  (h0:∀E:Env,E.scope=fd.scope->E.locals=s.heap.objs.size->E.globals=mainGlobals->E.builtins=builtinsNs->E.cells=clos->St AA ⟨⟨fd.scope,[],acl⟩,st0,lo0⟩ E as0 (s.heap.push {cls:= .type "frame",data:= .dict #[]}))
  (cv:CVs (s.heap.push {cls:= .type "frame",data:= .dict #[]}) as0 vs us)
  (hb:GN ⟨⟨fd.scope,[],FX st0.length fd.scope.names acl⟩,CN st0 fd.scope.names,lo0⟩ (params fd) vs=some c')
  (k:∀(E:Env) as1 s1,E.locals=s.heap.objs.size->(∀o f,s.heap.get? a=some o->o.data= .func f->E.code=f.code)->E.frame=some E.locals->E.scope=fd.scope->Go AA E as0.pl.length ⟨⟨fd.scope,[],acl⟩,st0,lo0⟩ as0 {s with heap:=s.heap.push {cls:= .type "frame",data:= .dict #[]}} c' as1 s1->AL (A.deeper E) E n->
   wpAny (model pw AA.w) (A.deeper E) (execs fd.body E) (λfl s2=>P (mS fl) s2) (λx s2=>wpAny (model pw AA.w) (A.deeper E) (leaving E x) (λ_ s3=>X x s3) X s2) s1):
  wpAny (model pw AA.w) A (PySem.call (.ref a) us) P X s:=wpAny_call (dH T hr F ok lk h0 cv hb k)
theorem mT(T:BH AA)(ih:Ok AA n)(hr:LK A n)(ht:1<=s.toks){fd:FD}{clos:List (Str×Addr)}(F:LJ s.heap a fd clos)(ok:WV fd=true)(lk:FN fd.scope=true->A.frames=some []){acl:List (Str×Nat)}{vs:List AV}
  (h0:∀E:Env,E.scope=fd.scope->E.locals=s.heap.objs.size->E.globals=mainGlobals->E.builtins=builtinsNs->E.cells=clos->St AA ⟨⟨fd.scope,[],acl⟩,st0,lo0⟩ E as0 (s.heap.push {cls:= .type "frame",data:= .dict #[]}))
  (cv:CVs (s.heap.push {cls:= .type "frame",data:= .dict #[]}) as0 vs us)(hlo:lo0<=as0.pl.length)
  (hb:GN ⟨⟨fd.scope,[],FX st0.length fd.scope.names acl⟩,CN st0 fd.scope.names,lo0⟩ (params fd) vs=some c')(h:AX n (.execs fd.body) c' Q)
  (k:∀(E:Env) c2 as2 s2 fl af,E.locals=s.heap.objs.size->Go AA E lo0 ⟨⟨fd.scope,[],acl⟩,st0,lo0⟩ as0 {s with heap:=s.heap.push {cls:= .type "frame",data:= .dict #[]}} c2 as2 s2->CF s2.heap as2 af fl->Q (.f af) c2->P (mS fl) s2):
  wpAny (model pw AA.w) A (PySem.call (.ref a) us) P no s:=by
 refine TZ T hr F ok lk h0 cv hb λE as1 s1 e1 _ _ _ g hr1=>?_;refine wpAny_mono (ih.Ss _ _ _ h _ _ _ _ g.st hr1 (g.tk ht)) (λfl s2 x=>CP.rec (λc2 as2 af g2 cf q=>k _ c2 as2 s2 fl af e1 ((g.le hlo).trans g2 (Nat.le_of_eq g.lo.symm)) cf q) x) λ_ _ x=>x.elim
theorem FC{α β:Type}[BEq α][LawfulBEq α]{l:List (α×β)}{a:α}{b:β}(h:l.lookup a=some b):(a,b)∈l:=by
 induction l with
 |nil=>exact BJ h
 |cons p r ih=>
  replace h:=(List.lookup_cons (k:=p.1) (b:=p.2) ..).symm.trans h;cases hb:a==p.1 with
  |true=>rw[hb]at h;exact(Prod.ext (beq_iff_eq.mp hb) (sj h).symm:(a,b)=p)▸List.mem_cons_self
  |false=>rw[hb]at h;exact List.mem_cons_of_mem _ (ih h)
theorem IG{fd:FD}(h:DD a=some fd):QR fd=true:=by
 obtain⟨p,h1,rfl⟩:=AZ h;have key:∀p∈TI.map (·.2),QR (KF (if p.1 then DA p.2 else KY p.2))=true:=by
  have:(TI.map (·.2)).all (λp=>QR (KF (if p.1 then DA p.2 else KY p.2)))=true:=by decide+kernel
  exact CW this
 exact key p (List.mem_map.mpr ⟨(a,p),FC h1,rfl⟩)
theorem qA:∀p∈TV.map (·.2),KG (KF (if p.1 then DA p.2 else KY p.2)).params:=by
 unfold TV TI
 repeat (refine List.forall_mem_cons.mpr ⟨?_,?_⟩;first|exact mP (by decide+kernel) λ_ _=>by kernel_rfl|exact mQ (by decide+kernel) λ_ _ _=>by kernel_rfl|exact mR (by decide+kernel) λ_ _ _ _=>by kernel_rfl|exact mO (by decide+kernel) λ_=>by kernel_rfl)
 exactλ_ h=>nomatch h
theorem wP:KG BD.params:=by first|exact mP (by decide+kernel) λ_ _=>by kernel_rfl|exact mQ (by decide+kernel) λ_ _ _=>by kernel_rfl|exact mR (by decide+kernel) λ_ _ _ _=>by kernel_rfl|exact mO (by decide+kernel) λ_=>by kernel_rfl
theorem Ih{fd:FD}(h:cS a=some fd):KG fd.params:=by obtain⟨p,h1,rfl⟩:=AZ h;exact qA p (List.mem_map.mpr ⟨(a,p),FC h1,rfl⟩)
theorem wQ:QR BD=true:=by decide+kernel
theorem cT.is{fd:FD}(x:cT h a fd)(k:∀b o,h.get? b=some o->h'.get? b=some o)(bd:KG fd.params):LJ h' a fd []:=by obtain⟨o,f,cd,oc,fs,t,h1,_,h2,ff,h10,h11,h13,h14,h15⟩:=x;exact⟨o,f,k _ _ h1,h2,ff,h10,⟨cd,oc,fs,t,h11,k _ _ h13,h14,h15⟩,bd⟩
theorem JJ(T:BH AA)(hs:St AA c e as s.heap){fd:FD}(h:cS a=some fd):LJ s.heap a fd []:=(T.fns a fd h).is (hs.old T) (Ih h)
theorem LL(T:BH AA)(hs:St AA c e as s.heap){fd:FD}(h:DD a=some fd):LJ s.heap a fd []:=JJ T hs (ZG h)
theorem AI.ofGo(g:Go AA e as.pl.length c as s c' as' s'){a:AV}(cv:CV s'.heap as' a v)(q:Q (.v a) c'):AI AA e c as s Q v s':=⟨c',as',a,g,cv,q⟩
noncomputable def Dq(h:Heap)(as:AH)(af:ND)(v:Value):Prop:=match af with
 | .ret z=>CV h as z v
 | .next=>v= .none
 | .brk=>v= .none
 | .cont=>v= .none
theorem Wt(M:BR h as h as'){af:ND}{fl:Flow}(cf:CF h as af fl):Dq h as' af (mS fl):=by
 cases af with
 |ret z=>obtain⟨v,rfl,cv⟩:=cf;exact CV.mono M _ _ cv
 |next=>obtain rfl:fl= .next:=cf;rfl
 |brk=>obtain rfl:fl= .brk:=cf;rfl
 |cont=>obtain rfl:fl= .cont:=cf;rfl
theorem dI(T:BH AA)(hs:St AA c e as s.heap)(hr:LK A n){fd:FD}{clos:List (Str×Addr)}(F:LJ s.heap a fd clos)(ok:QR fd=true){acl:List (Str×Nat)}{vs:List AV}{K:ND->AC->Prop}
  (hc:∀x l,acl.lookup x=some l->∃a,as.pl[l]? =some a/\clos.lookup x=some a)(cv:CVs s.heap as vs us)(hb:DS fd acl vs c.st c.st.length=some c')
  (body:∀(E:Env) as1 s1,(∀o f,s.heap.get? a=some o->o.data= .func f->E.code=f.code)->St AA c' E as1 s1.heap->s.toks<=s1.toks->AL (A.deeper E) E n->wpAny (model pw AA.w) (A.deeper E) (execs fd.body E) (CP AA E c' as1 s1 (VY K)) no s1)
  (k:∀c2 as2 s2 af v,Go AA e as.pl.length c as s ⟨c.fr,c2.st,c.lo⟩ as2 s2->K af c2->Dq s2.heap as2 af v->P v s2):
  codeAny (model pw AA.w) A (.call (.ref a) ⟨us,[]⟩) (λr s'=>match r with| .ok (.ret v)=>P v s'| .ok _=>False| .error x=>no x s') s:=by
 have fr:∀E:Env,E.scope=fd.scope->E.locals=s.heap.objs.size->E.globals=mainGlobals->E.builtins=builtinsNs->E.cells=clos->_:=λE e1 e2 e3 e4 e5=>
  hs.frame (T:="frame") (acl:=acl) e1 e2 e3 e4 (C5 ok) (by rw[e5];exact hc)
 have M:=(fr {scope:=fd.scope,locals:=s.heap.objs.size,globals:=mainGlobals,cells:=clos,qual:="",func:=none,code:= .none,frame:=none,builtins:=builtinsNs} rfl rfl rfl rfl rfl).2;rw[DS,<-hs.len]at hb;refine dH T hr F (Vi ok) (Lf ok) (λE e1 e2 e3 e4 e5=>(fr E e1 e2 e3 e4 e5).1) (CVs.mono M _ _ cv) (by rw[<-hs.len];exact hb) λE as1 s1 e1 ec _ _ g0 hr1=>?_;refine wpAny_mono (body E as1 s1 ec g0.st g0.sh.tk hr1) (λfl s2 x=>CP.rec (λc2 as2 af g2 cf q=>?_) x) λ_ _ x=>x.elim;obtain⟨g',M2⟩:=hs.back e1 (g0.trans g2 (Nat.le_of_eq g0.lo.symm));exact k c2 ⟨as2.pl,as.hid⟩ s2 af _ g' q (Wt M2 cf)
theorem OT(T:BH AA)(hs:St AA c e as s.heap)(hr:LK A n){fd:FD}{clos:List (Str×Addr)}(F:LJ s.heap a fd clos)(ok:QR fd=true){acl:List (Str×Nat)}{vs:List AV}{K:ND->AC->Prop}
  (hc:∀x l,acl.lookup x=some l->∃a,as.pl[l]? =some a/\clos.lookup x=some a)(cv:CVs s.heap as vs us)(hb:DS fd acl vs c.st c.st.length=some c')
  (body:∀(E:Env) as1 s1,(∀o f,s.heap.get? a=some o->o.data= .func f->E.code=f.code)->St AA c' E as1 s1.heap->s.toks<=s1.toks->AL (A.deeper E) E n->wpAny (model pw AA.w) (A.deeper E) (execs fd.body E) (CP AA E c' as1 s1 (VY K)) no s1)
  (k:∀c2 as2 s2 af v,Go AA e as.pl.length c as s ⟨c.fr,c2.st,c.lo⟩ as2 s2->K af c2->Dq s2.heap as2 af v->P v s2):
  wpAny (model pw AA.w) A (PySem.call (.ref a) us) P no s:=wpAny_call (dI T hs hr F ok hc cv hb body k)
theorem mU(T:BH AA)(ih:Ok AA n)(hs:St AA c e as s.heap)(hr:LK A n)(ht:1<=s.toks){fd:FD}{clos:List (Str×Addr)}(F:LJ s.heap a fd clos)(ok:QR fd=true){acl:List (Str×Nat)}{vs:List AV}{K:ND->AC->Prop}
  (hc:∀x l,acl.lookup x=some l->∃a,as.pl[l]? =some a/\clos.lookup x=some a)(cv:CVs s.heap as vs us)(hb:DS fd acl vs c.st c.st.length=some c')(h:AX n (.execs fd.body) c' (VY K))
  (k:∀c2 as2 s2 af v,Go AA e as.pl.length c as s ⟨c.fr,c2.st,c.lo⟩ as2 s2->K af c2->Dq s2.heap as2 af v->P v s2):
  wpAny (model pw AA.w) A (PySem.call (.ref a) us) P no s:=
 OT T hs hr F ok hc cv hb (λE as1 s1 _ x tk r=>ih.Ss _ _ _ h _ _ _ _ x r (Nat.le_trans ht tk)) k
theorem JK(T:BH AA)(ih:Ok AA n)(hs:St AA c e as s.heap)(hr:AL A e (n+1))(ht:1<=s.toks){fd:FD}{clos:List (Str×Addr)}(F:LJ s.heap a fd clos)(ok:QR fd=true){acl:List (Str×Nat)}{vs:List AV}
  (hc:∀x l,acl.lookup x=some l->∃a,as.pl[l]? =some a/\clos.lookup x=some a)(cv:CVs s.heap as vs us)(hb:DS fd acl vs c.st c.st.length=some c')(h:AX n (.execs fd.body) c' (GO c Q)):
  wpAny (model pw AA.w) A (PySem.call (.ref a) us) (AI AA e c as s Q) no s:=by
 refine mU T ih hs hr.call ht F ok hc cv hb h λc2 as2 s2 af v g q cv=>?_;cases af with
 |ret z=>exact .ofGo g cv q
 |next=>exact .ofGo (a:= .none) g cv q
 |brk=>exact q.elim
 |cont=>exact q.elim
theorem Lg{E:Env}{y:AV}(x:St AA c2 E as2 s.heap)(M2:OS s.heap as2 s.heap as)(M3:∀a∈as2.pl,as.off a)(cv:CV s.heap as2 z v)(hy:frz c2.st z=some y):CV s.heap as y v:=by
 rcases BM hy with⟨l,h1,hy⟩|⟨_,hy⟩
 .obtain⟨o,h2,hy⟩:=AD hy;obtain⟨xs,h3,hy⟩:=AD hy;obtain⟨hf,hy⟩:=AS hy;obtain⟨b,e1,e2⟩:=(CT h1▸cv:CV s.heap as2 (.loc l) v);obtain⟨us,h4,h5⟩:=x.at e1 (h2.trans (congrArg some (MG h3)));exact sj hy▸⟨b,us,e2,M3 b (List.mem_of_getElem? e1),h4,CVs.frz M2 hf h5⟩
 .obtain⟨hf,hy⟩:=AS hy;exact sj hy▸CV.frz M2 _ _ hf cv
theorem qB(T:BH AA)(ih:Ok AA n)(hs:St AA c e as s.heap)(hr:AL A e (n+1))(ht:1<=s.toks){fd:FD}(F:LJ s.heap a fd [])(ok:QR fd=true){vs:List AV}(hf:frees vs=true)
  (cv:CVs s.heap as vs us)(hb:DS fd [] vs [] 0=some c')(h:AX n (.execs fd.body) c' (LE c Q)):
  wpAny (model pw AA.w) A (PySem.call (.ref a) us) (AI AA e c as s Q) no s:=by
 have fr:∀E:Env,E.scope=fd.scope->E.locals=s.heap.objs.size->E.globals=mainGlobals->E.builtins=builtinsNs->_:=λE e1 e2 e3 e4=>
  hs.frame0 (T:="frame") e1 e2 e3 e4 (C5 ok)
 have M:=(fr {scope:=fd.scope,locals:=s.heap.objs.size,globals:=mainGlobals,cells:=[],qual:="",func:=none,code:= .none,frame:=none,builtins:=builtinsNs} rfl rfl rfl rfl).2;refine mT T ih hr.call ht F (Vi ok) (Lf ok) (λE e1 e2 e3 e4 _=>(fr E e1 e2 e3 e4).1) (CVs.frz M hf cv) (Nat.le_refl _) hb h λE c2 as2 s2 fl af e1 g cf q=>?_;obtain⟨g',M2,M3⟩:=hs.back0 e1 g;cases af with
 |ret z=>obtain⟨v,rfl,cv⟩:=cf;obtain⟨y,hy,q⟩:=AG q;exact .ofGo (a:=y) g' (Lg g.st M2 M3 cv hy) q
 |next=>obtain rfl:fl= .next:=cf;exact .ofGo (a:= .none) g' rfl q
 |brk=>exact q.elim
 |cont=>exact q.elim
theorem AI.ext(hs:St AA c e as s.heap){t:Nat}(hk:∀a o,s.heap.get? a=some o->h'.get? a=some o){a:AV}(cv:CV h' as a v)(q:Q (.v a) c)(ht:s.toks<=t):AI AA e c as s Q v {s with heap:=h',toks:=t}:=
 .ofGo (hs.ext hk t) cv q
theorem CVs.ints:∀{vs:List Value} {is:List Int},CVs h as xs vs->GK xs=some is->IntsAre vs is:=by
 induction xs with
 |nil=>intro vs is e h;obtain rfl:=e;obtain rfl:=sj h;exact .nil
 |cons x r ih=>intro vs is e h;obtain⟨v,t,rfl,h1,h2⟩:=e;obtain⟨i,h3,h⟩:=AD h;obtain⟨is',h4,rfl⟩:=AZ h;obtain⟨t',rfl⟩:=(AM h3▸h1:CV _ as (.int i) v);exact .cons _ _ (ih h2 h4)
theorem Lh:∀{is:List Int},GK xs=some is->is.length=xs.length:=by
 induction xs with
 |nil=>exactλh=>congrArg _ (sj h).symm
 |cons x r ih=>intro is h;obtain⟨i,h3,h⟩:=AD h;obtain⟨is',h4,rfl⟩:=AZ h;exact congrArg (· +1) (ih h4)
theorem Dr{l:Addr}{ns:List Int}{w:World}{E:Value->Shared->Prop}(hh:A.handled=none)(hl:s.heap.IsList l vs.toArray)(hi:IntsAre vs ns)
  (h:∀h' tk t',(∀b o,s.heap.get? b=some o->h'.get? b=some o)->P (.int ns.sum t') {s with heap:=h',toks:=tk}):wpAny (model pw w) A (PySem.call (.builtin "sum") [.ref l]) P E s:=by
 obtain⟨xs,e⟩:=hi.allInts.items;have hn:ns=numsOf (intItems xs).toList:=by refine e▸?_;exact hi.numsOf.symm
 rw[nums_intItems]at hn;simp only[e]at hl;refine sum_intListG hh hl λh' tk t' hk=>?_;have:=h h' tk t' hk;rw[hn]at this;rw[preSum_eq,List.take_of_length_le (by simp)];exact this
theorem ZN{a:AV}(x:CVs h as [a] vs):∃v,vs=[v]/\CV h as a v:=
 x.rec λv t e p r=>⟨v,e.trans (congrArg (v:: ·) r),p⟩
theorem Wu{a b:AV}(x:CVs h as [a,b] vs):∃v u,vs=[v,u]/\CV h as a v/\CV h as b u:=
 x.rec λv t e p r=>(ZN r).elim λu q=>⟨v,u,e.trans (congrArg (v:: ·) q.1),p,q.2⟩
theorem mV{s:List Nat}:∀{vs:List Value},vs.length=s.length->(∀(j:Nat) (v:Value) (c:Nat),vs[j]? =some v->s[j]? =some c->∃u,v= .str ⟨#[c]⟩ u)->CVs h as (AK s) vs:=by
 induction s with
 |nil=>exactλe _=>List.length_eq_zero_iff.mp e
 |cons c r ih=>intro vs e k;obtain⟨v,t,rfl,e1⟩:=TC e;exact⟨v,t,rfl,k 0 v c rfl rfl,ih e1 λj v c h1 h2=>k (j+1) v c h1 h2⟩
theorem Ds(hs:St AA c e as s.heap)(hr:AL A e n){id:String}{a:AV}(cv:CV s.heap as a v)(h:Qb c.st id a=some z)(q:Q (.v z) c)
  (sorted:∀(x:List Nat) t,x.length<64->Q (.v (.flist ((DH (x.map λ(c:Nat)=>(c:Int))).map λi=> .str [i.toNat]))) c->wpAny (model pw AA.w) A (PySem.call (.builtin "sorted") [.str ⟨x.toArray⟩ t]) (AI AA e c as s Q) no s):
  wpAny (model pw AA.w) A (PySem.call (.builtin id) [v]) (AI AA e c as s Q) no s:=by
 rcases KE h with⟨rfl,h⟩|⟨_,h⟩
 .rcases BM h with⟨x,hx,h⟩|⟨_,h⟩
  .obtain⟨hl,h⟩:=AS h;obtain⟨t,rfl⟩:=(AU hx▸cv:CV _ _ (.str x) v);exact SBL.len (Int.ofNat_lt.mpr (Nat.lt_of_le_of_lt hl (by decide+kernel))) (AI.here (a:= .int _) hs ⟨_,rfl⟩ (sj h▸q))
  .obtain⟨xs,hx,h⟩:=AD h;obtain⟨hl,h⟩:=AS h;obtain⟨l,us,rfl,h1,h2⟩:=ET hs cv hx;have hn:=CVs.length h2;refine len_list h1 (Int.ofNat_lt.mpr (Nat.lt_of_le_of_lt (hn▸hl) (by decide+kernel))) (AI.here (a:= .int us.length) hs ⟨_,rfl⟩ ?_);rw[hn];exact sj h▸q
 rcases KE h with⟨rfl,h⟩|⟨_,h⟩
 .obtain⟨x,hx,h⟩:=AD h;obtain⟨k,hk,h⟩:=AZ h;obtain⟨t,rfl⟩:=(AU hx▸cv:CV _ _ (.str x) v);obtain rfl:=CX hk;exact P.ord_of_char (AI.here (a:= .int _) hs ⟨_,rfl⟩ (‹AV.int _=z›▸q))
 rcases KE h with⟨rfl,h⟩|⟨_,h⟩
 .obtain⟨x,hx,h⟩:=AD h;obtain⟨k,hk,h⟩:=AD h;obtain⟨hb,h⟩:=TA h;obtain⟨t,rfl⟩:=(AM hx▸cv:CV _ _ (.int x) v);obtain⟨e1,_⟩:=JX hk;have hb:(k:Int)<=1114111:=Int.ofNat_le.mpr (Nat.le_of_lt_succ (Nat.le_of_ble_eq_true hb));refine P.chr_of_int ?_ (AI.here (a:= .str [x.toNat]) hs ⟨_,rfl⟩ (by rw[e1];exact sj h▸q));rw[e1,decide_eq_false (Int.not_lt.mpr (Int.natCast_nonneg k)),decide_eq_false (Int.not_lt.mpr hb)];rfl
 rcases KE h with⟨rfl,h⟩|⟨_,h⟩
 .obtain⟨is,hx,rfl⟩:=AZ h;obtain⟨ys,h3,h4⟩:=AD hx;obtain⟨l,us,rfl,h1,h2⟩:=ET hs cv h3;exact BI (Dr hr.quiet h1 (CVs.ints h2 h4) λh' tk t' hk=>AI.ext (a:= .int _) hs hk ⟨_,rfl⟩ q)
 .obtain⟨rfl,h⟩:=AS h;obtain⟨x,hx,h⟩:=AD h;obtain⟨hl,h⟩:=NP h;obtain⟨t,rfl⟩:=(AU hx▸cv:CV _ _ (.str x) v);exact sorted _ _ (Nat.lt_of_not_le hl) (sj h▸q)
theorem Dt(hs:St AA c e as s.heap)(hr:AL A e n){id:String}{a b:AV}(cv:CV s.heap as a v)(cu:CV s.heap as b u)(h:Qc id a b=some z)(q:Q (.v z) c):
  wpAny (model pw AA.w) A (PySem.call (.builtin id) [v,u]) (AI AA e c as s Q) no s:=by
 obtain⟨i,hx,h⟩:=AD h;obtain⟨j,hy,h⟩:=AD h;obtain⟨t,rfl⟩:=(AM hx▸cv:CV _ _ (.int i) v);obtain⟨t',rfl⟩:=(AM hy▸cu:CV _ _ (.int j) u);rcases KE h with⟨rfl,h⟩|⟨_,h⟩
 .refine BI (min_two_ints hr.quiet λh' tk hk=>AI.ext (a:= .int _) hs hk ?_ (sj h▸q));by_cases hc:j<i
  .rw[if_pos hc,Int.min_eq_right (Int.le_of_lt hc)];exact⟨_,rfl⟩
  .rw[if_neg hc,Int.min_eq_left (Int.not_lt.mp hc)];exact⟨_,rfl⟩
 .obtain⟨rfl,h⟩:=AS h;refine BI (max_two_ints hr.quiet λh' tk hk=>AI.ext (a:= .int _) hs hk ?_ (sj h▸q));by_cases hc:j>i
  .rw[if_pos hc,Int.max_eq_right (Int.le_of_lt hc)];exact⟨_,rfl⟩
  .rw[if_neg hc,Int.max_eq_left (Int.not_lt.mp hc)];exact⟨_,rfl⟩
theorem Li(hs:St AA c e as s.heap)(hr:AL A e n){id:String}(cv:CVs s.heap as xs vs)(h:blt c.st id xs=some z)(q:Q (.v z) c)
  (sorted:∀(x:List Nat) t,x.length<64->Q (.v (.flist ((DH (x.map λ(c:Nat)=>(c:Int))).map λi=> .str [i.toNat]))) c->wpAny (model pw AA.w) A (PySem.call (.builtin "sorted") [.str ⟨x.toArray⟩ t]) (AI AA e c as s Q) no s):
  wpAny (model pw AA.w) A (PySem.call (.builtin id) vs) (AI AA e c as s Q) no s:=by
 rcases BM h with⟨x,hx,h⟩|⟨_,h⟩
 .obtain⟨v,rfl,cv1⟩:=ZN (CX hx▸cv);exact Ds hs hr cv1 h q sorted
 .obtain⟨x,hx,h⟩:=AD h;obtain⟨v,u,rfl,cv1,cu⟩:=Wu (NN hx▸cv);exact Dt hs hr cv1 cu h q
theorem wR(hs:St AA c e as s.heap){id:String}(cv:CVs s.heap as xs vs)(h:typ id xs=some z)(q:Q (.v z) c):
  wpAny (model pw AA.w) A (PySem.call (.type id) vs) (AI AA e c as s Q) no s:=by
 obtain⟨x,hx,h⟩:=AD h;obtain⟨i,hi,h⟩:=AD h;obtain⟨v,rfl,cv1⟩:=ZN (CX hx▸cv);obtain⟨t,rfl⟩:=(AM hi▸cv1:CV _ _ (.int i) v);rcases KE h with⟨rfl,h⟩|⟨_,h⟩
 .exact call_int_int (AI.here0 (a:= .int _) hs ⟨_,rfl⟩ (sj h▸q))
 .obtain⟨rfl,h⟩:=AS h;exact call_range_1 (AI.ext (a:= .range _) hs (λ_ _ e1=>Heap.get?_push_of_some _ e1) ⟨_,_,_,_,rfl,hs.offNew (Nat.le_refl _),IsRange.new ..⟩ (sj h▸q) (by simp+arith))
theorem dJ(hs:St AA c e as s.heap)(hr:AL A e n){x:List Nat}{t:Tok}(hx:x.length<=1000)(q:Q (.v (.loc c.st.length)) (c.add (.list (AK x)))):
  wpAny (model pw AA.w) A (PySem.call (.type "list") [.str ⟨x.toArray⟩ t]) (AI AA e c as s Q) no s:=by
 obtain⟨m,lo⟩:=hs.locs;refine BI (call_list_str hr.quiet _ _ (λh' tk acc n hk ho hi htk=>?_) (by simp;rw[sizeLine_eq];exact oA hx));have g:=hs.place (o:= .list (AK x)) lo (lo.ns.at' λo e=>hk _ o e) (λa o e1 _=>hk a o e1) (Nat.le_refl _) (λ_=>⟨acc.toList,⟨n,by exact ho⟩,mV (by exact hi.1) λj v c h1 h2=>?_⟩) tk
 .exact .ofGo (a:= .loc _) g ⟨_,hs.len▸AH.last,rfl⟩ q
 .obtain⟨c',u,h3,h4⟩:=hi.2 j v (by simpa using h1);have:x[j]? =some c':=by simpa using h3
  rw[h2]at this;(replace this:=sj this;subst this);exact⟨u,h4⟩
theorem WW(x y:Int)(r:List Int):FB x (y::r)=if x<=y then x::y::r else y::FB x r:=rfl
theorem WX(x:Int)(l:List Int):(FB x l).Perm (x::l):=by
 induction l with
 |nil=>exact .refl _
 |cons y r ih=>
  rw[WW];by_cases h:x<=y
  .rw[if_pos h]
  .rw[if_neg h];exact(ih.cons y).trans (.swap x y r)
theorem sortI_perm(l:List Int):(DH l).Perm l:=by
 induction l with
 |nil=>exact .refl _
 |cons x r ih=>exact(WX x (DH r)).trans (ih.cons x)
theorem dK(x:Int)(l:List Int)(h:l.Pairwise (· <= ·)):(FB x l).Pairwise (· <= ·):=by
 induction l with
 |nil=>exact List.pairwise_singleton _ _
 |cons y r ih=>
  obtain⟨h1,h2⟩:=List.pairwise_cons.mp h;rw[WW];by_cases hxy:x<=y
  .rw[if_pos hxy];exact List.pairwise_cons.mpr ⟨λz hz=>(AN hz).elim (λe=>e▸hxy) λhz=>Int.le_trans hxy (h1 z hz),h⟩
  .rw[if_neg hxy];exact List.pairwise_cons.mpr ⟨λz hz=>(AN ((WX x r).mem_iff.mp hz)).elim (λe=>e▸Int.le_of_lt (Int.lt_of_not_ge hxy)) (h1 z),ih h2⟩
theorem OU(l:List Int):(DH l).Pairwise (· <= ·):=by
 induction l with
 |nil=>exact .nil
 |cons x r ih=>exact dK x _ ih
theorem NG{l:List Int}:∀{l':List Int},l.Perm l'->l.Pairwise (· <= ·)->l'.Pairwise (· <= ·)->l=l':=by
 induction l with
 |nil=>exactλp _ _=>(List.nil_perm.mp p).symm
 |cons x r ih=>
  intro l' p h h';cases l' with
  |nil=>exact absurd p.length_eq (Nat.succ_ne_zero _)
  |cons y t=>obtain⟨h1,h2⟩:=List.pairwise_cons.mp h;obtain⟨h3,h4⟩:=List.pairwise_cons.mp h';have a1:y<=x:=(AN (p.mem_iff.mp (.head _))).elim (λq=>Int.le_of_eq q.symm) (h3 x);have a2:x<=y:=(AN (p.mem_iff.mpr (.head _))).elim (λq=>Int.le_of_eq q.symm) (h1 y);obtain rfl:=Int.le_antisymm a2 a1;rw[ih p.cons_inv h2 h4]
theorem gW{x:List Nat}:∀{vs:List Value},vs.length=x.length->(∀(j:Nat) (v:Value) (c:Nat),vs[j]? =some v->x[j]? =some c->∃u,v= .str ⟨#[c]⟩ u)->StrsAre vs (x.map λc=>(⟨#[c]⟩:Str)):=by
 induction x with
 |nil=>exactλe _=>List.length_eq_zero_iff.mp e▸ .nil
 |cons c r ih=>intro vs e k;obtain⟨v,t,rfl,e1⟩:=TC e;obtain⟨u,rfl⟩:=k 0 v c rfl rfl;exact .cons _ _ (ih e1 λj v c h1 h2=>k (j+1) v c h1 h2)
theorem gX{x:List Nat}{t:Tok}(hh:A.handled=none)(hx:x.length<64)
  (h:∀s' D out e' (ss:List Str),(∀b o,s.heap.get? b=some o->s'.heap.get? b=some o)->IA s.heap D->s'.heap.get? D=some (seqObj "list" out e')->(s.toks<=s'.toks->Sh s s')->
   StrsAre out.toList ss->ss.Perm (x.map λc=>(⟨#[c]⟩:Str))->sortedS ss=true->P (.ref D) s'):wpAny (model pw AA.w) A (PySem.call (.builtin "sorted") [.str ⟨x.toArray⟩ t]) P no s:=by
 refine Calls.call_function_entry kind_sorted plain_sorted entry_sorted (args_sorted1 _) ?_;unfold Builtin.«sorted»;refine wpAny_bind (m:=checkCount "sorted" 1 1 _) (wpAny_pure ?_);refine wpAny_bind (wpAny_collect_str (A:=A.in1) hh ⟨x.toArray⟩ t (λs1 acc hk hg hd ho hi=>?_) (by rw[sizeLine_eq,List.size_toArray];exact oA (Nat.le_of_lt hx)));have hlen:acc.toList.length=x.length:=by exact hi.1
 have hS:=gW hlen λj v c h1 h2=>by
  obtain⟨c',u,h3,h4⟩:=hi.2 j v (by simpa using h1);have:x[j]? =some c':=by simpa using h3
  rw[h2]at this;(replace this:=sj this;subst this);exact⟨u,h4⟩
 refine wpAny_bind (wpAny_newList ?_ (by rw[sizeLine_eq,hlen];exact oA (Nat.le_of_lt hx)));have hoL:(s1.heap.push (seqObj "list" acc.toList.toArray 0)).get? s1.heap.objs.size=some (seqObj "list" acc.toList.toArray 0):=Heap.get?_push_size _ rfl;have hkk:∀Ov Ow rest,acc.toList=Ov::Ow::rest->keyKind' (Ov::Ow::rest).toArray=pure oneType':=λOv Ow rest e=>keyKind_strs (by rw[<-e];exact hS);have hh2:Heap.get? (s1.heap.push {cls:= .type "list",data:= .seq acc.toList.toArray}) s1.heap.objs.size=some (seqObj "list" acc.toList.toArray 0):=hoL;refine wpAny_bind (wpAny_holding (wpAny_call_entry slot_list_sort ⟨_,hoL,rfl⟩ entry_list_sort (list_sort_treeK strKind_oneLt hh2 hS.keysOf hkk (by exact Nat.lt_of_le_of_lt (Nat.le_of_eq hlen) hx) λst' hp hs=>⟨_,rfl,?_⟩) (args_list_sort _)));obtain⟨ss',h1,h2,h3⟩:=sorted_out_str hS hp hs;obtain⟨e',he⟩:=sortedHeap_at (h:=s1.heap.push (seqObj "list" acc.toList.toArray 0)) (out:=(arrOf st').map (·.2)) hoL;have old:∀b o,s.heap.get? b=some o->(sortedHeap (s1.heap.push (seqObj "list" acc.toList.toArray 0)) s1.heap.objs.size acc.toList ((arrOf st').map (·.2))).get? b=some o:=λb o e1=>by have:=Heap.lt_size (hk b o e1);refine(sortedHeap_old (Nat.ne_of_lt this) ?_).trans (Heap.get?_push_of_some _ (hk b o e1));rw[Heap.size_push];exact Nat.lt_succ_of_lt this
 have fin:=h {s1 with heap:=sortedHeap (s1.heap.push (seqObj "list" acc.toList.toArray 0)) s1.heap.objs.size acc.toList ((arrOf st').map (·.2))} s1.heap.objs.size ((arrOf st').map (·.2)) e' ss' old (λb o q=>Heap.lt_size (hk _ _ q)) he (λkt=>⟨hd,ho,#[],by simp[hg],kt,.empty⟩) h1 h2 h3;exact wpAny_pure ⟨_,rfl,fin⟩
theorem SE(x:List Nat):∀(ss:List Str),(∀y∈ss,∃c∈x,y=⟨#[c]⟩)->sortedS ss=true->(ss.map λy=>((y.cps.toList.headD 0:Nat):Int)).Pairwise (· <= ·)/\ss=(ss.map λy=>((y.cps.toList.headD 0:Nat):Int)).map λi=>(⟨#[i.toNat]⟩:Str):=by
 have ris:∀(ss:List Str) (p:Nat),(∀y∈ss,∃c∈x,y=⟨#[c]⟩)->risingS ⟨#[p]⟩ ss=true->((p:Int)::ss.map λy=>((y.cps.toList.headD 0:Nat):Int)).Pairwise (· <= ·):=by
  intro ss;induction ss with
  |nil=>intro p _ _;exact List.pairwise_singleton _ _
  |cons y r ih=>
   intro p hc h;obtain⟨c,_,rfl⟩:=hc y (.head _);simp only[risingS,Bool.and_eq_true,Bool.not_eq_true',Spec.ltCps,Bool.or_eq_false_iff,decide_eq_false_iff_not]at h;have h2:=ih c (λz hz=>hc z (.tail _ hz)) h.2;refine List.pairwise_cons.mpr ⟨λz hz=>?_,h2⟩;have hpc:(p:Int)<=c:=by have:=h.1.1;exact Int.ofNat_le.mpr (Nat.le_of_not_lt h.1.1)
   rcases AN hz with rfl|hz
   .exact hpc
   .exact Int.le_trans hpc ((List.pairwise_cons.mp h2).1 z hz)
 intro ss hc h;constructor
 .cases ss with
  |nil=>exact .nil
  |cons y r=>obtain⟨c,_,rfl⟩:=hc y (.head _);exact ris r c (λz hz=>hc z (.tail _ hz)) h
 .rw[List.map_map];exact(List.map_id _).symm.trans (List.map_congr_left λy hy=>by obtain⟨c,_,rfl⟩:=hc y hy;rfl)
theorem Du{ss:List Str}(x:StrsAre vs ss):CVs h as (ss.map λy=> .str y.cps.toList) vs:=by
 induction x with
 |nil=>rfl
 |cons y t r ih=>exact⟨_,_,rfl,⟨t,rfl⟩,ih⟩
theorem WB(hs:St AA c e as s.heap)(hr:AL A e n){x:List Nat}{t:Tok}(hx:x.length<64)(q:Q (.v (.flist ((DH (x.map λ(c:Nat)=>(c:Int))).map λi=> .str [i.toNat]))) c):
  wpAny (model pw AA.w) A (PySem.call (.builtin "sorted") [.str ⟨x.toArray⟩ t]) (AI AA e c as s Q) no s:=by
 refine BI (gX hr.quiet hx λs' D out e' ss hk hD hD' sh hS hp ho htk=>?_);have hmem:∀y∈ss,∃c∈x,y=⟨#[c]⟩:=λy hy=>by obtain⟨c,h1,rfl⟩:=ID (hp.mem_iff.mp hy);exact⟨c,h1,rfl⟩
 obtain⟨h1,h2⟩:=SE x ss hmem ho;have h3:(ss.map λy=>((y.cps.toList.headD 0:Nat):Int))=DH (x.map λ(c:Nat)=>(c:Int)):=by refine NG ?_ h1 (OU _);refine(hp.map _).trans ?_;rw[List.map_map];exact(sortI_perm _).symm
 have g:=hs.extS hk (sh htk);refine .ofGo (a:= .flist _) g ⟨D,out.toList,rfl,hs.offA hD,⟨e',by exact hD'⟩,?_⟩ q;have:=Du (h:=s'.heap) (as:=as) hS;rw[h2,h3,List.map_map]at this;exact this
inductive Ii(vs:List Value)(t:List Nat)(m:Nat):Prop
 |mk (l:List (Str×Tok)) (e:vs=strValues l) (h:(l.map λp=>p.1.cps.toList).flatten=t) (hl:l.length=m):Ii vs t m
theorem Dv:∀{vs:List Value} {t:List Nat},CVs h as xs vs->join xs=some t->Ii vs t xs.length:=by
 induction xs with
 |nil=>exactλe h=>⟨[],e,sj h,rfl⟩
 |cons x r ih=>intro vs t e h;obtain⟨v,us,rfl,h1,h2⟩:=e;obtain⟨y,h3,h⟩:=AD h;obtain⟨t',h4,rfl⟩:=AZ h;obtain⟨tk,rfl⟩:=(AU h3▸h1:CV _ as (.str y) v);obtain⟨l,rfl,h5,h6⟩:=ih h2 h4;exact⟨(⟨y.toArray⟩,tk)::l,rfl,congrArg (y++ ·) h5,congrArg (· +1) h6⟩
theorem foldl_len(l:List Str):∀(k:Nat),l.foldl (λn s=>n+s.length+0) k=k+((l.map λp=>p.cps.toList).flatten).length:=by
 induction l with
 |nil=>exactλk=>rfl
 |cons x r ih=>intro k;rw[List.map_cons,List.flatten_cons,List.length_append,<-Nat.add_assoc];exact ih _
theorem qC(l:List Str):∀(a:Array Nat),(l.foldl (λacc p=>acc++ #[]++p.cps) a).toList=a.toList++(l.map λp=>p.cps.toList).flatten:=by
 induction l with
 |nil=>exactλa=>(List.append_nil _).symm
 |cons x r ih=>exactλa=>(ih _).trans (by simp)
theorem wS(l:List Str):Builtin.Str.glued ⟨#[]⟩ l=⟨((l.map λp=>p.cps.toList).flatten).toArray⟩:=by
 unfold Builtin.Str.glued;apply Str.ext';apply Array.toList_inj.mp;rw[qC];cases l with
 |nil=>rfl
 |cons x r=>rfl
theorem join_ok(hs:St AA c e as s.heap){x:List Nat}{t:Tok}(cv:CVs s.heap as xs vs)(h:(if x.isEmpty=true then(one xs).bind λa=>(BN c.st a).bind λxs=>if xs.length<=1000 then(join xs).bind λt=>if t.length<=1000 then some (AV.str t)else none else none else none)=some z)(q:Q (.v z) c):
  wpAny (model pw AA.w) A (PySem.call (.builtin "str.join") (.str ⟨x.toArray⟩ t::vs)) (AI AA e c as s Q) no s:=by
 obtain⟨hx,h⟩:=AS h;obtain⟨a,ha,h⟩:=AD h;obtain⟨ys,h2,h⟩:=AD h;obtain⟨hl,h⟩:=AS h;obtain⟨y,h4,h⟩:=AD h;obtain⟨hw,h9⟩:=AS h;obtain rfl:=List.isEmpty_iff.mp hx;obtain⟨v,rfl,cv1⟩:=ZN (CX ha▸cv);obtain⟨l,us,rfl,e1,e2⟩:=ET hs cv1 h2;obtain⟨ps,rfl,e3,e4⟩:=Dv e2 h4;have hf:(ps.map (·.1)).foldl (λn s=>n+s.length+0) 0=y.length:=by rw[foldl_len,List.map_map,<-e3];exact Nat.zero_add _
 have hok:Builtin.Str.tooLong ((ps.map (·.1)).toArray.foldl (· + ·.length+(⟨[].toArray⟩:Str).length) 0)=false:=by rw[List.foldl_toArray,show(ps.map (·.1)).foldl (· + ·.length+(⟨[].toArray⟩:Str).length) 0=y.length from hf];exact decide_eq_false (by rw[sizeLine_eq];exact Nat.not_lt.mpr (oA hw))
 have ht:Txt.join ⟨[].toArray⟩ (ps.map (·.1))=⟨y.toArray⟩:=by show Builtin.Str.glued ⟨#[]⟩ _=_;rw[wS,List.map_map];exact e3▸rfl
 refine BI (call_meets F.slot_str_join (typeIs_str _ _ _) F.entry_str_join (F.args_str_join_2 _ _) (meets_str_join_list _ _ _ _ hok) ⟨e1,post_join ps ⟨?_,λt' k htk=>?_⟩⟩)
 .rw[ht,gR];rw[sizeLine_eq];exact oA hw
 .rw[ht];exact AI.here (a:= .str y) hs ⟨_,rfl⟩ (sj h9▸q)
theorem Dw(hs:St AA c e as s.heap){x:List Nat}{t:Tok}(cv:CVs s.heap as xs vs)(h:gG m x xs c.st=some z)(q:Q (.v z) c):
  wpAny (model pw AA.w) A (PySem.call (.builtin (if m==("join":Str)then "str.join" else "str.lower")) (.str ⟨x.toArray⟩ t::vs)) (AI AA e c as s Q) no s:=by
 rcases KE h with⟨hm,h⟩|⟨hm,h⟩
 .rw[if_pos hm];exact join_ok hs cv h q
 .rw[if_neg hm];obtain⟨_,h⟩:=AS h;obtain⟨hx,h⟩:=AS h;obtain⟨h1,hx⟩:=BG hx;obtain⟨h2,hx⟩:=BG hx;obtain rfl:vs=[]:=(List.isEmpty_iff.mp h1▸cv:CVs _ _ [] vs);refine SCL.lower (oA (Nat.le_of_ble_eq_true hx)) λ_=>?_;have:Txt.lower ⟨x.toArray⟩=⟨(QG x).toArray⟩:=by rw[lower_ascii λc hc=>Nat.le_of_ble_eq_true (CW h2 c hc)];exact congrArg Str.mk (List.map_toArray ..)
  rw[this];exact AI.here (a:= .str _) hs ⟨_,rfl⟩ (sj h▸q)
theorem SameBut.eq{f:Obj->Obj}:Heap.SameBut D h (h.update D f):=Heap.SameBut.update ..
theorem dM{prog:Program}{w:World}{I:Addr}{fp:List Addr}{P:Nat->Value->Prop}{St:Nat->Shared->Prop}(W:WalksS prog w A.in1 I fp wr G n P St)(S:Addr)(hSf:S∉fp)(res:Value)(b0:Array Value)(hn:b0.size+n<=2000):
  ∀(k i:Nat) (s:Shared) (acc:Array Value) (c:Nat),n-i=k->i<=n->St i s->s.heap.get? S=some {cls:= .type "list",dict:=none,data:= .seq (b0++acc) c,slots:= #[]}->ItemsOf P acc i->
  (∀s' acc' c',Moved (S::wr) G s s'->s'.heap.get? S=some {cls:= .type "list",dict:=none,data:= .seq (b0++acc') c',slots:= #[]}->ItemsOf P acc' n->R (.ok (.ret res)) s')->
  codeAny (model prog w) A (.builtin "list.extend.loop" ⟨[.ref S,.ref I,res],[]⟩) R s:=by
 have hSw:S∉wr:=λh=>hSf (W.sub _ h);have hsub:∀b∈wr,b∈S::wr:=λb hb=>List.mem_cons_of_mem _ hb;intro k;induction k with
 |zero=>intro i s acc c hk hi hst hS hacc hR;have hin:i=n:=Nat.le_antisymm hi (Nat.le_of_sub_eq_zero hk);subst hin;refine codeAny_builtin F.entry_extend_loop ?_;rw[Around.under_plainId F.plain_extend_loop _];show wpAny _ A.in1 (pyNext (.ref I)>>=_) _ _ s;refine wpAny_bind (W.done s _ _ hst λs' hm=>?_);exact wpAny_pure (hR s' acc c (hm.mono hsub) (hm.heap S _ hSw hS) hacc)
 |succ k ih=>
  intro i s acc c hk hi hst hS hacc hR;have hlt:i<n:=Nat.lt_of_sub_eq_succ hk;refine codeAny_builtin F.entry_extend_loop ?_;rw[Around.under_plainId F.plain_extend_loop _];show wpAny _ A.in1 (pyNext (.ref I)>>=_) _ _ s;refine wpAny_bind (W.item i s _ _ hlt hst λv s' hP hst' hm=>?_);have hS':=hm.heap S _ hSw hS;show wpAny _ A.in1 (updateSeq S (·.push v)>>=_) _ _ _;refine wpAny_bind ?_;have hsz:(b0++acc).size<=2000:=by rw[Array.size_append,hacc.1];exact oE hn hlt
  refine wpAny_updateSeq hS' rfl (wpAny_pure ⟨plainId_quiet F.plain_extend_loop _,ih (i+1) _ (acc.push v) _ (by rw[Nat.sub_add_eq,hk];rfl) hlt (W.frame _ s' _ s'.toks hst' (Nat.le_refl _) λb hb o e=>?_) ((Heap.get?_update_self _ hS' rfl).trans (by simp[Obj.mapSeq];rfl)) (hacc.push hP) λs'' acc' c' hm'' hS'' hacc'=>?_⟩)
   (by rw[sizeLine_eq];exact oA hsz) (by show((b0++acc).push v).size<=sizeLine+1;rw[Array.size_push,sizeLine_eq];exact oD hsz)
  .exact(Heap.get?_update_other _ _ (λh:S=b=>hSf (by rw[h];exact hb))).trans e
  .refine hR s'' acc' c' (Moved.trans W.gtrans ((hm.mono hsub).then_heap (by first|exact Nat.le_refl _|exact Nat.le_succ _|omega) λb o hb e=>?_) hm'') hS'' hacc';exact(Heap.get?_update_other _ _ (λh:S=b=>hb (by rw[h];exact List.mem_cons_self))).trans e
inductive Ij(h:Heap)(as:AH)(a:Nat)(xs:List AV):Prop
 |mk (vs:List Value) (n:Nat) (e:h.get? a=some {cls:= .type "list",dict:=none,data:= .seq vs.toArray n,slots:= #[]}) (cv:CVs h as xs vs) (hl:vs.length=xs.length):Ij h as a xs
theorem OV(hs:St AA c e as s.heap)(hl:as.pl[l]? =some a)(h1:c.st[l]? =some (.list xs)):Ij s.heap as a xs:=by obtain⟨vs,⟨n,e2⟩,e3⟩:=hs.at hl h1;exact⟨vs,n,e2,e3,CVs.length e3⟩
theorem AI.turn(hs:St AA c e as s.heap)(hl:as.pl[l]? =some a){t:Nat}(he:s.heap.get? a=some ob)(hc:ob.cls≠ .none)(sb:Heap.SameBut a s.heap h')(ho:h'.get? a=some {cls:= .type "list",dict:=none,data:= .seq us.toArray n,slots:= #[]})
  (cu:CVs s.heap as ys us)(cv:CV s.heap as z v)(q:Q (.v z) (c.setAt l (.list ys)))(ht:s.toks<=t:=by first|assumption|exact Nat.le_refl _|exact Nat.le_succ _|omega):AI AA e c as s Q v {s with heap:=h',toks:=t}:=
 have g:=hs.turned (o:= .list ys) hl sb ⟨_,ho⟩ (λM=>⟨us,⟨n,ho⟩,CVs.mono M _ _ cu⟩) (hs.tabx.of he (.inl hc) λb o e1 e2=>(sb.2 b e2).trans e1) t
 .ofGo g (g.cv hs cv) q
theorem qD(hs:St AA c e as s.heap){x:AV}(hl:as.pl[l]? =some a)(h1:c.st[l]? =some (.list xs))(hx:xs.length<=1000)(cv:CV s.heap as x v)(q:Q (.v .none) (c.setAt l (.list (xs++[x])))):
  wpAny (model pw AA.w) A (PySem.call (.builtin "list.append") [.ref a,v]) (AI AA e c as s Q) no s:=by
 obtain⟨vs,n,e1,e2,e3⟩:=OV hs hl h1;refine PyProof.Rows.append_at e1 (λh' sb ho=>?_) (by simp only[List.size_toArray,e3,sizeLine_eq];exact oA hx);have c1:CVs s.heap as [x] [v]:=⟨v,[],rfl,cv,rfl⟩;exact AI.turn hs hl (us:=vs++[v]) (t:=s.toks) e1 (λz=>nomatch z) sb (by simpa using ho) (CVs.append c1 e2) (z:= .none) rfl q
theorem Lj(hs:St AA c e as s.heap){r:List AV}{x:AV}{t:Tok}(hl:as.pl[l]? =some a)(h1:c.st[l]? =some (.list (x::r)))(hx:r.length<=1000)(q:Q (.v x) (c.setAt l (.list r))):
  wpAny (model pw AA.w) A (PySem.call (.builtin "list.pop") [.ref a,.int 0 t]) (AI AA e c as s Q) no s:=by
 obtain⟨vs,n,e1,e2,e3⟩:=OV hs hl h1;obtain⟨v,us,rfl,e4,e5⟩:=e2;have hz:(v::us).toArray.size<=sizeLine:=by rw[List.size_toArray,e3,sizeLine_eq];exact oD hx
 refine call_meets PySem.F.slot_list_pop ⟨_,e1,rfl⟩ PySem.F.entry_list_pop (PySem.F.args_list_pop_2 _ _) (PySem.MeetsSeq.list_pop_at a _ n 0 t 0 v rfl (by simp[seqIndex?]) (by rfl) hz) ⟨e1,?_⟩;have ho:=Heap.get?_update_self (Obj.mapSeq λxs=>xs.eraseIdxIfInBounds 0) e1 rfl;refine AI.turn hs hl (us:=us) (n:=n+1) (t:=s.toks) e1 (λz=>nomatch z) (Heap.SameBut.update ..) (ho.trans ?_) e5 e4 q;have:=kl_erase [] us v;simp only[List.nil_append,List.length_nil]at this;simp only[Obj.mapSeq,this,List.size_toArray,List.length_cons];have:(us.length==us.length+1)=false:=by simp
 exact(this)▸rfl
noncomputable def Rh(x:Int):Value->Bool
 | .int j _=>j==x
 |_=>false
theorem qE{x:Int}{t:Tok}:∀{vs:List Value} {i:Int},CVs h as xs vs->OL x xs=some i->(∀y∈vs,MeetsSeq.EqGives y (.int x t) (Rh x y))/\((vs.countP (Rh x):Nat):Int)=i:=by
 induction xs with
 |nil=>intro vs i e h;obtain rfl:=e;exact⟨λ_ h=>(nomatch h),sj h⟩
 |cons y r ih=>
  intro vs i e h;obtain⟨v,us,rfl,k1,k2⟩:=e;obtain⟨j,hj,h⟩:=AD h;obtain⟨b,k3,h⟩:=AZ h;obtain⟨tj,rfl⟩:=(AM hj▸k1:CV _ as (.int j) v);obtain⟨k4,k5⟩:=ih k2 k3;refine⟨λy hy=>(AN hy).elim (λe=>e▸MeetsSeq.EqGives.int j x tj t) (k4 y),?_⟩;rw[List.countP_cons,<-h,<-k5];by_cases hj:j=x
  .rw[if_pos hj,if_pos (show Rh x (.int j tj)=true from beq_iff_eq.mpr hj)];exact(Int.natCast_add ..).trans (Int.add_comm _ _)
  .rw[if_neg hj,if_neg (show¬Rh x (.int j tj)=true fromλq=>hj (beq_iff_eq.mp q))];exact(Int.zero_add _).symm
theorem count_ok(hs:St AA c e as s.heap){x i:Int}{t:Tok}(cv:CV s.heap as (.flist xs) v)(h:OL x xs=some i)(q:Q (.v (.int i)) c):
  wpAny (model pw AA.w) A (PySem.call (.builtin "list.count") [v,.int x t]) (AI AA e c as s Q) no s:=by
 obtain⟨a,vs,rfl,_,⟨n,e1⟩,e2⟩:=cv;obtain⟨k1,k2⟩:=qE (t:=t) e2 h;refine call_meets PySem.F.slot_list_count ⟨_,e1,rfl⟩ PySem.F.entry_list_count (PySem.F.args_list_count_2 _ _) (PySem.MeetsSeq.list_count a _ n _ _ (λy hy=>k1 y (by exact hy.1))) ⟨e1,?_⟩;show AI AA e c as s Q (.int ((vs.countP (Rh x):Nat):Int) _) _;rw[k2];exact AI.here (a:= .int i) hs ⟨_,rfl⟩ q
theorem Lk(T:BH AA)(hs:St AA c e as s.heap){i:Int}{t:Tok}(q:Q (.v (TL i)) c):wpAny (model pw AA.w) A (PySem.call (.builtin "dict.get") [.ref 110,.int i t]) (AI AA e c as s Q) no s:=by
 obtain⟨kvs,⟨o,es,ep,h1,h2⟩,h3⟩:=T.b3;have h4:=h3 i;have hd:Heap.DictOf (intKind pw AA.w) s.heap 110 kvs:=⟨o,es,ep,hs.old T _ _ h1,h2⟩;refine call_meetsIn PySem.F.slot_dict_get hd.typeIs PySem.F.entry_dict_get (PySem.F.args_dict_get_2 _ _) (meets_dict_get (intKind pw AA.w) 110 (k:=i) (intKind_is _ _ _ _) (by decide)) ⟨_,hd.mapOf,?_⟩;unfold TL at q;cases hx:Br.lookup i with
 |none=>rw[hx]at h4 q;rw[show valueAt kvs i=none from h4];exact AI.here (a:= .none) hs rfl q
 |some x=>rw[hx]at h4 q;obtain⟨t',h4⟩:=h4;rw[h4];exact AI.here (a:= .str _) hs ⟨t',by simp⟩ q
theorem St.turnedS(hs:St AA c e as s.heap)(hl:as.pl[l]? =some a){o:AO}(hk:∀b ob,b≠a->s.heap.get? b=some ob->s'.heap.get? b=some ob)(ha:∃o',s'.heap.get? a=some o')
  (co:BR s.heap as s'.heap as->CO AA.w s'.heap as o a)(sh:Sh s s')(tb:GZ s'.heap):Go AA e as.pl.length c as s (c.setAt l o) as s':=by
 obtain⟨m,lo⟩:=hs.locs;have hm:a∈as.pl:=List.mem_of_getElem? hl;refine hs.stepS (c':=c.setAt l o) ⟨rfl,Nat.le_refl _,λb o e1 e0 _ _=>hk b o (λq=>e0 (q▸hm)) e1,λb o e1=>?_,λ_ h1 h2=>absurd h1 h2⟩ rfl rfl rfl List.length_set
  (hs.turnedO hl hk co) (λM=>⟨m,lo.ns.at' λo e1=>hk _ o (λq=>hs.loff (q▸hm)) e1,λy u e1=>(lo.val y u e1).mono M⟩) sh tb
 by_cases q:b=a
 .exact q▸ha
 .exact⟨o,hk b o q e1⟩
theorem qF(hs:St AA c e as s.heap)(hr:AL A e n){x:List Nat}{t:Tok}(hl:as.pl[l]? =some a)(h1:c.st[l]? =some (.list xs))(hx:xs.length+x.length<=1000)(q:Q (.v .none) (c.setAt l (.list (xs++AK x)))):
  wpAny (model pw AA.w) A (PySem.call (.builtin "list.extend") [.ref a,.str ⟨x.toArray⟩ t]) (AI AA e c as s Q) no s:=by
 obtain⟨vs,n,e1,e2,e3⟩:=OV hs hl h1;have hh:A.in1.handled=none:=hr.quiet;refine wpAny_call (codeAny_call_builtin PySem.F.slot_list_extend.plain PySem.F.entry_list_extend (PySem.F.slot_list_extend.check _ _ _ _ _ _ _ _ ⟨_,e1,rfl⟩ (PySem.F.args_list_extend_2 _ _) ?_));have hal:a<s.heap.objs.size:=Heap.lt_size e1;show wpAny _ A.in1 (Builtin.List.listExtendWith (.ref a) (.str ⟨x.toArray⟩ t) .none) _ _ s;have hSf:a∉[s.heap.objs.size]:=λhm=>Nat.ne_of_lt hal (AR hm);unfold Builtin.List.listExtendWith;refine wpAny_bind (wpAny_typeOf (T:="str") (v:= .str ⟨x.toArray⟩ t) rfl ?_);refine wpAny_bind (wpAny_pyIter_str λo St W hst=>?_);refine wpAny_bind (wpAny_holding ?_);unfold Builtin.List.listLengthHint;refine wpAny_bind (wpAny_specialOf (T:="str") (v:= .str ⟨x.toArray⟩ t) rfl PySem.F.str_len ?_)
 wp_delta
 refine wpAny_bind (wpAny_isInstance (T:="str") (v:= .str ⟨x.toArray⟩ t) (b:=true) rfl (by rw[isSubtype_type];kernel_rfl) ?_);show wpAny _ _ (typeOf (Value.str ⟨x.toArray⟩ t)>>=_) _ _ _;refine wpAny_bind (wpAny_typeOf (T:="str") (v:= .str ⟨x.toArray⟩ t) rfl ?_);refine wpAny_pure ?_;rw[if_neg (by decide)];have e1':(s.heap.push o).get? a=some {cls:= .type "list",dict:=none,data:= .seq (vs.toArray++ #[]) n,slots:= #[]}:=by rw[Array.append_empty];exact Heap.get?_push_of_some _ e1
 refine wpAny_pure ⟨plainId_quiet F.plain_extend_loop _,dM (W A.in1 hh).toS a hSf _ vs.toArray (by simp;exact oE (Nat.le_of_eq e3) hx) x.length 0 _ #[] _ (by rfl) (Nat.zero_le _) hst e1' (ItemsOf.nil _) λs' acc' c' hm hS' hacc=>?_⟩;have hz:acc'.size=x.length:=by exact hacc.1
 have keep:∀b ob,b≠a->s.heap.get? b=some ob->s'.heap.get? b=some ob:=λb ob hb e=>hm.heap b ob (λhmem=>by
  rcases AN hmem with e'|hmem
  .exact hb e'
  .exact absurd (Heap.lt_size e) (by rw[AR hmem];exact Nat.lt_irrefl _)) (Heap.get?_push_of_some _ e)
 have sh:Sh s s':=⟨hm.drawn,hm.os,#[],by exact hm.gens,hm.toks,.empty⟩;have ch:CVs s.heap as (AK x) acc'.toList:=mV (by exact hz) λj v c k1 k2=>by
  obtain⟨c',u,h3,h4⟩:=hacc.2 j v (by simpa using k1);have:x[j]? =some c':=by simpa using h3
  rw[k2]at this;(replace this:=sj this;subst this);exact⟨u,h4⟩
 have ho:s'.heap.get? a=some {cls:= .type "list",dict:=none,data:= .seq (vs++acc'.toList).toArray c',slots:= #[]}:=by rw[hS'];simp
 exact .ofGo (hs.turnedS (o:= .list (xs++AK x)) hl keep ⟨_,hS'⟩ (λM=>⟨vs++acc'.toList,⟨c',ho⟩,CVs.mono M _ _ (CVs.append ch e2)⟩) sh (hs.tabx.of e1 (.inl λz=>nomatch z) λb o e1 e2=>keep b o e2 e1)) (a:= .none) rfl q
theorem Dx{w:World}{E:Value->Shared->Prop}{pl:Sem Bool}{g:Array GenState}{d:Drawn}{t:Nat}{os:OsState}{nm q:Str}{C N x:Addr}{bs:List Value}{sn:List Str}{sub:List Value}{ab:Bool}{col:Option Bool}{dd:Option Addr}{k0 k1 k2 k3 k5:Option Value}{newId:String}
  {mN mA:Str->Option Value}{name:Str}{Q:Value×List Value->Shared->Prop}
  (hC:h.get? C=some (excClassObj nm q C N bs [.type "object"] true sn sub ab col dd k0 k1 k2 k3 k5 newId))(hn:h.Ns N mN)(hng:mN "__getattribute__"=none)(hnh:mN "__getattr__"=none)
  (hna:mN name=none)(hB:typeLookup (.type "object") name=pure none)
  (I:h.Inst x C mA)(hv:mA name=some v)(hh:handedOut v=pure v)(hq:Q (v,[]) ⟨h,g,d,t+1,os⟩):
  wpAny (model pw w) A (getMethod (.ref x) name pl) Q E ⟨h,g,d,t,os⟩:=by
 obtain⟨o,hx,hc,hnc,hd⟩:=id I;have hcan:=F.canon_object_ga;unfold getMethod specialOf;generalize hG:getAttr=G
 repeat (first|(with_reducible refine wpAny_loadPart_at hx ?_;rw[hc])|(with_reducible refine wpAny_typeOf_ref hx ?_;rw[hc])|(with_reducible refine wpAny_typeLookup_exc hC hn F.mro_object F.lk_object_ga ?_;rw[hng])|(with_reducible refine wpAny_typeLookup_exc hC hn F.mro_object F.lk_object_getattr ?_;rw[hnh])|(with_reducible refine wpAny_typeLookup_exc hC hn F.mro_object hB ?_;rw[hna])|simp only[hcan,Bool.false_eq_true,if_false,Option.isSome_none,Option.none_or]|with_reducible_and_instances refine PySem.wpAny_pure ?_|with_reducible_and_instances refine PySem.wpAny_bind ?_)
 subst hG;exact load_attr hC hn hng hna hB I hv hh (wpAny_pure hq)
inductive GB(c:AC)(as:AH)(ov:Value)(a:AV)(m:Str)(f:Value)(first:List Value):Prop
 |str (x:List Nat) (ea:a= .str x) (ef:f= .builtin (if m==("join":Str)then "str.join" else "str.lower")) (e1:first=[ov]):GB c as ov a m f first
 |get (ea:a= .fn 110) (ef:f= .builtin "dict.get") (e1:first=[ov]):GB c as ov a m f first
 |count (xs:List AV) (ea:a= .flist xs) (ef:f= .builtin "list.count") (e1:first=[ov]):GB c as ov a m f first
 |list (l b:Nat) (ys:List AV) (ea:a= .loc l) (hl:as.pl[l]? =some b) (e:ov= .ref b) (h:c.st[l]? =some (.list ys)) (ef:f= .builtin (if m==("append":Str)then "list.append" else if m==("extend":Str)then "list.extend" else "list.pop")) (e1:first=[ov]):GB c as ov a m f first
 |attr (l d:Nat) (fs:List (Str×AV)) (l':Nat) (cl:List (Str×Nat)) (b:Nat) (ea:a= .loc l) (h1:c.st[l]? =some (.inst FZ d)) (h2:c.st[d]? =some (.ns fs)) (h3:fs.lookup m=some (.loc l')) (h4:c.st[l']? =some (.clos cl)) (h5:GM m=true) (h6:as.pl[l']? =some b) (ef:f= .ref b) (e1:first=[]):GB c as ov a m f first
 |meth (l d:Nat) (fs:List (Str×AV)) (g:Nat) (ea:a= .loc l) (h1:c.st[l]? =some (.inst FZ d)) (h2:c.st[d]? =some (.ns fs)) (h3:fs.lookup m=none) (h4:FI.lookup m=some g) (ef:f= .ref g) (e1:first=[ov]):GB c as ov a m f first
theorem OW(h:FI.lookup m=some g):(m="__init__"/\g=63\/m="_read_char"/\g=70\/m="get_token"/\g=77\/m="push_token"/\g=84)/\∃fd,DD g=some fd:=by
 have h:=FC h;have fin:∀{x:Str} {y:Nat},(m,g)=(x,y)->m=x/\g=y:=λe=>Prod.mk.inj e;rcases AN h with e|h
 .exact⟨.inl (fin e),(fin e).2▸⟨_,rfl⟩⟩
 rcases AN h with e|h
 .exact⟨.inr (.inl (fin e)),(fin e).2▸⟨_,rfl⟩⟩
 rcases AN h with e|h
 .exact⟨.inr (.inr (.inl (fin e))),(fin e).2▸⟨_,rfl⟩⟩
 .exact⟨.inr (.inr (.inr (fin (AR h)))),(fin (AR h)).2▸⟨_,rfl⟩⟩
theorem dN(h:FI.lookup m=some g):∃y,typeLookup (.type "object") m=pure y:=by
 rcases(OW h).1 with⟨rfl,_⟩|⟨rfl,_⟩|⟨rfl,_⟩|⟨rfl,_⟩
 .exact⟨some (.builtin "object.__init__"),by rw[typeLookup_type,builtinLookup_eq_fast];kernel_rfl⟩
 all_goals exact⟨none,by rw[typeLookup_type,builtinLookup_eq_fast];kernel_rfl⟩
theorem qG(T:BH AA)(hs:St AA c e as s.heap){a:AV}(cv:CV s.heap as a ov){q:Nat×Nat×List (Str×AV)}(hq:LB c.st a=some q)(h:(q.1==FZ&&BV (q.2.2.lookup m) (λv=>GM m&&BV (GF v) (λl=>BV (c.st[l]?) (λo=>(lC o).isSome) false) false) (TQ m))=true)
  {pl:Sem Bool}{P:Value×List Value->Shared->Prop}{E:Value->Shared->Prop}(k:∀f first t,GB c as ov a m f first->P (f,first) {s with toks:=t}):wpAny (model pw AA.w) A (getMethod ov m pl) P E s:=by
 obtain⟨cc,d,fs⟩:=q;obtain⟨h1,h2⟩:=BG h;obtain rfl:cc=FZ:=beq_iff_eq.mp h1;obtain⟨l,b,rfl,rfl,hl,hx,hd,dx,mA,i1,i2,i3,i4,i5,i6,i7⟩:=OQ hs cv hq;obtain⟨N,mN,X,n1,n2,n3,n4,n5,n6⟩:=T.cls;obtain⟨nm,q',bs,sn,sub,col,dd,r0,r1,r2,r3,r5,hC⟩:=gP (X.keeps (hs.old T));obtain⟨hh,g,d',t,os⟩:=s;rcases cA h2 with⟨v,hf,h2⟩|⟨hf,h2⟩
 .obtain⟨h3,h4⟩:=BG h2;obtain⟨l',h5,h4⟩:=bZ h4;obtain⟨o,h6,h4⟩:=bZ h4;obtain⟨cl,h7⟩:=Option.isSome_iff_exists.mp h4;obtain⟨r,e1,cr⟩:=i7 _ _ hf;obtain⟨b',e2,rfl⟩:=(CT h5▸cr:CV _ _ (.loc l') r);exact Dx hC (X.keeps (hs.old T)).ns n1 n2 (n4 _ h3) (QP h3) i3 e1 rfl (k _ _ _ (.attr _ _ _ _ _ _ rfl hx hd (hf.trans (congrArg some (CT h5))) (h6.trans (congrArg some (TH h7))) h3 e2 rfl rfl))
 .obtain⟨gg,hg⟩:=Option.isSome_iff_exists.mp h2;obtain⟨y,hy⟩:=dN hg;obtain⟨fd,hfd⟩:=(OW hg).2;obtain⟨o,f,cd,oc,fs',t',j1,j2,_⟩:=T.fns gg fd (ZG hfd);have hna:mA m=none:=by
   cases q:mA m with
   |none=>rfl
   |some z=>exact absurd hf (i6 m λe=>BJ (e.symm.trans q))
  exact method_of hC (X.keeps (hs.old T)).ns n1 n2 (n5 _ _ hg) (hs.old T _ _ j1) j2 hy i3 hna (k _ _ _ (.meth _ _ _ _ rfl hx hd hf hg rfl rfl))
theorem qH(hs:St AA c e as s.heap){a:AV}(cv:CV s.heap as a ov)(hf:MZ a=none)(hx:BN c.st a=some ys)(h:(m==("append":Str)||m==("extend":Str)||m==("pop":Str))=true){pl:Sem Bool}{P:Value×List Value->Shared->Prop}{E:Value->Shared->Prop}
  (k:∀f first t,GB c as ov a m f first->P (f,first) {s with toks:=t}):wpAny (model pw AA.w) A (getMethod ov m pl) P E s:=by
 have hx:((GF a).bind λl=>(c.st[l]?).bind KX)=some ys:=by unfold BN at hx;rw[hf]at hx;exact hx
 obtain⟨l,h1,hx⟩:=AD hx;obtain⟨o,h2,hx⟩:=AD hx;replace h2:=h2.trans (congrArg some (MG hx));obtain rfl:=CT h1;obtain⟨b,hl,rfl⟩:=cv;obtain⟨vs,n,e1,e2,e3⟩:=OV hs hl h2;have c0:=k _ _ s.toks (.list _ _ _ rfl hl rfl h2 rfl rfl);have ht:s.heap.get? b=some {cls:= .type "list",dict:=none,data:= .seq vs.toArray n,slots:= #[]}:=e1;have hn:∀x,Value.ref b= .ref x->∃o,s.heap.get? x=some o/\o.dict=none:=λ_ e=>⟨_,Value.ref.inj e▸e1,rfl⟩;rcases bY h with q|q
 .rcases bY q with q|q<;>obtain rfl:=eq_of_beq q
  .exact getMethod_builtin ⟨_,e1,rfl⟩ F.plainAttrs_list F.slot_list_append F.type_list_append hn c0
  .exact getMethod_builtin ⟨_,e1,rfl⟩ F.plainAttrs_list F.slot_list_extend F.type_list_extend hn c0
 .obtain rfl:=eq_of_beq q;exact getMethod_builtin ⟨_,e1,rfl⟩ F.plainAttrs_list F.slot_list_pop F.type_list_pop hn c0
theorem Dy(T:BH AA)(hs:St AA c e as s.heap){a:AV}(cv:CV s.heap as a ov)(h:B3 c.st a m=true){pl:Sem Bool}{P:Value×List Value->Shared->Prop}{E:Value->Shared->Prop}
  (k:∀f first t,GB c as ov a m f first->P (f,first) {s with toks:=t}):wpAny (model pw AA.w) A (getMethod ov m pl) P E s:=by
 rcases cA h with⟨x,hx,h⟩|⟨_,h⟩
 .obtain rfl:=AU hx;obtain⟨t,rfl⟩:=cv;have c0:=k _ _ s.toks (.str x rfl rfl rfl);rcases bY h with q|q<;>obtain rfl:=eq_of_beq q
  .exact getMethod_builtin (typeIs_str _ _ _) F.plainAttrs_str F.slot_str_join F.type_str_join (λ_ e=>nomatch e) c0
  .exact getMethod_builtin (typeIs_str _ _ _) F.plainAttrs_str F.slot_str_lower F.type_str_lower (λ_ e=>nomatch e) c0
 rcases cA h with⟨x,hx,h⟩|⟨_,h⟩
 .obtain⟨h1,h2⟩:=BG h;obtain rfl:=Nat.eq_of_beq_eq_true h1;obtain rfl:=eq_of_beq h2;obtain rfl:=OI hx;obtain rfl:ov= .ref 110:=cv;obtain⟨kvs,⟨o,es,ep,h1,h2⟩,h3⟩:=T.b3;have hd:Heap.DictOf (intKind pw AA.w) s.heap 110 kvs:=⟨o,es,ep,hs.old T _ _ h1,h2⟩;exact getMethod_builtin hd.typeIs F.plainAttrs_dict F.slot_dict_get F.type_dict_get hd.mapOf.noDict (k _ _ s.toks (.get rfl rfl rfl))
 rcases cA h with⟨x,hx,h⟩|⟨hf,h⟩
 .obtain rfl:=HO hx;obtain rfl:=eq_of_beq h;obtain⟨a,vs,rfl,_,⟨n,e1⟩,e2⟩:=cv;exact getMethod_builtin ⟨_,e1,rfl⟩ F.plainAttrs_list F.slot_list_count F.type_list_count (λ_ e=>⟨_,Value.ref.inj e▸e1,rfl⟩) (k _ _ s.toks (.count x rfl rfl rfl))
 rcases cA h with⟨x,hx,h⟩|⟨_,h⟩
 .exact qH hs cv hf hx h k
 .obtain⟨p,hp,h⟩:=bZ h;exact qG T hs cv hp h k
noncomputable def Wv(AA:AP)(n:Nat):Prop:=∀a m xs c Q,AX n (.mcall a m xs) c Q->∀A e as s ov f first us,St AA c e as s.heap->CV s.heap as a ov->GB c as ov a m f first->CVs s.heap as xs us->AL A e n->1<=s.toks->
 wpAny (model pw AA.w) A (PySem.call f (first++us)) (AI AA e c as s Q) no s
inductive Ik(h:Heap)(as:AH)(b:Nat)(cl:List (Str×Nat)):Prop
 |mk (clos:List (Str×Addr)) (F:LJ h b BD clos) (hc:∀x l,cl.lookup x=some l->∃a,as.pl[l]? =some a/\clos.lookup x=some a):Ik h as b cl
theorem ZO(hs:St AA c e as s.heap)(hl:as.pl[l]? =some b)(h:c.st[l]? =some (.clos cl)):Ik s.heap as b cl:=by obtain⟨o,fd,cd,h1,h2,hf,⟨oc,fs,t,h11,h12,h13,h14⟩,h15⟩:=hs.at hl h;exact⟨fd.closure,⟨o,fd,h1,h2,⟨hf.scope,hf.body,hf.params,hf.glb,hf.blt,hf.dfl⟩,rfl,⟨cd,oc,fs,t,hf.code,h12,h13,h14⟩,wP⟩,h15⟩
theorem LJ.keeps{fd:FD}{clos:List (Str×Addr)}(F:LJ h a fd clos):JD M h (.ref a):=by obtain⟨o,f,h1,h2,_⟩:=F;exact wO h1 h2
theorem GB.keeps(T:BH AA)(hs:St AA c e as s.heap){a:AV}{f:Value}{first:List Value}(x:GB c as ov a m f first):JD (model pw AA.w) s.heap f:=by
 rcases x with⟨_,_,rfl,_⟩|⟨_,rfl,_⟩|⟨_,_,rfl,_⟩|⟨_,_,_,_,_,_,_,rfl,_⟩|⟨_,_,_,_,_,_,_,h1,h2,h3,h4,h5,h6,rfl,_⟩|⟨_,_,_,_,_,h1,h2,h3,h4,rfl,_⟩
 .exact EW
 .exact EW
 .exact EW
 .exact EW
 .obtain⟨clos,F,_⟩:=ZO hs h6 h4;exact F.keeps
 .obtain⟨fd,hfd⟩:=(OW h4).2;exact(LL T hs hfd).keeps
theorem wT(T:BH AA)(ih:Ok AA n)(hs:St AA c e as s.heap)(hr:AL A e (n+1))(ht:1<=s.toks)(hl:as.pl[l]? =some b)(hc:c.st[l]? =some (.clos cl))(cv:CVs s.heap as xs us)
  (h:on (DS BD cl xs c.st c.st.length) λc'=>AX n (.execs BD.body) c' (GO c Q)):wpAny (model pw AA.w) A (PySem.call (.ref b) us) (AI AA e c as s Q) no s:=by
 obtain⟨clos,F,hcl⟩:=ZO hs hl hc;obtain⟨c',h1,h2⟩:=AG h;exact JK T ih hs hr ht F wQ hcl cv h1 h2
theorem wU(hs:St AA c e as s.heap)(hr:AL A e n){r:AV×List AO}(hl:as.pl[l]? =some b)(hx:c.st[l]? =some (.list ys))(hm:SD m c.st l ys xs=some r)(cvs:CVs s.heap as xs us)
  (q:Q (.v r.1) {c with st:=r.2}):wpAny (model pw AA.w) A (PySem.call (.builtin (if m==("append":Str)then "list.append" else if m==("extend":Str)then "list.extend" else "list.pop")) (.ref b::us)) (AI AA e c as s Q) no s:=by
 obtain⟨a,ha,hm⟩:=AD hm;obtain⟨v,rfl,cv1⟩:=ZN (CX ha▸cvs);rcases KE hm with⟨q1,hm⟩|⟨q1,hm⟩
 .rw[if_pos q1];obtain⟨q2,hm⟩:=AS hm;obtain rfl:=sj hm;exact qD hs hl hx q2 cv1 q
 rw[if_neg q1];rcases KE hm with⟨q1,hm⟩|⟨q1,hm⟩
 .rw[if_pos q1];obtain⟨x,h1,hm⟩:=AD hm;obtain⟨q2,hm⟩:=AS hm;obtain⟨t,rfl⟩:=(AU h1▸cv1:CV _ _ (.str x) v);obtain rfl:=sj hm;exact qF (t:=t) hs hr hl hx q2 q
 .rw[if_neg q1];obtain⟨_,hm⟩:=AS hm;obtain⟨x,h1,hm⟩:=AD hm;obtain⟨q2,hm⟩:=AS hm;obtain⟨t,rfl⟩:=(AM h1▸cv1:CV _ _ (.int x) v);obtain⟨y,h2,hm⟩:=AD hm;obtain⟨q3,hm⟩:=AS hm;obtain rfl:=sj hm;exact q2▸Lj (t:=t) hs hl (hx.trans (congrArg (λy=>some (AO.list y)) (GG h2))) q3 q
theorem qI(T:BH AA)(ih:Ok AA n)(hs:St AA c e as s.heap)(hr:AL A e (n+1))(ht:1<=s.toks)(hl:as.pl[l]? =some b)(cvs:CVs s.heap as xs us)(h3:fs.lookup m=none)(h4:FI.lookup m=some g)
  (h:SP (AX n) (.loc l) FZ fs m xs c Q):wpAny (model pw AA.w) A (PySem.call (.ref g) (.ref b::us)) (AI AA e c as s Q) no s:=by
 unfold SP at h;rw[h3,h4,show(bif GM m then(none:Option AV).filter QH else none)=none from by cases GM m<;>rfl]at h;obtain⟨fd,hfd,h⟩:=AG (show on (DD g) _ from h);obtain⟨c',k1,k2⟩:=AG h;have cv2:CVs s.heap as (.loc l::xs) (.ref b::us):=⟨_,_,rfl,⟨b,hl,rfl⟩,cvs⟩;exact JK T ih hs hr ht (LL T hs hfd) (IG hfd) (λx l q=>by exact BJ q) cv2 k1 k2
theorem mW{P:Nat×Nat×List (Str×AV)->Prop}(h1:c.st[l]? =some (.inst k d))(h2:c.st[d]? =some (.ns fs))(h:on (LB c.st (.loc l)) P):P (k,d,fs):=by
 have e:LB c.st (.loc l)=some (k,d,fs):=by show(c.st[l]?).bind _=_;rw[h1];show(c.st[d]?).bind _=_;rw[h2];rfl
 exact(e▸h:on (some (k,d,fs)) P)
theorem Ll(T:BH AA)(ih:Ok AA n):Wv AA (n+1):=by
 intro a m xs c Q h A e as s ov f first us hs cv ce cvs hr ht
 rcases ce with⟨x,rfl,rfl,rfl⟩|⟨rfl,rfl,rfl⟩|⟨ys,rfl,rfl,rfl⟩|⟨l,b,ys,rfl,hl,e,hx,rfl,rfl⟩|⟨l,d,fs,l',cl,b,rfl,h1,h2,h3,h4,h5,h6,rfl,rfl⟩|⟨l,d,fs,g,rfl,h1,h2,h3,h4,rfl,rfl⟩
 .obtain⟨z,hz,q⟩:=AG h;obtain⟨t,rfl⟩:=cv;exact Dw hs cvs hz q
 .obtain⟨i,hi,h⟩:=AG h;obtain⟨x,h1,h2⟩:=AD hi;obtain⟨v,rfl,cv1⟩:=ZN (CX h1▸cvs);obtain⟨t,rfl⟩:=(AM h2▸cv1:CV _ _ (.int i) v);obtain rfl:ov= .ref 110:=cv;exact Lk T hs (DT h).2
 .obtain⟨i,hi,h⟩:=AG h;obtain⟨x,h1,h2⟩:=AD hi;obtain⟨v,rfl,cv1⟩:=ZN (CX h1▸cvs);obtain⟨t,rfl⟩:=(AM h2▸cv1:CV _ _ (.int i) v);obtain⟨z,hz,q⟩:=AG (DT h).2;exact count_ok (t:=t) hs cv hz q
 .obtain⟨y,hy,h⟩:=AG h;obtain rfl:=sj (hx.symm.trans hy);obtain⟨r,hr',q⟩:=AG h;exact e▸wU hs hr hl hx hr' cvs q
 .obtain⟨y,hy,h⟩:=AG h;obtain rfl:=sj (h1.symm.trans hy);have h:=mW h1 h2 h;unfold SP at h;rw[h5,h3]at h;exact ih.C _ _ _ _ h _ _ _ _ _ _ hs ⟨_,h6,rfl⟩ cvs (hr.le (Nat.le_succ _)) ht
 .obtain⟨y,hy,h⟩:=AG h;obtain rfl:=sj (h1.symm.trans hy);obtain⟨b,hl,rfl⟩:=cv;exact qI T ih hs hr ht hl cvs h3 h4 (mW h1 h2 h)
theorem Dz(b3:Nat.ble es.length 20=true)(b4:es.all DQ=true):methodCallForm (es.length+([]:List Keyword).length) (backTo p' (starEach es e)) (backToKw p' (keywordEach [] e))=true:=by
 rw[GP b4];have:(backTo p' (es.map λx=>(false,eval x e))).all (λx=> !x.1)=true:=by unfold backTo;rw[List.map_map];exact List.all_eq_true.mpr λx hx=>by obtain⟨y,_,rfl⟩:=ID hx;rfl
 unfold methodCallForm;rw[this];exact decide_eq_true (show es.length<30 from oA (Nat.succ_le_succ (Nat.le_of_ble_eq_true b3)))
theorem GB.up{a:AV}{f:Value}{first:List Value}(up:∀(l b:Nat),as1.pl[l]? =some b->as2.pl[l]? =some b)(ce:GB c2 as1 ov a m f first):GB c2 as2 ov a m f first:=by
 rcases ce with⟨x,ea,ef,e1⟩|⟨ea,ef,e1⟩|⟨ys,ea,ef,e1⟩|⟨l,b,ys,ea,hl,e,hx,ef,e1⟩|⟨l,d,fs,l',cl,b,ea,h1,h2,h3,h4,h5,h6,ef,e1⟩|⟨l,d,fs,g,ea,h1,h2,h3,h4,ef,e1⟩
 .exact .str x ea ef e1
 .exact .get ea ef e1
 .exact .count ys ea ef e1
 .exact .list l b ys ea (up _ _ hl) e hx ef e1
 .exact .attr l d fs l' cl b ea h1 h2 h3 h4 h5 (up _ _ h6) ef e1
 .exact .meth l d fs g ea h1 h2 h3 h4 ef e1
theorem Ea(T:BH AA)(ih:Ok AA n)(im:Wv AA n)(hs:St AA c e as s.heap)(hr:AL A e (n+1))(ht:1<=s.toks)(h:lT (AX n) o m p es p' c Q):
  wpAny (model pw AA.w) A (eval (.Call (.Attribute o m p) es [] p') e) (AI AA e c as s Q) no s:=by
 obtain⟨hb,h⟩:=DT h;obtain⟨hb,b4⟩:=BG hb;obtain⟨hb,b3⟩:=BG hb;obtain⟨b1,b2⟩:=BG hb;rw[arm_eval_Call,OR b1];refine wpAny_bind (JI ih hr h hs ht λc1 as1 a s1 ov g1 v1 h1=>?_);obtain⟨h1,h2⟩:=DT h1;refine wpAny_bind (wpAny_standAt ?_);have hpos:methodCallPos true o e p p'=pure p':=if_pos b2;unfold methodCall;refine(Eq.symm (Dz b3 b4))▸?_;refine wpAny_bind (wpAny_holding (BI (Dy T g1.st v1 h1 λf first t ce hkt=>?_)));refine wpAny_bind (wpAny_of_eq hpos ?_);have g1':=g1.trans (g1.st.toks t) g1.len;refine RP b4 (wK ih hr h2 _ g1'.st (g1'.tk ht) λc2 as2 vs s2 us hl g2 v2 h3=>?_);obtain⟨rfl,h3⟩:=h3;have ce2:=ce.up λl b e1=>g2.evo.get (EC e1) e1;exact⟨ce2.keeps T g2.st,wpAny_mono (im _ _ _ _ _ h3.go _ _ _ _ _ _ _ _ g2.st (g2.cv g1'.st (v1:CV {s1 with toks:=t}.heap as1 a ov)) ce2 v2 (hr.le (Nat.le_succ _)) (g2.tk (g1'.tk ht))) (λ_ _ x=>AI.after g1' (AI.after g2 x)) λ_ _ x=>x⟩
structure NH(AA:AP):Prop where
 told:∀{c:AC} {e:Env} {as:AH} {s:Shared} {A:Around} {Q:AB} {xs:List AV} {is r:List Int} {v:Value},St AA c e as s.heap->AL A e 1->CV s.heap as (.flist xs) v->GK xs=some is->GW 6 none [] is=some r->Q (.v (.flist (r.map .int))) c->
  wpAny (model pw AA.w) A (PySem.call (.ref 193) [v]) (AI AA e c as s Q) no s
 index:∀{c:AC} {e:Env} {as:AH} {s:Shared} {A:Around} {Q:AB} {x:List Nat} {ch i:Nat} {t u:Tok},St AA c e as s.heap->AL A e 1->1<=u->u<s.toks->CQ ch x=some i->Q (.v (.int i)) c->
  wpAny (model pw AA.w) A (PySem.call (.ref 35) [.str ⟨x.toArray⟩ t,.str ⟨#[ch]⟩ u]) (AI AA e c as s Q) no s
 lacked:∀{c:AC} {e:Env} {as:AH} {s:Shared} {A:Around} {Q:AB} {x:List Nat} {ch:Nat} {t u:Tok},St AA c e as s.heap->AL A e 1->A.frames=some [e]->e.frame=some e.locals->1<=u->u<s.toks->Q (.v (.bool (!x.contains ch))) c->
  wpAny (model pw AA.w) A (PySem.call (.ref 212) [.str ⟨x.toArray⟩ t,.str ⟨#[ch]⟩ u]) (AI AA e c as s Q) no s
 sset:∀{c:AC} {e:Env} {as:AH} {s:Shared} {A:Around} {Q:AB} {a:AV} {xs:List AV} {is:List Int} {v:Value},St AA c e as s.heap->AL A e 1->CV s.heap as a v->BN c.st a=some xs->GK xs=some is->(is.length<60/\∀i∈is,0<=i/\i<6)->Q (.v (.flist ((DH (FP is)).map .int))) c->
  wpAny (model pw AA.w) A (PySem.call (.type "set") [v]) (λr s1=>wpAny (model pw AA.w) A (PySem.call (.builtin "sorted") [r]) (AI AA e c as s Q) no s1) no s
theorem wV(T:BH AA)(hs:St AA c e as s.heap)(h:gO (AX n) a xs c Q):JD (model pw AA.w) s.heap (.ref a):=by
 rcases DP h with⟨q1,h⟩|⟨_,h⟩
 .obtain rfl:=Nat.eq_of_beq_eq_true q1;obtain⟨N,mN,X,_⟩:=T.cls;exact pZ (X.keeps (hs.old T))
 rcases DP h with⟨q1,h⟩|⟨_,h⟩
 .obtain rfl:=Nat.eq_of_beq_eq_true q1;exact(JJ T hs (a:=193) rfl).keeps
 rcases DP h with⟨q1,h⟩|⟨_,h⟩
 .obtain rfl:=Nat.eq_of_beq_eq_true q1;exact(JJ T hs (a:=169) rfl).keeps
 .obtain⟨fd,hfd,_⟩:=AG h;exact(LL T hs hfd).keeps
theorem gY(T:BH AA)(hs:St AA c e as s.heap){f:AV}{fv:Value}(cv:CV s.heap as f fv)(h:ZE (AX n) f xs c Q):JD (model pw AA.w) s.heap fv:=by
 rcases DR h with⟨id,h1,_⟩|⟨_,h⟩
 .obtain rfl:fv= .builtin id:=(TE h1▸cv:CV _ _ (.blt id) fv);exact EW
 rcases DR h with⟨id,h1,_⟩|⟨_,h⟩
 .obtain rfl:fv= .type id:=(TF h1▸cv:CV _ _ (.typ id) fv);exact IL
 rcases DR h with⟨a,h1,h⟩|⟨_,h⟩
 .obtain rfl:fv= .ref a:=(OI h1▸cv:CV _ _ (.fn a) fv);exact wV T hs h
 .obtain⟨l,h1,h⟩:=AG h;obtain⟨y,hy,h⟩:=AG h;obtain⟨cl,h2,h⟩:=AG h;obtain⟨b,hl,rfl⟩:=(CT h1▸cv:CV _ _ (.loc l) fv);obtain⟨clos,F,_⟩:=ZO hs hl (hy.trans (congrArg some (TH h2)));exact F.keeps
theorem QS:eval (.Call (.Name f q) es [] p) e=(do callWith p (<-eval (.Name f q) e) [] (backTo p (starEach es e)) (backToKw p (keywordEach [] e))):=rfl
theorem OX(T:BH AA)(ih:Ok AA n)(hs:St AA c e as s.heap)(hr:AL A e (n+1))(ht:1<=s.toks)(h:IF (AX n) f q es c Q):wpAny (model pw AA.w) A (eval (.Call (.Name f q) es [] p) e) (AI AA e c as s Q) no s:=by
 obtain⟨h3,h2⟩:=DT h;refine Call_ (JI ih hr h2 hs ht λc1 as1 a s1 v g1 v1 k1=>?_) QS;refine RP h3 (wK ih hr k1 _ g1.st (g1.tk ht) λc2 as2 vs s2 us hl g2 v2 k2=>?_);have v1':=g2.cv g1.st v1;have k2:=k2.go;cases n with
 |zero=>exact k2.elim
 |succ n=>exact⟨gY T g2.st v1' k2,wpAny_mono (ih.C _ _ _ _ k2 _ _ _ _ _ _ g2.st v1' v2 (hr.le (Nat.le_succ _)) (by trivial)) (λ_ _ x=>AI.after g1 (AI.after g2 x)) λ_ _ x=>x⟩
theorem wW(T:BH AA)(ih:Ok AA n)(hs:St AA c e as s.heap)(hr:AL A e (n+1))(ht:1<=s.toks){fd:FD}(cv:CVs s.heap as xs us)(hfd:DD 63=some fd)
  (hb:DS fd [] (.loc c.st.length::xs) (c.st++[.inst FZ (c.st.length+1),.ns []]) (c.st.length+2)=some c')
  (h:AX n (.execs fd.body) c' (VY λx c''=>match x with
   | .next=>Q (.v (.loc c.st.length)) ⟨c.fr,c''.st,c.lo⟩
   |_=>False)):wpAny (model pw AA.w) A (PySem.call (.ref FZ) us) (AI AA e c as s Q) no s:=by
 obtain⟨N,mN,X,n1,n2,n3,n4,n5,n6⟩:=T.cls;obtain⟨nm,q',bs,sn,sub,col,dd,r0,r1,r2,r3,r5,hC⟩:=gP (X.keeps (hs.old T));obtain⟨o,f,cd,oc,fs',t',j1,j2,_⟩:=T.fns 63 fd (ZG hfd);obtain⟨hh,g,d',t,os⟩:=s;refine wpAny_call_obj_init F.objNew hC (X.keeps (hs.old T)).ns n6 (hs.old T _ _ j1) j2 λh' x dx Mk=>?_;obtain⟨ox,hx,hcx,hncx,hdx⟩:=Mk.inst;have hdd:=Mk.dict ox hx;have hnd:h'.Ns1 dx (λ_=>none)/\dx≠x:=by
  rcases hdx with⟨hn0,_⟩|⟨d',hd',hne',hns'⟩
  .exact BJ (hn0.symm.trans hdd)
  .obtain rfl:=Option.some.inj (hd'.symm.trans hdd);exact⟨hns',hne'⟩
 obtain⟨hns,hne⟩:=hnd;obtain⟨od,es,ep,hod,hrest⟩:=id hns;have hodd:¬JV od:=λq=>by rcases q with⟨_,_,q⟩|⟨_,q⟩<;>(have:=hrest.1.symm.trans q;exact nI PySem.Data.ctorIdx this)
 obtain⟨m,lo⟩:=hs.locs;have fx:=hs.freshN Mk.newX;have fdd:=hs.freshN Mk.newD;have gx:=hs.placeN lo (lo.ns.at' λo e=>Mk.keeps _ o e) (λa o e1 _=>Mk.keeps a o e1) Mk.newX (o:= .dead) (λ_=>⟨ox,hx⟩) t;have hdh:dx∉as.hid:=λq=>(hs.hid dx q).1.elim λo ho=>BJ (Mk.newD.symm.trans ho);have hd0:AA.get? dx=none:=by
  cases q:AA.get? dx with
  |none=>rfl
  |some o=>exact BJ (Mk.newD.symm.trans (hs.keep dx o q fdd.2.1))
 have gd:=gx.adopt (o:= .ns []) (a:=dx) Mk.newD hod hodd (λq=>(TD q).elim fdd.1 hne) hdh fdd.2.2 hd0 fdd.2.1 ⟨_,hns,λ_ h=>absurd rfl h,λ_ _ h=>nomatch h⟩;have px:((as.add x).add dx).pl[c.st.length]? =some x:=AH.up (hs.len▸AH.last);have pd:((as.add x).add dx).pl[c.st.length+1]? =some dx:=by
  have:(as.add x).pl.length=c.st.length+1:=by show(as.pl++[x]).length=_;rw[List.length_append,hs.len];rfl
  exact this▸AH.last
 have gi:=gd.st.turned (s:=⟨h',g,d',t,os⟩) (o:= .inst FZ (c.st.length+1)) px (Heap.SameBut.refl ..) ⟨ox,hx⟩ (λ_=>⟨ox,dx,hx,hcx,hncx,hdd,pd⟩) gd.st.tabx t;have hst:((((c.add .dead).add (.ns [])).setAt c.st.length (.inst FZ (c.st.length+1))).st)=c.st++[.inst FZ (c.st.length+1),.ns []]:=by simp[AC.add,AC.setAt]
 have G:Go AA e as.pl.length c as ⟨hh,g,d',t,os⟩ (((c.add .dead).add (.ns [])).setAt c.st.length (.inst FZ (c.st.length+1))) ((as.add x).add dx) ⟨h',g,d',t,os⟩:=gd.trans gi gd.len;have cv2:CVs h' ((as.add x).add dx) (.loc c.st.length::xs) (.ref x::us):=⟨_,_,rfl,⟨x,px,rfl⟩,G.cvs hs cv⟩;have hrc:LK (A.under (.builtin "type.__call__" ⟨.ref FZ::us,[]⟩)) n:=
  ⟨by have:=hr.depth;show A.depth+1<1000;exact oD this,λenv lk=>⟨by have:=hr.depth;show A.depth+1+1+2*n+50<=990;exact oD this,by have:=hr.units;show A.units+1+3+20*n+100<=9000;exact oD this,hr.quiet,TY lk⟩⟩
 have F63:LJ h' 63 fd []:=LL T (s:=⟨h',g,d',t,os⟩) G.st hfd;refine mU (acl:=[]) (s:=⟨h',g,d',t,os⟩) T ih G.st hrc ht F63 (IG hfd) (λx l q=>by exact BJ q) cv2 (by rw[hst];simpa using hb) h λc2 as2 s2 af v g2 q z=>?_;cases af with
 |next=>refine⟨z,?_⟩;have:=G.trans g2 G.len;exact .ofGo this (a:= .loc c.st.length) ⟨x,g2.evo.get (EC px) px,rfl⟩ q
 |ret z=>exact q.elim
 |brk=>exact q.elim
 |cont=>exact q.elim
noncomputable def wX(AA:AP)(n:Nat):Prop:=∀A e as s c us xs Q fd c',St AA c e as s.heap->AL A e (n+1)->1<=s.toks->CVs s.heap as xs us->DD 169=some fd->DS fd [] xs c.st c.st.length=some c'->Kg (AX n) fd.body c' (GO c Q)->
 wpAny (model pw AA.w) A (PySem.call (.ref 169) us) (AI AA e c as s Q) no s
theorem Eb(T:BH AA)(W:NH AA)(ih:Ok AA n)(X:wX AA n)(hs:St AA c e as s.heap)(hr:AL A e (n+1))(ht:1<=s.toks)(cvs:CVs s.heap as xs vs)(h:gO (AX n) a xs c Q):
  wpAny (model pw AA.w) A (PySem.call (.ref a) vs) (AI AA e c as s Q) no s:=by
 rcases DP h with⟨q1,h⟩|⟨_,h⟩
 .obtain rfl:=Nat.eq_of_beq_eq_true q1;obtain⟨c',h1,h2⟩:=AG h;exact wW T ih hs hr ht cvs rfl h1 h2
 rcases DP h with⟨q1,h⟩|⟨_,h⟩
 .obtain rfl:=Nat.eq_of_beq_eq_true q1
  .obtain⟨x,e1,h⟩:=AG h;obtain⟨ys,e2,h⟩:=AG h;obtain⟨is,h1,h⟩:=AG h;obtain⟨r,h2,q⟩:=AG h;obtain rfl:=CX e1;obtain rfl:=HO e2;obtain⟨v,rfl,cv1⟩:=ZN cvs;exact W.told hs (hr.le (Nat.succ_le_succ (Nat.zero_le _))) cv1 h1 h2 q
 rcases DP h with⟨q1,h⟩|⟨_,h⟩
 .obtain rfl:=Nat.eq_of_beq_eq_true q1;obtain⟨c',h1,h2⟩:=AG h;exact X A e as s c vs xs Q _ c' hs hr ht cvs rfl h1 h2
 obtain⟨fd,hfd,h⟩:=AG h;rcases DP h with⟨q1,h⟩|⟨_,h⟩
 .obtain⟨c',h1,h2⟩:=AG h;exact qB T ih hs hr ht (LL T hs hfd) (IG hfd) q1 cvs h1 h2
 .obtain⟨c',h1,h2⟩:=AG h;exact JK T ih hs hr ht (LL T hs hfd) (IG hfd) (acl:=[]) (λx l q=>by exact BJ q) cvs h1 h2
theorem Ec(hs:St AA c e as s.heap)(hr:AL A e (n+1)){id:String}(cvs:CVs s.heap as xs vs)(h:vG id xs c Q):wpAny (model pw AA.w) A (PySem.call (.type id) vs) (AI AA e c as s Q) no s:=by
 rcases DR h with⟨x,hx,h⟩|⟨_,h⟩
 .rcases DP h with⟨q1,h⟩|⟨_,h⟩
  .obtain⟨a,h1,h2⟩:=AD hx;obtain⟨v,rfl,cv1⟩:=ZN (CX h1▸cvs);obtain⟨t,rfl⟩:=(AU h2▸cv1:CV _ _ (.str x) v);exact eq_of_beq q1▸dJ hs hr (Nat.le_of_ble_eq_true (DT h).1) (DT h).2
  .obtain⟨z,hz,q⟩:=AG h;exact wR hs cvs hz q
 .obtain⟨z,hz,q⟩:=AG h;exact wR hs cvs hz q
theorem Ri(T:BH AA)(W:NH AA)(ih:Ok AA n)(X:wX AA n):B8 AA (n+1):=by
 intro f xs c Q h A e as s fv vs hs cv cvs hr ht;rcases DR (show ZE (AX n) f xs c Q from h)with⟨id,h1,h⟩|⟨_,h⟩
 .obtain rfl:fv= .builtin id:=(TE h1▸cv:CV _ _ (.blt id) fv);obtain⟨z,hz,q⟩:=AG h;exact Li hs hr cvs hz q λx t hx q=>WB hs hr hx q
 rcases DR h with⟨id,h1,h⟩|⟨_,h⟩
 .obtain rfl:fv= .type id:=(TF h1▸cv:CV _ _ (.typ id) fv);exact Ec hs hr cvs h
 rcases DR h with⟨a,h1,h⟩|⟨_,h⟩
 .obtain rfl:fv= .ref a:=(OI h1▸cv:CV _ _ (.fn a) fv);exact Eb T W ih X hs hr ht cvs h
 .obtain⟨l,h1,h⟩:=AG h;obtain⟨y,hy,h⟩:=AG h;obtain⟨cl,h2,h⟩:=AG h;obtain⟨b,hl,rfl⟩:=(CT h1▸cv:CV _ _ (.loc l) fv);exact wT T ih hs hr ht hl (hy.trans (congrArg some (TH h2))) cvs h
theorem wY(hs:St AA c e as h){v:Expr}{r:Option (List Str)}(x:lI c.fr.scope t v=some r):swappedStores [t] v e=pure r:=
 (show swappedStores [t] v e=swappedStores [t] v {scope:=e.scope,locals:=0,globals:=0,cells:=[]}from rfl).trans (hs.scope▸uJ x)
theorem CY{v:Expr}(h:MM v=false)(t:Option Expr)(l:Nat):swapsWith v t l e=pure false:=by cases v<;>first|rfl|exact tJ h
theorem dP(hs:St AA c e as s.heap){v:AV}(hx:uD c x=true)(h:DB c x=some v){f:Value->Shared->Prop}(q:∀r,CV s.heap as v r->f r s):
  wpAny (model pw AA.w) A (loadName e x) f no s:=by
 obtain⟨k,hk,h⟩:=AD h;obtain⟨k',hk',hx⟩:=bZ hx;obtain rfl:=sj (hk.symm.trans hk');replace hk:=(HA hs x).trans hk;cases k with
 |«local»=>obtain⟨m,lo⟩:=hs.locs;obtain⟨r,h1,h2⟩:=lo.val x v h;exact wpAny_loadName_local (CC hs) hk lo.ns h1 (q _ h2)
 |cell=>obtain⟨a,r,h2,h5,h6⟩:=LH hs h;exact wpAny_loadName_cell (CC hs) hk h2 h5 (q _ h6)
 |_=>exact ME hx
theorem gZ{st:List AO}{a b:AV}(ha:CV s.heap as a v)(hb:CV s.heap as b u)(h:TN st op a b=some z)(hop:WL op a b=true){w:World}{f:Value->Shared->Prop}(q:∀r t,CV s.heap as z r->f r {s with toks:=t}):
  wpAny (model pw w) A (inplaceOp op v u) f no s:=by
 cases op with
 |Add=>
  rcases BM h with⟨i,hi,h⟩|⟨hn,h⟩
  .obtain⟨j,hj,h⟩:=AD h;obtain⟨t,rfl⟩:=(AM hi▸ha:CV _ _ (.int i) v);obtain⟨t',rfl⟩:=(AM hj▸hb:CV _ _ (.int j) u);exact PyProof.Rows.iadd_int (q _ _ (sj h▸⟨_,rfl⟩))
  .rcases BM h with⟨x,hx,h⟩|⟨hn2,_⟩
   .obtain⟨y,hy,h⟩:=AD h;obtain⟨hc,h⟩:=AS h;obtain⟨t,rfl⟩:=(AU hx▸ha:CV _ _ (.str x) v);obtain⟨t',rfl⟩:=(AU hy▸hb:CV _ _ (.str y) u);refine SBL.iadd (λt' k _=>?_) (by show x.length+y.length<=sizeLine;rw[sizeLine_eq];exact oA hc);rw[vW];exact q _ _ (sj h▸⟨_,rfl⟩)
   .have hop:((BY a).isSome&&(BY b).isSome||(DF a).isSome&&(DF b).isSome)=true:=hop;rw[hn,hn2]at hop;exact ME hop
 |Mult=>
  rcases BM h with⟨i,hi,h⟩|⟨hn,h⟩
  .obtain⟨j,hj,h⟩:=AD h;obtain⟨hc,h⟩:=AS h;obtain⟨t,rfl⟩:=(AM hi▸ha:CV _ _ (.int i) v);obtain⟨t',rfl⟩:=(AM hj▸hb:CV _ _ (.int j) u);exact PyProof.Rows.imul_int (q _ _ (sj h▸⟨_,rfl⟩)) (IntMulOk.of_left (RN hc.1))
  .have hop:((BY a).isSome&&(BY b).isSome)=true:=hop;rw[hn]at hop;exact ME hop
 |_=>exact ME hop
theorem wZ(ih:Ok AA n)(hs:St AA c e as s.heap)(hr:AL A e (n+1))(ht:1<=s.toks){v:Expr}
  (h:mB (AX n) x op v c Q):wpAny (model pw AA.w) A (exec (.AugAssign (.Name x p) op v q) e) (CP AA e c as s Q) no s:=by
 obtain⟨hb,h⟩:=DT h;obtain⟨a,ha,h⟩:=AG h;refine wpAny_AugAssign_Name (dP hs hb ha λr cv=>JI ih hr h hs ht λc1 as1 b s1 u g cu k=>?_);obtain⟨w,h1,k⟩:=AG k;obtain⟨h2,k⟩:=DT k;obtain⟨c2,h3,k⟩:=AG k;refine BI (gZ (g.cv hs cv) cu h1 h2 λr t cw hkt=>?_);have g2:=g.trans (g.st.toks t) g.len;exact EK g2.st (cw:CV {s1 with toks:=t}.heap as1 w r) h3 λs' g3=>⟨c2,as1,.next,(g2.trans g3 g2.len).le hs.low,rfl,k⟩
theorem CVs.set{x:AV}(cv:CV h as x v):∀{vs:List Value} {i:Nat},CVs h as xs vs->CVs h as (xs.set i x) (vs.set i v):=by
 induction xs with
 |nil=>intro vs i z;obtain rfl:=z;rfl
 |cons y r ih=>
  intro vs i z;obtain⟨u,t,rfl,h1,h2⟩:=z;cases i with
  |zero=>exact⟨_,_,rfl,cv,h2⟩
  |succ i=>exact⟨_,_,rfl,h1,ih h2⟩
theorem dQ{K:Type}[DecidableEq K]{j i:K}{kvs:List (K×Value)}(hn:j∉kvs.map (·.1)):stored ((j,u)::kvs) i v=if j=i then(j,v)::kvs else(j,u)::stored kvs i v:=by
 unfold stored;by_cases q:j=i
 .rw[if_pos q,if_pos (by rw[List.any_cons,decide_eq_true q,Bool.true_or])];show(if j=i then(j,v)else(j,u))::_=_;rw[if_pos q];refine congrArg _ ((List.map_congr_left λy hy=>?_).trans (List.map_id _));exact if_neg λ(z:y.1=i)=>hn ((z.trans q.symm:y.1=j)▸List.mem_map_of_mem hy)
 .rw[if_neg q,List.any_cons,decide_eq_false q,Bool.false_or];by_cases z:(kvs.any λkv=>decide (kv.1=i))=true
  .rw[if_pos z,if_pos z];show(if j=i then(j,v)else(j,u))::_=_;rw[if_neg q]
  .rw[if_neg z,if_neg z];rfl
theorem qJ{k x:AV}{p:AV×AV}{es:List (AV×AV)}{b:Bool}(h:LA p.1 k=some b):NA k x (p::es)=cond b ((p.1,x)::es) (p::NA k x es):=by show BV (LA p.1 k) _ _=_;rw[h];rfl
theorem Rj{K:Type}[DecidableEq K]{f:K->AV}(hf:WS f){i:K}{x:AV}(cv:CV h as x v)(es:List (AV×AV)):∀(kvs:List (K×Value)),(kvs.map (·.1)).Nodup->es.map (·.1)=kvs.map (λe=>f e.1)->CVs h as (es.map (·.2)) (kvs.map (·.2))->
  (NA (f i) x es).map (·.1)=(stored kvs i v).map (λe=>f e.1)/\CVs h as ((NA (f i) x es).map (·.2)) ((stored kvs i v).map (·.2)):=by
 induction es with
 |nil=>
  intro kvs hn h2 h3;cases kvs with
  |nil=>exact⟨rfl,v,[],rfl,cv,rfl⟩
  |cons=>exact nI List.ctorIdx h2
 |cons p es ih=>
  intro kvs hn h2 h3;obtain⟨j,u,t,rfl,ek,cw,e2,cvs⟩:=wB h2 h3;obtain⟨hn1,hn2⟩:=List.nodup_cons.mp (show(j::t.map (·.1)).Nodup from hn);rw[dQ hn1,qJ (ek▸hf j i:LA p.1 (f i)=_)];by_cases q:j=i
  .rw[if_pos q,decide_eq_true q];exact⟨List.cons_eq_cons.mpr ⟨ek,e2⟩,v,_,rfl,cv,cvs⟩
  .rw[if_neg q,decide_eq_false q];obtain⟨k1,k2⟩:=ih t hn2 e2 cvs;exact⟨List.cons_eq_cons.mpr ⟨ek,k1⟩,u,_,rfl,cw,k2⟩
theorem UA(x:GZ h)(e:h.get? a=some ob)(hc:ob.cls≠ .none)(sb:Heap.SameBut a h h'):GZ h':=x.of e (.inl hc) λb o e1 e2=>(sb.2 b e2).trans e1
theorem mX(hs:St AA c e as s.heap){K:Type}[DecidableEq K]{knd:KeyKind pw AA.w K}{f:K->AV}(hf:WS f){es:List (AV×AV)}{i w:AV}{r:Option AV}(hl:as.pl[l]? =some b)(hw:CV s.heap as w wv)(hz:es.length<=1000)(d:WT knd f s.heap as es b i iv r)
  (co:∀h es,DK knd f h as es b->DK (intKind pw AA.w) .int h as es b\/DK (strKind pw AA.w) RM h as es b){P:Unit->Shared->Prop}(fin:∀g s',Go AA e as.pl.length c as s {c with st:=c.st.set l (.dict (NA i w es) g)} as s'->P () s'):wpAny (model pw AA.w) A (setItem (.ref b) iv wv) P no s:=by
 obtain⟨k,kvs,rfl,is,d1,d2,d3,_⟩:=d;have hle:kvs.length<=sizeLine:=by have:=congrArg List.length d2;rw[List.length_map,List.length_map]at this;rw[<-this,sizeLine_eq];exact oA hz
 refine wpAny_setItem_pairs is d1 (λh' d' sb=>?_) hle;obtain⟨o',_,_,ho',_⟩:=id d';obtain⟨_,_,_,hg,hgx,_,_,_,hnd⟩:=d1;refine fin o' _ (hs.turned (o:= .dict (NA (f k) w es) o') hl sb ⟨_,ho'⟩ (λM=>⟨ho',co _ _ ?_⟩) (UA hs.tabx hg (λz=>nI Value.ctorIdx (hgx.1.symm.trans z)) sb) (s.toks+1));obtain⟨p1,p2⟩:=Rj hf (i:=k) (CV.mono M _ _ hw) es kvs hnd d2 (CVs.mono M _ _ d3);exact⟨_,d',p1,p2⟩
theorem Ed(hs:St AA c e as s.heap){a i w:AV}(ha:CV s.heap as a av)(hi:CV s.heap as i iv)(hw:CV s.heap as w wv){f:Unit->Shared->Prop}
  (h:∀g,∃st,ZC c.st a i w g=some st/\∀s',Go AA e as.pl.length c as s {c with st:=st} as s'->f () s'):wpAny (model pw AA.w) A (setItem av iv wv) f no s:=by
 obtain⟨st0,h0,_⟩:=h default;obtain⟨F,hF,_⟩:=AZ h0;have fin:∀g s',Go AA e as.pl.length c as s {c with st:=F g} as s'->f () s':=λg=>by
  obtain⟨st,e1,k⟩:=h g;have e2:ZC c.st a i w g=some (F g):=by unfold ZC;rw[hF];rfl
  exact sj (e2.symm.trans e1)▸k
 obtain⟨l,h1,hF⟩:=AD hF;obtain⟨o,h2,hF⟩:=AD hF;obtain⟨b,hl,rfl⟩:=(CT h1▸ha:CV _ _ (.loc l) av);rcases BM hF with⟨xs,h3,hF⟩|⟨_,hF⟩
 .obtain⟨j,hj,hF⟩:=AD hF;obtain⟨hlt,hF⟩:=AS hF;obtain⟨ii,t,_,rfl,hj⟩:=ZJ hi hj;obtain⟨vs,n,e1,e2,e3⟩:=OV hs hl (h2.trans (congrArg some (MG h3)));obtain⟨k1,k2⟩:=NQ hj;refine ki_setAt e1 k1.1 (Int.lt_trans k1.2 (by decide)) (by rw[(JX hj).1,List.size_toArray,e3];exact Int.ofNat_lt.mpr hlt) ?_;have ho:=Heap.get?_update_self (Obj.mapSeq (·.setIfInBounds ii.toNat wv)) e1 rfl;have ho2:(s.heap.update b (Obj.mapSeq (·.setIfInBounds ii.toNat wv))).get? b=some {cls:= .type "list",dict:=none,data:= .seq (vs.set j wv).toArray n,slots:= #[]}:=by rw[ho];simp[Obj.mapSeq,k2]
  refine fin default _ (sj hF▸hs.turned (o:= .list (xs.set j w)) hl (Heap.SameBut.update ..) ⟨_,ho2⟩ (λM=>⟨vs.set j wv,⟨n,ho2⟩,CVs.mono M _ _ (CVs.set hw e2)⟩) (UA hs.tabx e1 (λz=>nomatch z) (Heap.SameBut.update ..)) s.toks)
 .obtain⟨es,h3,hF⟩:=AD hF;obtain⟨hz,hF⟩:=AS hF;obtain⟨r,hr,hF⟩:=AZ hF;obtain⟨g,h3⟩:=MK h3;replace fin:=λg=>(congrFun hF g▸fin g:∀s',Go AA e as.pl.length c as s {c with st:=c.st.set l (.dict (NA i w es) g)} as s'->f () s');rcases ZI (hs.at hl (h2.trans (congrArg some h3))) hi hr with d|d
  .exact mX hs vZ hl hw (Nat.le_of_ble_eq_true hz) d (λ_ _=> .inl) fin
  .exact mX hs wA hl hw (Nat.le_of_ble_eq_true hz) d (λ_ _=> .inr) fin
theorem xA{h:Heap}(hs:St AA c e as h){l':Nat}(h:as.pl[l]? =some a)(h':as.pl[l']? =some a):l=l':=
 (List.getElem_inj hs.nodup).mp ((List.getElem?_eq_some_iff.mp h).2.trans (List.getElem?_eq_some_iff.mp h').2.symm)
structure Rk(h h':Heap)(b dx:Nat)(ob o1:Obj)(x:Str)(wv:Value)(m:Str->Option Value):Prop where
 hob:h.get? b=some ob
 hobd:ob.dict=some dx
 k1:h'.get? b=some o1
 kc:o1.cls=ob.cls
 kd:o1.data=ob.data
 k5:o1.dict=some dx
 ns0:h.Ns1 dx m
 ns:h'.Ns1 dx (λy=>if y=x then some wv else m y)
 keep:∀b' o,h.get? b'=some o->b'≠b->b'≠dx->h'.get? b'=some o
theorem Ee{w:AV}{m:Str->Option Value}{W:World}(k:Rk h h' b dx ob o1 x wv m)(M:BR h as h' as)(hw:CV h as w wv)(i6:∀x,m x≠none->fs.lookup x≠none)(i7:∀x v,fs.lookup x=some v->IR h as m x v):CO W h' as (.ns (HW x w fs)) dx:=by
 refine⟨_,k.ns,λy hy=>?_,λy v hv=>?_⟩
 .rw[CE];by_cases q:y=x
  .rw[if_pos q];exactλz=>nomatch z
  .rw[if_neg q];exact i6 y λz=>hy ((if_neg q).trans z)
 .replace hv:=(CE ..).symm.trans hv;by_cases q:y=x
  .exact⟨wv,if_pos q,sj ((if_pos q).symm.trans hv)▸CV.mono M _ _ hw⟩
  .obtain⟨r,e1,e2⟩:=i7 y v ((if_neg q).symm.trans hv);exact⟨r,(if_neg q).trans e1,CV.mono M _ _ e2⟩
theorem Ef(hs:St AA c e as s.heap){t:Nat}{w:AV}{m:Str->Option Value}(k:Rk s.heap h' b dx ob o1 x wv m)(hl:as.pl[l]? =some b)(hx:c.st[l]? =some (.inst FZ d))(i1:as.pl[d]? =some dx)
  (i6:∀x,m x≠none->fs.lookup x≠none)(i7:∀x v,fs.lookup x=some v->IR s.heap as m x v)(hw:CV s.heap as w wv)(ht:s.toks<=t):Go AA e as.pl.length c as s {c with st:=c.st.set d (.ns (HW x w fs))} as {s with heap:=h',toks:=t}:=by
 obtain⟨mm,lo⟩:=hs.locs;have hb1:=List.mem_of_getElem? hl;have hd1:=List.mem_of_getElem? i1;obtain⟨o',dx',f1,f2,f3,f4,f5⟩:=hs.at hl hx;obtain rfl:=sj (k.hob.symm.trans f1);refine hs.step (c':={c with st:=c.st.set d (.ns (HW x w fs))}) ⟨rfl,Nat.le_refl _,λa o e1 e2 _ _=>k.keep a o e1 (λq=>e2 (q▸hb1)) (λq=>e2 (q▸hd1)),λa o e1=>?_,λ_ q1 q2=>absurd q1 q2⟩
  rfl rfl rfl List.length_set (λM l' o' e1=>?_) (λM=>⟨mm,lo.ns.at' λo e1=>k.keep _ o e1 (λq=>hs.loff (q▸hb1)) λq=>hs.loff (q▸hd1),λy u e1=>(lo.val y u e1).mono M⟩) (hs.tabx.elim λvs q=>⟨vs,k.keep _ _ q (λz=>?_) (GZ.ne q k.ns0.ns)⟩) t
 .by_cases q:a=b
  .exact⟨_,q▸k.k1⟩
  .by_cases q2:a=dx
   .exact q2▸k.ns.elim λo x=>x.elim λ_ x=>x.elim λ_ x=>⟨o,x.1⟩
   .exact⟨o,k.keep a o e1 q q2⟩
 .by_cases q:d=l'
  .have e2:=(List.getElem?_set_self (show d<c.st.length from hs.len▸EC i1)).symm.trans ((congrArg (_[·]?) q).trans e1);exact⟨dx,q▸i1,sj e2▸Ee k M hw i6 i7⟩
  .have e2:=(List.getElem?_set_ne q).symm.trans e1;obtain⟨b',e3,e4⟩:=hs.objs l' o' e2;refine⟨b',e3,?_⟩;by_cases q2:b'=b
   .have z:=xA hs (q2▸e3) hl;exact sj (hx.symm.trans (z▸e2))▸q2▸⟨o1,dx,k.k1,k.kc.trans f2,λc hc=>f3 c (k.kd.symm.trans hc),k.k5,sj (f4.symm.trans k.hobd)▸f5⟩
   .exact CO.mono M (λo'' h3=>k.keep b' o'' h3 q2 λz=>q (xA hs i1 (z▸e3))) e4
 .exact nI Value.ctorIdx (f2.symm.trans (congrArg Obj.cls (sj (f1.symm.trans (z▸q)))))
theorem mY(T:BH AA)(hs:St AA c e as s.heap){a w:AV}(ha:CV s.heap as a av)(hw:CV s.heap as w wv){st:List AO}(h:Ka c.st a x w=some st){f:Unit->Shared->Prop}
  (k:∀s',Go AA e as.pl.length c as s {c with st:=st} as s'->f () s'):wpAny (model pw AA.w) A (setAttr av x wv) f no s:=by
 obtain⟨⟨cc,d,fs⟩,hp,h⟩:=AD h;obtain⟨hc,h⟩:=AS h;obtain⟨hz,h⟩:=AS h;obtain⟨hc1,hc2⟩:=BG hc;obtain rfl:cc=FZ:=beq_iff_eq.mp hc1;obtain⟨l,b,_,rfl,hl,hx,hd,dx,m,i1,i2,i3,i4,⟨ob,hob,hobd⟩,i6,i7⟩:=OQ hs ha hp;obtain⟨N,mN,X,n1,n2,n3,n4,n5,n6⟩:=T.cls;obtain⟨nm,q',bs,sn,sub,col,dd,r0,r1,r2,r3,r5,hC⟩:=gP (X.keeps (hs.old T));have hbC:b≠FZ:=λq=>Kn.rec (λ_ _ _ _ _ _ _ _ _ _ _ _ hC0=>BJ ((hs.off b (List.mem_of_getElem? hl)).symm.trans (q▸hC0))) (gP X);obtain⟨hh,g,d',t,os⟩:=s;refine BI (store_attr F.store_object hC (X.keeps (hs.old T)).ns n3 (n4 _ hc2) (QP hc2) hbC i3 (λh' tk' I' hk hsame hkt=>?_) (ns:=fs.map (·.1)) (λy hy=>?_) (by rw[List.length_map,sizeLine_eq];exact oA hz))
 .obtain⟨o1,k1,k2,k3,k4,k5⟩:=hsame ob hob;have k5:=k5 dx hobd;have hns:h'.Ns1 dx (λy=>if y=x then some wv else m y):=by
   obtain⟨o2,e1,e2,e3,e4⟩:=I';have e1:=sj (k1.symm.trans e1);rcases e4 with⟨e5,_⟩|⟨d2,e5,_,e6⟩
   .exact tE (k5.symm.trans ((congrArg Obj.dict e1).trans e5))
   .exact sj (k5.symm.trans ((congrArg Obj.dict e1).trans e5))▸e6
  exact k _ (sj h▸Ef (s:=⟨hh,g,d',t,os⟩) hs ⟨hob,hobd,k1,k2,k3,k5,i4,hns,λb' o e1 e2 e3=>hk b' o e2 (λK1 dx' q1 q2 q3=>e3 (q3.trans (sj (q2.symm.trans ((congrArg Obj.dict (sj (q1.symm.trans hob))).trans hobd))))) e1⟩ hl hx i1 i6 i7 hw hkt)
 .cases q:fs.lookup y with
  |none=>exact absurd q (i6 y hy)
  |some v=>exact List.mem_map.mpr ⟨(y,v),FC q,rfl⟩
theorem hM(ih:Ok AA n)(hs:St AA c e as s.heap)(hr:AL A e (n+1))(ht:1<=s.toks){i v:Expr}(h:vJ (AX n) o i v c Q):wpAny (model pw AA.w) A (exec (.Assign [.Subscript o i p] v q) e) (CP AA e c as s Q) no s:=by obtain⟨hv,h⟩:=IO h;refine wpAny_Assign_Subscript (JI ih hr h hs ht λc1 as1 w s1 wv g1 v1 h1=>JI ih hr h1 g1.st (g1.tk ht) λc2 as2 a s2 av g2 v2 h2=>?_) (CY hv _ _);have G:=g1.trans g2 g1.len;refine JI ih hr h2 g2.st (G.tk ht) λc3 as3 b s3 bv g3 v3 h3=>?_;replace G:=G.trans g3 G.len;exact Ed g3.st (g3.cv g2.st v2) v3 (g3.cv g2.st (g2.cv g1.st v1)) λg=>Vf.rec (λst h4 k=>⟨st,h4,λs' g4=>⟨_,as3,.next,(G.trans g4 G.len).le hs.low,rfl,k⟩⟩) (AG (h3 g))
theorem dR(T:BH AA)(ih:Ok AA n)(hs:St AA c e as s.heap)(hr:AL A e (n+1))(ht:1<=s.toks){v:Expr}(h:lZ (AX n) o m v c Q):wpAny (model pw AA.w) A (exec (.Assign [.Attribute o m p] v q) e) (CP AA e c as s Q) no s:=by obtain⟨hv,h⟩:=IO h;refine plainObj_wpAny_Assign_Attribute (JI ih hr h hs ht λc1 as1 w s1 wv g1 v1 h1=>JI ih hr h1 g1.st (g1.tk ht) λc2 as2 a s2 av g2 v2 h2=>?_) (CY hv _ _);have G:=g1.trans g2 g1.len;obtain⟨st,h3,h2⟩:=AG h2;exact mY T g2.st v2 (g2.cv g1.st v1) h3 λs' g3=>⟨_,as2,.next,(G.trans g3 G.len).le hs.low,rfl,h2⟩
theorem Lm(ih:Ok AA n)(hs:St AA c e as s.heap)(hr:AL A e (n+1))(ht:1<=s.toks){x:Expr}(hv:MM x=false)(h:AX n (.eval x) c (FH λ_ c1=>Q (.f .next) c1)):wpAny (model pw AA.w) A (exec (.Expr x p) e) (CP AA e c as s Q) no s:=by refine wpAny_Expr_any (JI ih hr h hs ht λc1 as1 w s1 wv g1 v1 h1=>⟨c1,as1,.next,g1.le hs.low,rfl,h1⟩) ?_ (CY hv _ _);unfold interactive;exact(CC hs)▸rfl
theorem xB(h:Hz op=true):op= .Add:=by cases op<;>first|rfl|exact ME h
theorem xC(T:BH AA)(ih:Ok AA n)(hs:St AA c e as s.heap)(hr:AL A e (n+1))(ht:1<=s.toks){v:Expr}
  (h:mD (AX n) o m op v c Q):wpAny (model pw AA.w) A (exec (.AugAssign (.Attribute o m p) op v q) e) (CP AA e c as s Q) no s:=by
 refine wpAny_AugAssign_AttributeAny (JI ih hr h hs ht λc1 as1 a s1 av g1 v1 h1=>?_);obtain⟨x,hx,h1⟩:=AG h1;refine BI (mM T g1.st v1 hx λr t cx hkt=>?_);have g1':=g1.trans (g1.st.toks t) g1.len;refine JI ih hr h1 g1'.st (g1'.tk ht) λc2 as2 b s2 bv g2 v2 h2=>?_;have cx2:=g2.cv g1'.st (cx:CV {s1 with toks:=t}.heap as1 x r);have ca2:=g2.cv g1'.st (v1:CV {s1 with toks:=t}.heap as1 a av);obtain⟨ho,h2⟩:=DT h2;obtain⟨i,hi,h2⟩:=AG h2;obtain⟨j,hj,h2⟩:=AG h2;obtain⟨st,h3,h9⟩:=AG h2;obtain rfl:=xB ho;obtain⟨t1,rfl⟩:=(AM hi▸cx2:CV _ _ (.int i) r);obtain⟨t2,rfl⟩:=(AM hj▸v2:CV _ _ (.int j) bv);refine PyProof.Rows.iadd_int ?_;have G:=(g1'.trans g2 g1'.len).trans (g2.st.toks (s2.toks+1)) (Nat.le_trans g1'.len g2.len);exact mY T G.st (ca2:CV {s2 with toks:=s2.toks+1}.heap as2 a av) (w:= .int _) ⟨_,rfl⟩ h3 λs' g4=>⟨_,as2,.next,(G.trans g4 G.len).le hs.low,rfl,h9⟩
theorem qK{w:World}{E:Value->Shared->Prop}{I:Addr}{fp:List Addr}{P:Nat->Value->Prop}{St:Nat->Shared->Prop}(W:WalksS pw w A I fp wr G n P St)(k:Nat):
  ∀(i:Nat) (s:Shared) (Q:List Value->Shared->Prop),i+k<=n->St i s->(∀s' vs,Moved wr G s s'->St (i+k) s'->vs.length=k->(∀j v,vs[j]? =some v->P (i+j) v)->Q vs s')->wpAny (model pw w) A (draw (.ref I) k) Q E s:=by
 induction k with
 |zero=>exactλi s Q _ hst hQ=>wpAny_pure (hQ s [] ⟨λ_ _ _ e=>e,W.grefl _,rfl,rfl,Nat.le_refl _⟩ hst rfl (λj v h=>BJ (List.getElem?_nil.symm.trans h)))
 |succ k ih=>
  intro i s Q hle hst hQ;show wpAny _ _ (pyNext (.ref I)>>=_) Q E s;have e:∀j,i+(j+1)=i+1+j:=λj=>(Nat.succ_add _ _).symm;refine wpAny_bind (W.item i s _ _ (Nat.lt_of_lt_of_le (Nat.lt_add_of_pos_right (Nat.succ_pos _)) hle) hst λv s1 hP hst1 hm=>?_);refine wpAny_bind (wpAny_holding (ih (i+1) s1 _ (e k▸hle) hst1 λs2 vs hm2 hst2 hl hv=>wpAny_pure (hQ s2 (v::vs) (Moved.trans W.gtrans hm hm2) (e k▸hst2) (congrArg (· +1) hl) λj u h=>?_)));cases j with
  |zero=>exact sj h▸hP
  |succ j=>exact e j▸hv j u h
theorem QT{w:World}{E:Value->Shared->Prop}{l:Addr}{items:List Value}{P:List Value->Shared->Prop}(hh:A.handled=none)(hl:s.heap.IsList l items.toArray)
  (hQ:∀s',(∀b o,s.heap.get? b=some o->s'.heap.get? b=some o)->Sh s s'->P items s'):wpAny (model pw w) A (unpackItems (.ref l) items.length none) P E s:=by
 have hlt:l<s.heap.objs.size:=hl.elim λo x=>Heap.lt_size x.1;unfold unpackItems;refine wpAny_bind (wpAny_bind (wpAny_specialOf hl.typeIs PySem.F.slot_list_iter.lookup (wpAny_pure ?_)));show wpAny _ _ (holding [.ref l] (pyIter (.ref l))>>=_) _ _ _;refine wpAny_bind (wpAny_holding (wpAny_pyIter_list hl ?_));have W:=(Walks.list (prog:=pw) (w:=w) (A:=A) hh s.heap.objs.size l (Nat.ne_of_lt hlt) items.toArray).toS;refine wpAny_bind (wpAny_holding (qK W items.length 0 _ _ (Nat.le_of_eq (Nat.zero_add _)) ⟨⟨_,Heap.get?_push_size _ rfl,rfl,rfl⟩,hl.push _⟩ λs1 vs hm hst hlen hv=>?_));have hvs:vs=items:=by
  apply List.ext_getElem?;intro j;by_cases q:j<vs.length
  .have:=hv j _ (List.getElem?_eq_getElem q);rw[List.getElem?_eq_getElem q];simpa using this.symm
  .rw[List.getElem?_eq_none (Nat.le_of_not_lt q),List.getElem?_eq_none (Nat.le_trans (Nat.le_of_eq hlen.symm) (Nat.le_of_not_lt q))]
 subst hvs;rw[if_neg (Nat.lt_irrefl _)];refine wpAny_bind (wpAny_holding (W.done s1 _ _ (by simpa using hst) λs2 hm2=>?_));have hmm:=Moved.trans W.gtrans hm hm2;refine wpAny_pure (hQ s2 (λb o e=>hmm.heap b o (λhb=>?_) (Heap.get?_push_of_some _ e)) ⟨hmm.drawn,hmm.os,#[],hmm.gens,hmm.toks,.empty⟩);exact Nat.lt_irrefl _ (AR hb▸Heap.lt_size e)
noncomputable def Il(M:Model)(A:Around)(e:Env)(ts:List (Value->Sem Unit))(names:List Str):Prop:=
 ∀(j:Nat) (t:Value->Sem Unit) (x:Str),ts[j]? =some t->names[j]? =some x->∀(v:Value) (s:Shared) (P:Unit->Shared->Prop),wpAny M A (storeName e x v) P no s->wpAny M A (t v) P no s
theorem dS(names:List Str):∀(ts:List (Value->Sem Unit)) (vs:List AV) (us:List Value) (c c':AC) (s:Shared) {P:Unit->Shared->Prop},ts.length=names.length->Il (model pw AA.w) A e ts names->
  St AA c e as s.heap->CVs s.heap as vs us->GN c names vs=some c'->(∀s',Go AA e as.pl.length c as s c' as s'->P () s')->wpAny (model pw AA.w) A (assignInOrder ts us) P no s:=by
 induction names with
 |nil=>intro ts vs us c c' s P hl _ hs cv hb k;obtain rfl:=List.length_eq_zero_iff.mp hl;exact wpAny_pure (k s (sj (TA hb).2▸Go.refl hs (Nat.le_refl _)))
 |cons x names ih=>intro ts vs us c c' s P hl ht hs cv hb k;obtain⟨t,ts,rfl,hl2⟩:=TC hl;obtain⟨p,e1,hb⟩:=AD hb;obtain⟨c1,h3,h4⟩:=AD hb;obtain⟨u,us,rfl,h1,h2⟩:=(GG e1▸cv:CVs s.heap as (p.1::p.2) us);show wpAny _ _ (holding us (t u)>>= λ_=>assignInOrder ts us) _ _ _;exact wpAny_bind (wpAny_holding (ht 0 t x rfl rfl u s _ (EK hs h1 h3 λs1 g=>ih ts _ us c1 c' s1 hl2 (λj t x e1 e2=>ht (j+1) t x e1 e2) g.st (g.cvs hs h2) h4 λs' g'=>k s' (g.trans g' (Nat.le_refl _)))))
inductive Im(es:List Expr)(e:Env)(xs:List Str):Prop
 |mk (h1:(assignEach es e).length=xs.length) (h2:(assignEach es e).findIdx? (·.1)=none) (h3:∀(M:Model) (A:Around),Il M A e ((assignEach es e).map (·.2)) xs):Im es e xs
theorem ZP:∀{xs:List Str},SO es=some xs->Im es e xs:=by
 induction es with
 |nil=>exactλh=>sj h▸⟨rfl,rfl,λ_ _ j t x h1 _=>BJ (List.getElem?_nil.symm.trans h1)⟩
 |cons y r ih=>
  intro xs h;obtain⟨p,h1,h⟩:=AD h;obtain⟨ys,h2,rfl⟩:=AZ h;obtain⟨k1,k2,k3⟩:=ih h2;have he:assignEach (y::r) e=(false,assign (.Name p.1 p.2) e)::assignEach r e:=by rw[FA h1];rfl
  refine⟨(congrArg List.length he).trans (congrArg (· +1) k1),by rw[he,List.findIdx?_cons,k2];rfl,λM A j t z h1 h2=>?_⟩;rw[he]at h1;cases j with
  |zero=>exact sj h1▸sj h2▸ λv s P h=>assign_Name h
  |succ j=>exact k3 M A j t z h1 h2
theorem LM(hs:St AA c e as s.heap)(hr:AL A e n){a:AV}(cv:CV s.heap as a v)(hb:LC c t a=some c'){f:Unit->Shared->Prop}
  (k:∀s',Go AA e as.pl.length c as s c' as s'->f () s'):wpAny (model pw AA.w) A (assign t e v) f no s:=by
 rcases BM hb with⟨p,h1,hb⟩|⟨_,hb⟩
 .exact FA h1▸assign_Name (EK hs cv hb k)
 .obtain⟨es,h1,hb⟩:=AD hb;obtain⟨xs,hx,hb⟩:=AD hb;obtain⟨vs,hv,hb⟩:=AD hb;obtain⟨hl,hb⟩:=AS hb;obtain⟨k1,k2,k3⟩:=ZP (e:=e) hx;have fin:∀{us:List Value} {s1:Shared},Go AA e as.pl.length c as s c as s1->CVs s.heap as vs us->wpAny (model pw AA.w) A (assignInOrder ((assignEach es.1 e).map (·.2)) us) f no s1:=λg h3=>
   dS xs _ vs _ c c' _ (by rw[List.length_map,k1]) (k3 _ _) g.st (g.cvs hs h3) hb λs' g'=>k s' (g.trans g' g.len)
  rw[ML h1];rcases BM hv with⟨ys,h2,hv⟩|⟨_,hv⟩
  .obtain⟨b,us,rfl,h1,h2,h3⟩:=(sj hv▸JQ h2▸cv:CV _ _ (.ftup vs) v);exact assign_Tuple_tuple hr.quiet h2 (by rw[k1,List.size_toArray,CVs.length h3,hl]) k2 λh' hh=>fin (hs.ext (λa o e1=>hh a o (Nat.ne_of_lt (Heap.lt_size e1)) e1) s.toks) h3
  .obtain⟨b,us,rfl,h1,h2,h3⟩:=(HO hv▸cv:CV _ _ (.flist vs) v);rw[assign_Tuple];refine wpAny_bind (wpAny_standAt ?_);unfold unpack;rw[k2];refine wpAny_bind (wpAny_holding ?_);refine(Eq.symm k1)▸hl▸(CVs.length h3)▸?_;exact QT hr.quiet h2.isList λs1 hk sh=>fin (hs.extS hk sh) h3
theorem CVs.reverse:∀{vs:List Value},CVs h as xs vs->CVs h as xs.reverse vs.reverse:=by
 induction xs with
 |nil=>exactλz=>(show _=[]from z)▸rfl
 |cons x r ih=>intro vs z;obtain⟨v,t,rfl,h1,h2⟩:=z;have c1:CVs h as [x] [v]:=⟨v,[],rfl,h1,rfl⟩;rw[List.reverse_cons,List.reverse_cons];exact CVs.append c1 (ih h2)
theorem ZQ(ih:Ok AA n)(hs:St AA c e as s.heap)(hr:AL A e (n+1))(ht:1<=s.toks){ts vs:List Expr}
  (h:vI (AX n) (.Tuple ts k p) (.Tuple vs j q) c Q):wpAny (model pw AA.w) A (exec (.Assign [.Tuple ts k p] (.Tuple vs j q) r) e) (CP AA e c as s Q) no s:=by
 obtain⟨sw,hw,h⟩:=AG h;replace hw:=wY hs hw;cases sw with
 |none=>refine Assign_Tuple (JI ih hr h hs ht λc1 as1 w s1 wv g1 v1 h1=>?_) rfl hw;obtain⟨us,_,h1⟩:=AG h1;obtain⟨c2,h2,h3⟩:=AG (show on _ _ from h1);exact LM g1.st hr v1 h2 λs' g2=>⟨c2,as1,.next,(g1.trans g2 g1.len).le hs.low,rfl,h3⟩
 |some names=>refine Assign_Tuple_swapped (JI ih hr h hs ht λc1 as1 w s1 wv g1 v1 h1=>?_) rfl hw;obtain⟨us,hu,h1⟩:=AG h1;obtain⟨h2,h1⟩:=DT (show gd _ _ from h1);obtain⟨c2,h3,h4⟩:=AG h1;obtain⟨b,vs',rfl,e1,e2,e3⟩:=(JQ hu▸v1:CV _ _ (.ftup us) wv);refine(Nat.eq_of_beq_eq_true h2)▸(CVs.length e3)▸?_;refine unpackItems_tuple (items:=vs'.toArray) hr.quiet e2 λh' hh=>?_;have g:=g1.st.ext (λa o e1=>hh a o (Nat.ne_of_lt (Heap.lt_size e1)) e1) s1.toks;refine dS names.reverse _ us.reverse vs'.reverse c1 c2 {s1 with heap:=h'} (List.length_map ..) (λi t x q1 q2 v s P h=>?_) g.st (CVs.reverse (g.cvs g1.st e3)) h3 λs' g'=>⟨c2,as1,.next,((g1.trans g g1.len).trans g' g1.len).le hs.low,rfl,h4⟩;rw[List.getElem?_map,q2]at q1;exact sj q1▸bindName_ h
theorem St.shift(hs:St AA c e as s.heap)(k:∀a o,s.heap.get? a=some o->a∉as.hid->h'.get? a=some o)
  (hH:∀a∈H,(∃o,h'.get? a=some o)/\vU AA e.locals as.pl a)(offs:∀a o,s.heap.get? a=some o->as.off a->JV o->a∉H)(tb:GZ h'):
  St AA c e ⟨as.pl,H⟩ h'/\BR s.heap as h' ⟨as.pl,H⟩:=by
 have M:BR s.heap as h' ⟨as.pl,H⟩:=⟨λa o e1 h1 h2=>have:=offs a o e1 h1 h2;⟨k a o e1 h1.2.1,h1.1,this,h1.2.2⟩,λ_ _ e1=>e1⟩;obtain⟨m,hn,hl⟩:=hs.loc;refine⟨⟨λb o e1 e2=>k b o (hs.keep b o e1 e2) (λq=>BJ ((hs.hid b q).2.base.symm.trans e1)),hs.tab,tb,hs.len,hs.nodup,hs.off,hs.ptab,λl o e1=>LG.rec (λa e2 e3=>⟨a,e2,CO.mono M (λo' e4=>k a o' e4 λq=>(hs.hid _ q).2.1 (List.mem_of_getElem? e2)) e3⟩) (hs.objs l o e1),hs.loff,hs.lbase,hs.ltab,hs.scope,hs.kind,hs.glb,hs.blt,hs.cells,
  ⟨m,hn.at' λo e1=>k _ o e1 λq=>(hs.hid _ q).2.loc rfl,λy v e1=>(hl y v e1).mono M⟩,hs.low,hH⟩,M⟩
theorem St.bare(hs:St AA c e as s.heap)(h:∀a∈H,a∈as.hid):St AA c e ⟨as.pl,H⟩ s.heap/\BR s.heap as s.heap ⟨as.pl,H⟩:=
 hs.shift (λ_ _ e _=>e) (λa ha=>hs.hid a (h a ha)) (λa o _ h1 _ q=>h1.2.1 (h a q)) hs.tabx
theorem KH(h:l<k)(e:as.pl[l]? =some a):(as.pl.take k)[l]? =some a:=List.getElem?_take.trans ((if_pos h).trans e)
theorem KI(h:as.off a):AH.off ⟨as.pl.take k,as.hid⟩ a:=h.imp_left λh q=>h (List.mem_of_mem_take q)
theorem CV.trm(a:AV):∀(v:Value),a.lows k=true->CV h as a v->CV h ⟨as.pl.take k,as.hid⟩ a v:=
 AV.rec (motive_1:=λa=>∀v,a.lows k=true->CV h as a v->CV h ⟨as.pl.take k,as.hid⟩ a v) (motive_2:=λxs=>∀vs,lowss k xs=true->CVs h as xs vs->CVs h ⟨as.pl.take k,as.hid⟩ xs vs) (λ_ _ e=>e) (λ_ _ _ e=>e) (λ_ _ _ e=>e) (λ_ _ _ e=>e) (λ_ _ _ e=>e) (λ_ _ _ e=>e) (λ_ _ _ e=>e)
  (λ_ _ f e=>e.imp λ_ e=>e.imp_left (KH (Nat.le_of_ble_eq_true f))) (λ_ ih _ f e=>e.rec λa vs e o l p=>⟨a,vs,e,KI o,l,ih vs f p⟩) (λ_ ih _ f e=>e.rec λa vs e o l p=>⟨a,vs,e,KI o,l,ih vs f p⟩)
  (λ_ _ _ e=>e.imp λa=>Exists.imp λ_=>Exists.imp λ_=>Exists.imp λ_ e=>⟨e.1,KI e.2.1,e.2.2⟩) (λ_ _ _ e=>e) (λ_ _ e=>e) (λ_ _ ih1 ih2 _ f e=>e.rec λv t e p r=>⟨v,t,e,ih1 v (BG f).1 p,ih2 t (BG f).2 r⟩) a
theorem CVs.trm:∀{vs:List Value},lowss k xs=true->CVs h as xs vs->CVs h ⟨as.pl.take k,as.hid⟩ xs vs:=by
 induction xs with
 |nil=>exactλ_ e=>e
 |cons y r ih=>exactλf e=>e.rec λv t e p r=>⟨v,t,e,CV.trm y v (BG f).1 p,ih (BG f).2 r⟩
theorem xD{es:List (AV×AV)}(h:(es.all λe=>e.1.lows k&&e.2.lows k)=true):lowss k (es.map (·.2))=true:=by
 induction es with
 |nil=>rfl
 |cons e r ih=>obtain⟨h1,h2⟩:=BG (show((e.1.lows k&&e.2.lows k)&&r.all _)=true from h);exact Bool.and_eq_true_iff.mpr ⟨(BG h1).2,ih h2⟩
theorem DK.trm{w:World}{K:Type}[DecidableEq K]{knd:KeyKind pw w K}{f:K->AV}{es:List (AV×AV)}(g:(es.all λe=>e.1.lows k&&e.2.lows k)=true)(z:DK knd f h as es a):DK knd f h ⟨as.pl.take k,as.hid⟩ es a:=by obtain⟨kvs,h1,h2,h3⟩:=z;exact⟨kvs,h1,h2,CVs.trm (xD g) h3⟩
theorem CO.trm{w:World}{o:AO}(f:o.lows k=true)(z:CO w h as o a):CO w h ⟨as.pl.take k,as.hid⟩ o a:=by
 cases o with
 |list xs=>obtain⟨vs,h1,h2⟩:=z;exact⟨vs,h1,CVs.trm f h2⟩
 |dict es g=>exact And.imp_right (Or.imp (DK.trm f) (DK.trm f)) z
 |inst0 c=>exact z
 |inst c d=>exact Exists.imp (λ_ z=>Exists.imp (λ_ z=>z.imp_right (And.imp_right (And.imp_right (And.imp_right (KH (Nat.le_of_ble_eq_true f)))))) z) z
 |ns fs=>exact Exists.imp (λ_ z=>z.imp_right (And.imp_right λz x v e=>IR.rec (λr e1 e2=>⟨r,e1,CV.trm v r (CW f _ (FC e)) e2⟩) (z x v e))) z
 |cell v=>cases v with
  |none=>exact z
  |some y=>exact Exists.imp (λv z=>z.imp_right (CV.trm y v f)) z
 |clos cl=>obtain⟨o,fd,cd,h1,h2,hf,⟨oc,fs,t,h11,h12,h13,h14⟩,h15⟩:=z;exact⟨o,fd,cd,h1,h2,hf,⟨oc,fs,t,KI h11,h12,h13,h14⟩,λx l e=>(h15 x l e).imp λ_ q=>q.imp_left (KH (Nat.le_of_ble_eq_true (CW f _ (FC e))))⟩
 |citer s g=>exact Exists.imp (λ_ z=>Exists.imp (λ_ z=>Exists.imp (λ_ z=>⟨z.1,KI z.2.1,z.2.2.1,KH (Nat.le_of_ble_eq_true f) z.2.2.2⟩) z) z) z
 |dead=>exact z
 |tab=>exact z
theorem UB{l:List (Str×AV)}{v:AV}(h:(lE L l).lookup x=some v):l.lookup x=some v:=by
 unfold lE at h;induction L with
 |nil=>exact BJ h
 |cons y r ih=>
  rw[List.filterMap_cons]at h;cases q:l.lookup y with
  |none=>rw[q]at h;exact ih h
  |some u=>
   rw[q]at h;replace h:=(EV y x u _).symm.trans h;by_cases qx:x=y
   .exact qx▸q.trans ((if_pos qx).symm.trans h)
   .exact ih ((if_neg qx).symm.trans h)
theorem St.trim(hs:St AA c e as s.heap)(ok:c.trimOk k L=true):St AA (c.trim k L) e ⟨as.pl.take k,as.hid⟩ s.heap:=by
 obtain⟨o12,o4⟩:=BG ok;obtain⟨o12,o3⟩:=BG o12;obtain⟨m,hn,hl⟩:=hs.loc;rcases bY o12 with q|q
 .have hk:k=c.st.length:=Nat.eq_of_beq_eq_true q;have e1:c.st.take k=c.st:=by rw[hk];exact List.take_length
  have e2:as.pl.take k=as.pl:=by rw[hk,<-hs.len];exact List.take_length
  have e3:c.trim k L=⟨{c.fr with locals:=lE L c.fr.locals},c.st,c.lo⟩:=by unfold AC.trim;rw[e1]
  rw[e2,e3];exact{hs with loc:=⟨m,hn,λx v e1=>hl x v (UB e1)⟩}
 obtain⟨o1,o2⟩:=BG q;obtain⟨f1,f2⟩:=BG o2;refine⟨hs.keep,hs.tab,hs.tabx,(List.length_take ..).trans (hs.len▸(List.length_take ..).symm),hs.nodup.sublist (List.take_sublist _ _),λa ha=>hs.off a (List.mem_of_mem_take ha),True.intro,λl o e1=>?_,λha=>hs.loff (List.mem_of_mem_take ha),hs.lbase,hs.ltab,hs.scope,hs.kind,hs.glb,hs.blt,
  λx l e1=>(hs.cells x l e1).imp λ_ q=>q.imp_left (KH (Nat.le_of_ble_eq_true (CW f2 _ (FC e1)))),⟨m,hn,λx v e1=>IR.rec (λr e2 e3=>⟨r,e2,CV.trm v r (CW f1 _ (FC e1)) e3⟩) (hl x v (UB e1))⟩,?_,
  λa ha=>(hs.hid a ha).imp_right λq2=>⟨λq=>q2.pl (List.mem_of_mem_take q),q2.loc,q2.base,q2.nt⟩⟩
 .have e2:=List.getElem?_take.symm.trans (show(c.st.take k)[l]? =some o from e1);obtain⟨hlt,e2⟩:=AS e2;exact LG.rec (λa e3 e4=>⟨a,KH hlt e3,CO.trm (CW o1 o (List.mem_of_getElem? e1)) e4⟩) (hs.objs l o e2)
 .show c.lo<=(as.pl.take k).length;rw[List.length_take,hs.len];exact Nat.le_min.mpr ⟨Nat.le_of_ble_eq_true o4,Nat.le_trans (Nat.le_of_ble_eq_true o4) (Nat.le_of_ble_eq_true o3)⟩
theorem St.rel(hs:St AA c e as s.heap)(hk:k<=as.pl.length):St AA (c.rel k) e as s.heap:={hs with low:=hk}
structure NB(AA:AP)(A:Around)(t:Expr)(src:SM)(items:List AV)(c1:AC)(as1:AH)(s1:Shared)(I:Nat)(Hs:List Nat)(cont:List (Nat×Obj))(S:Nat->Heap->Prop):Prop where
 fresh:∀b∈Hs,s1.heap.get? b=none
 live:∀i h,S i h->∀b∈Hs,∃o,h.get? b=some o
 frame:∀i h h',S i h->(∀b∈Hs,∀o,h.get? b=some o->h'.get? b=some o)->(∀p∈cont,h'.get? p.1=some p.2)->S i h'
 keepC:∀(c:AC) (e:Env) (as:AH) (h:Heap),St AA c e as h->BR s1.heap as1 h as->FQ c1.st src c.st->∀p∈cont,h.get? p.1=some p.2
 item:∀(i:Nat) (x:AV) (c:AC) (e:Env) (as:AH) (s:Shared),items[i]? =some x->S i s.heap->St AA c e as s.heap->BR s1.heap as1 s.heap as->(∀b∈Hs,b∈as.hid)->∀P:Value->Shared->Prop,
  (∀v s',(∀b o,b∉Hs->s.heap.get? b=some o->s'.heap.get? b=some o)->Sh s s'->S (i+1) s'.heap->CV s'.heap as x v->P v s')->
  wpAny (model pw AA.w) A (pyNext (.ref I)) (λr s2=>match r with
   |some v=>wpAny (model pw AA.w) A (letOwnedTupleGo t (.ref I) v) (λ_ s'=>P v s') no s2
   |none=>False) no s
 done:∀(s:Shared) (P:Shared->Prop),S items.length s.heap->(∀s',(∀b o,b∉Hs->s.heap.get? b=some o->s'.heap.get? b=some o)->Sh s s'->P s')->
  wpAny (model pw AA.w) A (pyNext (.ref I)) (λr s2=>match r with
   |none=>P s2
   |some _=>False) no s
 self:∀(i:Nat) (s:Shared) (P:Value->Shared->Prop),S i s.heap->P (.ref I) s->wpAny (model pw AA.w) A (pyIter (.ref I)) P no s
theorem ZR(hs:St AA c e as s.heap)(h:∀b∈H,s.heap.get? b=none):∀a o,s.heap.get? a=some o->as.off a->JV o->a∉H++as.hid:=λa o e1 h1 _ q=>by exact(HV q).elim (λq=>BJ ((h a q).symm.trans e1)) h1.2.1
structure KU(AA:AP)(e:Env)(c1:AC)(as1:AH)(s1:Shared)(Hs:List Nat)(c:AC)(pl:List Nat)(s:Shared):Prop where
 st:St AA c e ⟨pl,Hs++as1.hid⟩ s.heap
 evo:QB as1.pl.length e.locals as1.pl s1.heap pl s.heap
 sh:Sh s1 s
theorem KU.mono{src:SM}{items:List AV}{cont:List (Nat×Obj)}(F:NB AA A t src items c1 as1 s1 I Hs cont S)(hs1:St AA c1 e as1 s1.heap)(x:KU AA e c1 as1 s1 Hs c pl s):BR s1.heap as1 s.heap ⟨pl,Hs++as1.hid⟩:=by obtain⟨m,hn,_⟩:=hs1.loc;refine⟨λa o e1 h1 h2=>⟨x.evo.same a o e1 h1.1 (h2.ne e1 hn) h1.2.2,x.evo.notin e1 h1.1,ZR hs1 F.fresh a o e1 h1 h2,h1.2.2⟩,λl a e1=>x.evo.get (EC e1) e1⟩
theorem KU.moved(hs1:St AA c1 e as1 s1.heap)(hf:∀b∈Hs,s1.heap.get? b=none)(x:KU AA e c1 as1 s1 Hs c pl s)(hk:∀b o,b∉Hs->s.heap.get? b=some o->s'.heap.get? b=some o)(sh:Sh s s')(live:∀b∈Hs,∃o,s'.heap.get? b=some o):
  KU AA e c1 as1 s1 Hs c pl s':=by
 have H:∀a,a∈Hs++as1.hid->∃o,s'.heap.get? a=some o:=λa ha=>by
  by_cases q:a∈Hs
  .exact live a q
  .obtain⟨⟨o,ho⟩,_⟩:=x.st.hid a ha;exact⟨o,hk a o q ho⟩
 obtain⟨st,M⟩:=x.st.shift (H:=Hs++as1.hid) (h':=s'.heap) (λa o e1 h1=>hk a o (λq=>h1 (List.mem_append_left _ q)) e1) (λa ha=>⟨H a ha,(x.st.hid a ha).2⟩) (λa o _ h1 _=>h1.2.1) (x.st.tabx.but (hs1.tabx.off hf) hk);refine⟨st,⟨x.evo.pre,x.evo.kle,λa o e1 e2 e3 e4=>hk a o (λq=>BJ ((hf a q).symm.trans e1)) (x.evo.same a o e1 e2 e3 e4),λa o e1=>?_,x.evo.new⟩,x.sh.trans sh⟩;obtain⟨o',e2⟩:=x.evo.alive a o e1;exact⟨o',hk a o' (λq=>BJ ((hf a q).symm.trans e1)) e2⟩
theorem KU.step(x:KU AA e c1 as1 s1 Hs c pl s)(g:Go AA e k c ⟨pl,Hs++as1.hid⟩ s c' as' s')(hk:as1.pl.length<=k):KU AA e c1 as1 s1 Hs c' as'.pl s'/\as'=⟨as'.pl,Hs++as1.hid⟩:=by
 have h:as'=⟨as'.pl,Hs++as1.hid⟩:=by obtain⟨a,b⟩:=as';have:=g.hid;simp only at this;rw[this]
 exact⟨⟨h▸g.st,x.evo.trans (g.evo.le hk),x.sh.trans g.sh⟩,h⟩
theorem KU.out(x:KU AA e c1 as1 s1 Hs c pl s)(hl:c1.lo<=as1.pl.length):Go AA e as1.pl.length c1 as1 s1 (c.rel c1.lo) ⟨pl,as1.hid⟩ s/\BR s.heap ⟨pl,Hs++as1.hid⟩ s.heap ⟨pl,as1.hid⟩:=by obtain⟨st,M⟩:=x.st.bare (s:=s) (H:=as1.hid) (λa ha=>List.mem_append_right _ ha);exact⟨⟨st.rel (Nat.le_trans hl x.evo.kle),x.evo,rfl,x.sh,rfl⟩,M⟩
theorem KU.trim(x:KU AA e c1 as1 s1 Hs c pl s)(hlo:c.lo=as1.pl.length)(ok:c.trimOk k L=true):KU AA e c1 as1 s1 Hs (c.trim k L) (pl.take k) s:=by
 have st:=x.st.trim (s:=s) ok;have hk:as1.pl.length<=k:=by exact Nat.le_trans (Nat.le_of_eq hlo.symm) (Nat.le_of_ble_eq_true (BG ok).2)
 refine⟨st,⟨?_,?_,x.evo.same,x.evo.alive,λa h1 h2=>x.evo.new a (List.mem_of_mem_take h1) h2⟩,x.sh⟩
 .rw[List.take_take,Nat.min_eq_left hk];exact x.evo.pre
 .have:=st.low;show as1.pl.length<=(pl.take k).length;refine hlo▸?_;exact this
theorem CF.mono(M:BR h as h' as'){a:ND}{f:Flow}(x:CF h as a f):CF h' as' a f:=by
 cases a with
 |ret z=>obtain⟨v,rfl,cv⟩:=x;exact⟨v,rfl,CV.mono M _ _ cv⟩
 |_=>exact x
inductive mZ(AA:AP)(e:Env)(c1:AC)(as1:AH)(s1:Shared)(Hs:List Nat)(z:Nat)(Inv:Nat->AC->Prop)(S:Nat->Heap->Prop)(m:Nat)(s:Shared):Prop
 |mk (i:Nat) (c2:AC) (pl:List Nat) (hi:i<=z) (hm:m=z-i) (hinv:Inv i c2) (tu:KU AA e c1 as1 s1 Hs c2 pl s) (hS:S i s.heap):mZ AA e c1 as1 s1 Hs z Inv S m s
theorem Ln(ih:Ok AA n)(hr:AL A e (n+1))(ht:1<=s1.toks)(hs1:St AA c1 e as1 s1.heap){b o:List Stmt}{src:SM}{items:List AV}{cont:List (Nat×Obj)}(F:NB AA A t src items c1 as1 s1 I Hs cont S)
  (hk:∀a o,s1.heap.get? a=some o->s2.heap.get? a=some o)(sh:Sh s1 s2)(h0:S 0 s2.heap)
  (h:QL (AX n) t b o c1 src items Q)(k:∀f s',CP AA e c1 as1 s1 Q f s'->R (.ok f) s'):
  codeAny (model pw AA.w) A (.forLoop t (.ref I) b o e) R s2:=by
 obtain⟨Inv,i0,i1,i2,i3⟩:=h;have no':∀{x:Value} {s:Shared} {E:Value->Shared->Prop},no x s->E x s:=λx=>x.elim;refine codeAny_forLoop_any (mZ AA e c1 as1 s1 Hs items.length Inv S) ?_ items.length ?_
 .rintro m s ⟨i,c2,pl,hi,rfl,hinv,tu,hS⟩;obtain⟨lo2,ks2⟩:=i1 i c2 hinv;have M:=tu.mono F hs1;have hl1:c1.lo<=as1.pl.length:=hs1.low;have lo2':c2.lo=as1.pl.length:=by rw[lo2,hs1.len]
  by_cases hi':i=items.length
  .subst hi';refine wpAny_mono (F.done s (λs3=>wpAny (model pw AA.w) A (execs o e) (λf s4=>R (.ok f) s4) (notedBy (model pw AA.w) A e λe s'=>R (.error e) s') s3) hS λs3 hk3 sh3=>?_)
    (λr s3 hr3=>by cases r with|none=>exact hr3|some v=>exact hr3.elim) λ_ _ x=>no' x
   have old:∀a∈as1.hid,∃o,s3.heap.get? a=some o:=λa ha=>by obtain⟨⟨o,ho⟩,_⟩:=hs1.hid a ha;obtain⟨⟨o',ho'⟩,_⟩:=tu.st.hid a (List.mem_append_right _ ha);exact⟨o',hk3 a o' (λq=>BJ ((F.fresh a q).symm.trans ho)) ho'⟩
   obtain⟨st3,_⟩:=tu.st.shift (H:=as1.hid) (h':=s3.heap) (λa o e1 h1=>hk3 a o (λq=>h1 (List.mem_append_left _ q)) e1) (λa ha=>⟨old a ha,(tu.st.hid a (List.mem_append_right _ ha)).2⟩) (λa o _ h1 _ q=>h1.2.1 (List.mem_append_right _ q)) (tu.st.tabx.but (hs1.tabx.off F.fresh) hk3);have ev3:QB as1.pl.length e.locals as1.pl s1.heap pl s3.heap:=⟨tu.evo.pre,tu.evo.kle,λa o e1 e2 e3 e4=>hk3 a o (λq=>BJ ((F.fresh a q).symm.trans e1)) (tu.evo.same a o e1 e2 e3 e4),λa o e1=>(tu.evo.alive a o e1).imp λo' e2=>hk3 a o' (λq=>BJ ((F.fresh a q).symm.trans e1)) e2,tu.evo.new⟩;have g3:Go AA e as1.pl.length c1 as1 s1 (c2.rel c1.lo) ⟨pl,as1.hid⟩ s3:=⟨(St.rel (s:=s3) st3 (Nat.le_trans hl1 tu.evo.kle)),ev3,rfl,tu.sh.trans sh3,rfl⟩;refine wpAny_mono (ih.Ss _ _ _ (i3 c2 hinv) _ _ _ _ g3.st (hr.le (Nat.le_succ _)) (g3.tk ht)) (λf s4 x=>k f s4 (CP.after hl1 g3 x)) λ_ _ x=>no' x
  .have hlt:i<items.length:=by exact Nat.lt_of_le_of_ne hi hi'
   obtain⟨c3,b1,b2⟩:=AG (i2 i _ c2 (List.getElem?_eq_getElem hlt) hinv);refine wpAny_mono (F.item i _ c2 e ⟨pl,Hs++as1.hid⟩ s (List.getElem?_eq_getElem hlt) hS tu.st M (λb hb=>List.mem_append_left _ hb) (λv s'=>wpAny (model pw AA.w) A (assign t e v) (λ_ GJ=>wpAny (model pw AA.w) A (execs b e) (λf IK=>match f with
     | .next| .cont=>∃m,m<items.length-i/\mZ AA e c1 as1 s1 Hs items.length Inv S m IK
     | .brk=>R (.ok .next) IK
     | .ret v=>R (.ok (.ret v)) IK) (notedBy (model pw AA.w) A e λe s'=>R (.error e) s') GJ) (notedBy (model pw AA.w) A e λe s'=>R (.error e) s') s') λv s3 hk3 sh3 hS3 cv3=>?_) (λr s3 hr3=>?_) λ_ _ x=>no' x
   .have tu3:=tu.moved hs1 F.fresh hk3 sh3 (F.live _ _ hS3);refine wpAny_mono (LM tu3.st hr cv3 b1 (f:=λ_ GJ=>_) λs5 g5=>?_) (λ_ _ x=>x) λ_ _ x=>no' x;obtain⟨tu5,e5⟩:=tu3.step g5 tu3.evo.kle;have lo3:c3.lo=as1.pl.length:=by rw[g5.lo];exact lo2'
    refine wpAny_mono (ih.Ss _ _ _ b2 _ _ _ _ g5.st (hr.le (Nat.le_succ _)) (Nat.le_trans ht tu5.sh.tk)) (λf s6 x=>CP.rec (λc4 as4 y g6 cf q=>?_) x) λ_ _ x=>no' x;obtain⟨tu6,e6⟩:=tu5.step g6 (by rw[lo3];exact Nat.le_refl _);have lo4:c4.lo=as1.pl.length:=by rw[g6.lo];exact lo3
    have hS6:∀k L,c4.trimOk k L=true->Inv (i+1) (c4.trim k L)->S (i+1) s6.heap:=λk L ok inv=>by have tr:=tu6.trim lo4 ok;refine F.frame _ _ _ hS3 (λb hb o ho=>?_) (F.keepC _ _ _ _ tr.st (tr.mono F hs1) (i1 _ _ inv).2);obtain⟨_,q2,q3,_,q5⟩:=tu3.st.hid b (List.mem_append_left _ hb);have h5:=g5.evo.same b o ho q2 q3 q5;obtain⟨_,r2,r3,_,r5⟩:=tu5.st.hid b (List.mem_append_left _ hb);exact g6.evo.same b o h5 r2 r3 r5
    have next:ON Inv (λm=>m=i+1) c4->∃m,m<items.length-i/\mZ AA e c1 as1 s1 Hs items.length Inv S m s6:=λx=>ON.rec (λk' L m ok hm inv=>⟨items.length-(i+1),Nat.sub_lt_sub_left hlt (Nat.lt_succ_self _),i+1,_,_,hlt,rfl,hm▸inv,tu6.trim lo4 ok,hS6 _ _ ok (hm▸inv)⟩) x;obtain⟨go,M6⟩:=tu6.out hl1;rw[e6]at cf;cases y with
    |next=>cases cf;exact next q
    |cont=>cases cf;exact next q
    |brk=>cases cf;exact k .next s6 ⟨_,_,.next,go.le hl1,rfl,q⟩
    |ret z=>obtain⟨v,rfl,cv⟩:=cf;exact k (.ret v) s6 ⟨_,_,.ret z,go.le hl1,⟨v,rfl,CV.mono M6 _ _ cv⟩,q⟩
   .cases r with
    |none=>exact hr3.elim
    |some v=>exact wpAny_mono hr3 (λ_ _ x=>x) λ_ _ x=>no' x
 .have live:=F.live 0 _ h0;have frs:∀b∈Hs,s1.heap.get? b=none:=F.fresh;have hid2:∀a∈Hs++as1.hid,(∃o,s2.heap.get? a=some o)/\vU AA e.locals as1.pl a:=λa ha=>by
   rcases HV ha with q|q
   .have f:=hs1.freshN (frs a q);refine⟨live a q,f.1,f.2.2,?_,f.2.1⟩;cases z:AA.get? a with
    |none=>rfl
    |some o=>exact BJ ((frs a q).symm.trans (hs1.keep a o z f.2.1))
   .obtain⟨⟨o,ho⟩,r⟩:=hs1.hid a q;exact⟨⟨o,hk a o ho⟩,r⟩
  obtain⟨st2,_⟩:=(hs1.rel (k:=as1.pl.length) (Nat.le_refl _)).shift (H:=Hs++as1.hid) (h':=s2.heap) (λa o e1 _=>hk a o e1) hid2 (ZR hs1 frs) (hs1.tabx.all hk);refine⟨0,c1.rel c1.st.length,as1.pl,Nat.zero_le _,rfl,i0,⟨hs1.len▸st2,⟨rfl,Nat.le_refl _,λa o e1 _ _ _=>hk a o e1,λa o e1=>⟨o,hk a o e1⟩,λ_ h1 h2=>absurd h1 h2⟩,sh⟩,h0⟩
theorem WY(hid:∀b∈Hs,b∈as.hid)(hk:∀b o,b∉Hs->h.get? b=some o->h'.get? b=some o):BR h as h' as:=
 ⟨λa o e1 h1 _=>⟨hk a o (λq=>h1.2.1 (hid a q)) e1,h1⟩,λ_ _ e1=>e1⟩
theorem EP(s:Shared)(h':Heap)(t:Nat)(ht:s.toks<=t):Sh s {s with heap:=h',toks:=t}:=⟨rfl,rfl,#[],by rfl,ht,.empty⟩
theorem NB.ofWalks{src:SM}{items:List AV}{wr:List Nat}{cont:List (Nat×Obj)}{P:Nat->Value->Prop}(W:Walks pw AA.w A I fp wr items.length P St')(hwr:∀b∈wr,b∈Hs)(hfp:∀b∈fp,b∈Hs\/∃o,(b,o)∈cont)
  (hc1:∀p∈cont,s1.heap.get? p.1=some p.2)(hfr:∀b∈Hs,s1.heap.get? b=none)(live:∀i h,St' i h->∀b∈Hs,∃o,h.get? b=some o)(hP:∀i v x,P i v->items[i]? =some x->CV s1.heap as1 x v)
  (keepC:∀(c:AC) (e:Env) (as:AH) (h:Heap),St AA c e as h->BR s1.heap as1 h as->FQ c1.st src c.st->∀p∈cont,h.get? p.1=some p.2)
  (hgo:∀i (s:Shared) (v:Value) (P:Unit->Shared->Prop),St' (i+1) s.heap->P () s->wpAny (model pw AA.w) A (letOwnedTupleGo t (.ref I) v) P no s):
  NB AA A t src items c1 as1 s1 I Hs cont λi h=>St' i h/\∀p∈cont,h.get? p.1=some p.2 where
 fresh:=hfr
 live:=λi h x=>live i h x.1
 frame:=λi h h' x k kc=>⟨W.frame i h h' x.1 λb hb o ho=>by
  rcases hfp b hb with q|⟨o',q⟩
  .exact k b q o ho
  .exact sj ((x.2 _ q).symm.trans ho)▸kc _ q,kc⟩
 keepC:=keepC
 item:=λi x c e as s hx hS hs M hid P k=>by have hi:i<items.length:=(EC hx);refine BI (W.item i s _ _ hi hS.1 λv h' tk hPv hS' hk htk=>?_);have hk':∀b o,b∉Hs->s.heap.get? b=some o->h'.get? b=some o:=λb o hb e1=>hk b o (λq=>hb (hwr b q)) e1;refine hgo i _ v _ hS' (k v {s with heap:=h',toks:=tk} hk' (EP _ _ _ htk) ⟨hS',λp hp=>?_⟩ (CV.mono (WY hid hk') _ _ (CV.mono M _ _ (hP i v x hPv hx))));exact hk' _ _ (λq=>tE ((hc1 p hp).symm.trans (hfr _ q))) (hS.2 p hp)
 done:=λs P hS k=>BI (W.done s _ _ hS.1 λh' tk hk htk=>k {s with heap:=h',toks:=tk} (λb o hb e1=>hk b o (λq=>hb (hwr b q)) e1) (EP _ _ _ htk))
 self:=λi s P hS k=>W.self i s _ _ hS.1 k
theorem OY{I:Value}{w:World}{P:Unit->Shared->Prop}(h:P () s):wpAny (model pw w) A (letOwnedTupleGo (.Name x p) I v) P no s:=wpAny_pure h
theorem Lo{w:World}{P:Unit->Shared->Prop}{o:Obj}{N:String}(ho:s.heap.get? I=some o)(hc:o.cls= .type N)(hN:["enumerate","zip","dict_itemiterator","dict_reverseitemiterator","odict_iterator","itertools.zip_longest","itertools.pairwise"].contains N=false)(h:P () s):
  wpAny (model pw w) A (letOwnedTupleGo (.Tuple es k p) (.ref I) v) P no s:=by
 unfold letOwnedTupleGo;cases v with
 |ref a=>
  refine wpAny_bind (wpAny_load ho ?_);rw[hc];cases o.data with
  |fields vs=>simp only[hN,Bool.false_and,Bool.false_eq_true,if_false];exact wpAny_pure h
  |_=>exact wpAny_pure h
 |_=>exact wpAny_pure h
inductive IB(AA:AP)(A:Around)(t:Expr)(src:SM)(items:List AV)(c1:AC)(as1:AH)(s1:Shared)(it:Value)(s2:Shared):Prop
 |mk (I:Nat) (Hs:List Nat) (cont:List (Nat×Obj)) (S:Nat->Heap->Prop) (e:it= .ref I) (F:NB AA A t src items c1 as1 s1 I Hs cont S) (k:∀a o,s1.heap.get? a=some o->s2.heap.get? a=some o) (sh:Sh s1 s2) (h0:S 0 s2.heap):IB AA A t src items c1 as1 s1 it s2
theorem HB:h.get? h.objs.size=none:=(IA.of (Nat.le_refl _)).none
theorem CV.char{c:Nat}{u:Tok}:CV h as (.str [c]) (.str ⟨#[c]⟩ u):=⟨u,rfl⟩
theorem dT{x:List Nat}(h:(AK x)[i]? =some z):∃c,x[i]? =some c/\ .str [c]=z:=by obtain⟨c,h1,h2⟩:=AZ (List.getElem?_map.symm.trans h);exact⟨c,h1,h2⟩
theorem xE{x:List Nat}(k:∃c u,(⟨x.toArray⟩:Str).cps[i]? =some c/\v= .str ⟨#[c]⟩ u)(h3:(AK x)[i]? =some z):CV h as z v:=by obtain⟨c,u,h1,h2⟩:=k;obtain⟨c',h4,rfl⟩:=dT h3;exact⟨u,h2.trans (sj ((by simpa using h1:x[i]? =some c).symm.trans h4)▸rfl)⟩
theorem WZ{x:List Nat}:(AK x).length=(⟨x.toArray⟩:Str).cps.size:=List.length_map ..
theorem Eg(hr:AL A e n){x:List Nat}(k:∀it s2,IB AA A (.Name y p) (.val (.str x)) (AK x) c1 as1 s1 it s2->P it s2):wpAny (model pw AA.w) A (pyIter (.str ⟨x.toArray⟩ tk)) P no s1:=by
 have fin:∀N,(∀A',A'.handled=none->Walks pw AA.w A' s1.heap.objs.size [s1.heap.objs.size] [s1.heap.objs.size] (⟨x.toArray⟩:Str).cps.size (SignAt ⟨x.toArray⟩) (λi h=>h.IsStrIter s1.heap.objs.size N ⟨x.toArray⟩ tk i))->∀o,Heap.IsStrIter (s1.heap.push o) s1.heap.objs.size N ⟨x.toArray⟩ tk 0->P (.ref s1.heap.objs.size) {s1 with heap:=s1.heap.push o}:=λN W o h0=>
  k _ _ ⟨s1.heap.objs.size,[s1.heap.objs.size],[],_,rfl,NB.ofWalks (WZ (x:=x)▸W A hr.quiet) (λb h=>h) (λb h=> .inl h) (λp h=>nomatch h) (λb h=>AR h▸HB) (λi h st b hb=>by rw[AR hb];obtain⟨o,ho,_⟩:=st;exact⟨o,ho⟩) (λ_ _ _=>xE) (λ_ _ _ _ _ _ _ p h=>nomatch h) (λi s v P _ h=>OY h),λ_ _ e1=>Heap.get?_push_of_some _ e1,EP s1 _ s1.toks (Nat.le_refl _),⟨h0,λp h=>nomatch h⟩⟩
 cases ha:(⟨x.toArray⟩:Str).cps.all (· <128)
 .exact wpAny_pyIter_wide ha (fin _ (λA' hA=>Walks.strWide hA _ _ tk) _ ⟨_,Heap.get?_push_size _ rfl,rfl,rfl⟩)
 .exact wpAny_pyIter_ascii ha (fin _ (λA' hA=>Walks.strAscii hA _ _ tk) _ ⟨_,Heap.get?_push_size _ rfl,rfl,rfl⟩)
theorem Eh(e2:CVs h as xs vs){x:AV}(h1:vs.toArray[i]? =some v)(h2:xs[i]? =some x):CV h as x v:=by obtain⟨u,h3,h4⟩:=CVs.get e2 h2;exact sj (h3.symm.trans (by simpa using h1))▸h4
inductive Lq(t:Expr):Prop
 |name (y:Str) (p:Pos) (e:t= .Name y p):Lq t
 |tup (es:List Expr) (k:Nat) (p:Pos) (e:t= .Tuple es k p):Lq t
theorem qL(hr:AL A e n)(ht:Lq t)(cv:CV s1.heap as1 (.flist xs) v)(k:∀it s2,IB AA A t (.val (.flist xs)) xs c1 as1 s1 it s2->P it s2):wpAny (model pw AA.w) A (pyIter v) P no s1:=by
 obtain⟨a,vs,rfl,off,⟨m,e1⟩,e2⟩:=cv;have hl:s1.heap.IsList a vs.toArray:=LI.isList ⟨m,e1⟩;have hlen:xs.length=vs.toArray.size:=(CVs.length e2).symm;refine wpAny_pyIter_list hl (k _ _ ⟨s1.heap.objs.size,[s1.heap.objs.size],[(a,{cls:= .type "list",dict:=none,data:= .seq vs.toArray m,slots:= #[]})],_,rfl,
  NB.ofWalks (hlen▸Walks.list (prog:=pw) (w:=AA.w) hr.quiet s1.heap.objs.size a (Nat.ne_of_lt (Heap.lt_size e1)) vs.toArray) (λb h=>h) (λb h=>(AN h).imp List.mem_singleton.mpr λq=>by rw[AR q];exact⟨_,.head _⟩) (λp h=>AR h▸e1) (λb h=>AR h▸HB) (λi h st b hb=>by rw[AR hb];obtain⟨⟨o,ho,_⟩,_⟩:=st;exact⟨o,ho⟩) (λi v x=>Eh e2) (λc e as h hs M _ p hp=>AR hp▸(M.1 a _ e1 off (.inl ⟨_,_,rfl⟩)).1) (λi s v P st h=>?_),
  λ_ _ e1=>Heap.get?_push_of_some _ e1,EP s1 _ s1.toks (Nat.le_refl _),⟨⟨⟨_,Heap.get?_push_size _ rfl,rfl,rfl⟩,hl.push _⟩,λp hp=>AR hp▸Heap.get?_push_of_some _ e1⟩⟩)
 rcases ht with⟨y,p,rfl⟩|⟨es,kk,p,rfl⟩
 .exact OY h
 .obtain⟨⟨o,ho,hc,_⟩,_⟩:=st;exact Lo ho hc (by decide) h
theorem Ei{m:Int}{x:AV}(h1:v= .int (0+(i:Int)*1) tk)(h2:(GY m)[i]? =some x):CV h as x v:=by obtain⟨w,h3,rfl⟩:=AZ (List.getElem?_map.symm.trans h2);obtain⟨_,e⟩:=List.getElem?_eq_some_iff.mp h3;exact⟨tk,h1.trans (by rw[<-e,List.getElem_range,Int.mul_one,Int.zero_add])⟩
theorem qM(hr:AL A e n){m:Int}(hm:0<=m/\m<=1000)(cv:CV s1.heap as1 (.range m) v)(k:∀it s2,IB AA A (.Name y p) (.val (.range m)) (GY m) c1 as1 s1 it s2->P it s2):wpAny (model pw AA.w) A (pyIter v) P no s1:=by
 obtain⟨a,t1,t2,t3,rfl,off,e1⟩:=cv;have hsz:Builtin.Range.rangeSize 0 m 1=(m.toNat:Int):=by rw[rangeSize_one];split<;>lia
 have hsmall:=small_one (a:=0) (b:=m) (by decide) (by decide) (by exact iD hm.1) (by exact iD hm.2);have hlen:(GY m).length=m.toNat:=(List.length_map ..).trans List.length_range;refine wpAny_pyIter_range e1 hsmall (k _ _ ⟨s1.heap.objs.size,[s1.heap.objs.size],[],_,rfl,
  NB.ofWalks (hlen▸Walks.range (prog:=pw) (w:=AA.w) hr.quiet s1.heap.objs.size 0 1 m.toNat) (λb h=>h) (λb h=> .inl h) (λp h=>nomatch h) (λb h=>AR h▸HB) (λi h st b hb=>by rw[AR hb];exact⟨_,st⟩) (λi v x h1 h2=>h1.elim λtk h1=>Ei h1 h2) (λ_ _ _ _ _ _ _ p h=>nomatch h) (λi s v P _ h=>OY h),
  λ_ _ e1=>Heap.get?_push_of_some _ e1,EP s1 _ s1.toks (Nat.le_refl _),⟨?_,λp h=>nomatch h⟩⟩)
 refine(Eq.symm hsz)▸?_;have:IsRangeIter (s1.heap.push {cls:= .type "range_iterator",data:= .fields #[rawInt 0,rawInt (m.toNat:Int),rawInt 1]}) s1.heap.objs.size 0 (m.toNat:Int) 1:=Heap.get?_push_size _ rfl;rw[hlen];exact this
theorem dU(T:BH AA)(hr:AL A e n)(hs1:St AA c1 e as1 s1.heap){es:List (AV×AV)}{g:Obj}(hl:as1.pl[l]? =some a)(hx:c1.st[l]? =some (.dict es g))(h2:s1.heap.get? a=some g)
  (k:∀it s2,IB AA A (.Name y p) (.val (.loc l)) (es.map (·.1)) c1 as1 s1 it s2->P it s2){K:Type}[DecidableEq K]{knd:KeyKind pw AA.w K}{f:K->AV}(d:DK knd f s1.heap as1 es a)(hv:∀{q:K} {v:Value},knd.is q v=true->CV s1.heap as1 (f q) v):wpAny (model pw AA.w) A (pyIter (.ref a)) P no s1:=by
 obtain⟨kvs,hd,d2,d3⟩:=d;have hlen:es.length=kvs.length:=by have:=congrArg List.length d2;rwa[List.length_map,List.length_map]at this
 obtain⟨ep,hat⟩:=hd.dictAt;have hlen':(es.map (·.1)).length=kvs.length:=by rw[List.length_map];exact hlen
 refine wpAny_pyIter_dict (TX T hs1 hl) hat (k _ _ ⟨s1.heap.objs.size,[s1.heap.objs.size],[(a,g)],_,rfl,
  NB.ofWalks (hlen'▸Walks.dictKeys (prog:=pw) (w:=AA.w) (knd:=knd) hr.quiet s1.heap.objs.size a (Nat.ne_of_lt (Heap.lt_size h2)) kvs ep) (λb h=>h) (λb h=>(AN h).imp List.mem_singleton.mpr λq=>by rw[AR q];exact⟨_,.head _⟩) (λp h=>AR h▸h2) (λb h=>AR h▸HB) (λi h st b hb=>by rw[AR hb];obtain⟨⟨o,ho,_⟩,_⟩:=st;exact⟨o,ho⟩) (λi v x h1 h3=>?_) (λc e as h hs M ks p hp=>?_) (λi s v P _ h=>OY h),
  λ_ _ e1=>Heap.get?_push_of_some _ e1,EP s1 _ s1.toks (Nat.le_refl _),⟨⟨by rw[hlen'];exact⟨_,Heap.get?_push_size _ rfl,rfl,rfl⟩,by rw[hlen']at*;exact hat.at' λo e1=>Heap.get?_push_of_some _ e1⟩,λp hp=>AR hp▸Heap.get?_push_of_some _ h2⟩⟩)
 .obtain⟨q,z,h1,h4⟩:=h1;rw[d2,List.getElem?_map,h1]at h3;exact sj h3▸hv h4
 .have ks:c.st[l]? =c1.st[l]? :=ks;exact AR hp▸(hs.at (M.2 _ _ hl) (ks.trans hx)).1
theorem xF(T:BH AA)(hr:AL A e n)(hs1:St AA c1 e as1 s1.heap){es:List (AV×AV)}{g:Obj}(hx:c1.st[l]? =some (.dict es g))(cv:CV s1.heap as1 (.loc l) v)
  (k:∀it s2,IB AA A (.Name y p) (.val (.loc l)) (es.map (·.1)) c1 as1 s1 it s2->P it s2):wpAny (model pw AA.w) A (pyIter v) P no s1:=by
 obtain⟨a,hl,rfl⟩:=cv;obtain⟨h2,h3⟩:=hs1.at hl hx;rcases h3 with d|d
 .exact dU T hr hs1 hl hx h2 k d λh=>Value.isInt_shape h
 .exact dU T hr hs1 hl hx h2 k d λh=>Value.isStrOf_shape h
theorem NB.ofWalksT{src:SM}{items:List AV}{wr:List Nat}{cont:List (Nat×Obj)}{Pt:Nat->Array Value->Prop}{Mid:Nat->Nat->Heap->Prop}
  (W:WalksT pw AA.w A I fp wr items.length Pt St' Mid)(hwr:∀b∈wr,b∈Hs)(hfp:∀b∈fp,b∈Hs\/∃o,(b,o)∈cont)
  (hc1:∀p∈cont,s1.heap.get? p.1=some p.2)(hfr:∀b∈Hs,s1.heap.get? b=none)(live:∀i h,St' i h->∀b∈Hs,∃o,h.get? b=some o)
  (hP:∀i vals x,Pt i vals->items[i]? =some x->∃ys,x= .ftup ys/\CVs s1.heap as1 ys vals.toList)
  (keepC:∀(c:AC) (e:Env) (as:AH) (h:Heap),St AA c e as h->BR s1.heap as1 h as->FQ c1.st src c.st->∀p∈cont,h.get? p.1=some p.2):
  NB AA A (.Tuple es k p) src items c1 as1 s1 I Hs cont λi h=>St' i h/\∀p∈cont,h.get? p.1=some p.2 where
 fresh:=hfr
 live:=λi h x=>live i h x.1
 frame:=λi h h' x k kc=>⟨W.frame i h h' x.1 λb hb o ho=>by
  rcases hfp b hb with q|⟨o',q⟩
  .exact k b q o ho
  .exact sj ((x.2 _ q).symm.trans ho)▸kc _ q,kc⟩
 keepC:=keepC
 item:=λi x c e as s hx hS hs M hid P kk=>by
  have hi:i<items.length:=(EC hx);refine BI (W.item i s _ _ hi hS.1 λT vals h' tk hPv hT hTup hMid hk htk=>?_);have hk':∀b o,b∉Hs->s.heap.get? b=some o->h'.get? b=some o:=λb o hb e1=>hk b o (λq=>hb (hwr b q)) e1;refine W.go es k p i T _ _ _ hMid λh'' hS'' hk2=>?_;have hk2':∀b o,b∉Hs->s.heap.get? b=some o->h''.get? b=some o:=λb o hb e1=>hk2 b o (λq=>hb (hwr b q)) (hk' b o hb e1);obtain⟨ys,rfl,cy⟩:=hP i vals x hPv hx;refine kk (.ref T) {s with heap:=h'',toks:=tk} hk2' (EP _ _ _ htk) ⟨hS'',λp hp=>?_⟩ ?_
  .exact hk2' _ _ (λq=>tE ((hc1 p hp).symm.trans (hfr _ q))) (hS.2 p hp)
  .obtain⟨o,ho,hcls,n,hd⟩:=hTup;refine⟨T,vals.toList,rfl,hs.offA (IA.of hT),⟨o,hk2 T o (W.apart i T h' hMid) ho,hcls,n,by exact hd⟩,CVs.mono (WY hid hk2') _ _ (CVs.mono M _ _ cy)⟩
 done:=λs P hS k=>BI (W.done s _ _ hS.1 λh' tk hk htk=>k {s with heap:=h',toks:=tk} (λb o hb e1=>hk b o (λq=>hb (hwr b q)) e1) (EP _ _ _ htk))
 self:=λi s P hS k=>W.self i s _ _ hS.1 k
theorem ZS:∀(k:Int) (i:Nat) (z:AV),(ES k xs)[i]? =some z->∃x,xs[i]? =some x/\z= .ftup [.int (k+i),x]:=by
 induction xs with
 |nil=>exactλ_ _ _ h=>BJ h
 |cons x r IH=>
  refineλk i z h=>?_;cases i with
  |zero=>exact⟨x,rfl,(Int.add_zero k).symm▸(sj h).symm⟩
  |succ i=>obtain⟨y,h1,h2⟩:=IH (k+1) i z h;exact⟨y,h1,h2.trans (by rw[Int.natCast_succ,Int.add_assoc,Int.add_comm 1])⟩
theorem ZT(xs:List AV):∀k:Int,(ES k xs).length=xs.length:=by
 induction xs with
 |nil=>exactλ_=>rfl
 |cons x r IH=>exactλk=>congrArg Nat.succ (IH (k+1))
theorem xG{a b:AV}(h1:CV h as a v)(h2:CV h as b u):CVs h as [a,b] (#[v,u]:Array Value).toList:=
 ⟨v,[u],rfl,h1,u,[],rfl,h2,rfl⟩
theorem UC{src:SM}{cont:List (Nat×Obj)}{Pd:Nat->Value->Prop}{Sd:Nat->Heap->Prop}(D:Draws pw AA.w A.in1 s1.heap.objs.size fp xs.length Pd Sd)(hif:s1.heap.objs.size∈fp)(hef:s1.heap.objs.size+1∉fp)
  (hfp:∀b∈fp,b=s1.heap.objs.size\/∃o,(b,o)∈cont)(hc1:∀p∈cont,s1.heap.get? p.1=some p.2)(hP:∀i v x,Pd i v->xs[i]? =some x->CV s1.heap as1 x v)
  (keepC:∀(c:AC) (e:Env) (as:AH) (h:Heap),St AA c e as h->BR s1.heap as1 h as->FQ c1.st src c.st->∀p∈cont,h.get? p.1=some p.2)
  (he:IsEnum h' (s1.heap.objs.size+1) s1.heap.objs.size 0 .none)(h0:Sd 0 h')(hk:∀b o,s1.heap.get? b=some o->h'.get? b=some o)(kk:∀it s2,IB AA A (.Tuple es k p) src (ES 0 xs) c1 as1 s1 it s2->P it s2):
  wpAny (model pw AA.w) A (pyIter (.ref (s1.heap.objs.size+1))) P no {s1 with heap:=h'}:=by
 have ne:s1.heap.objs.size+1≠s1.heap.objs.size:=by exact Nat.succ_ne_self _
 have hlen:=ZT xs 0;refine wpAny_pyIter_enum he (kk _ _ ⟨s1.heap.objs.size+1,[s1.heap.objs.size+1,s1.heap.objs.size],cont,_,rfl,
  NB.ofWalksT (hlen.symm▸WalksT.enumerateD D (s1.heap.objs.size+1) ne hef hif) (λb h=>h) (λb h=>?_) hc1 (λb h=>?_) (λi h st b hb=>?_) (λi vals x q h3=>?_) keepC,hk,EP s1 h' s1.toks (Nat.le_refl _),⟨⟨⟨_,by exact he⟩,h0⟩,λp hp=>hk _ _ (hc1 p hp)⟩⟩)
 .rcases AN h with q|q
  .rw[q];exact .inl (.head _)
  .exact(hfp b q).imp_left λq=>by rw[q];exact .tail _ (.head _)
 .exact(IA.of ((AN h).elim (λq=>Nat.le_trans (Nat.le_add_right _ _) (Nat.le_of_eq q.symm)) λq=>Nat.le_of_eq (AR q).symm)).none
 .obtain⟨⟨old,h1⟩,h2⟩:=st;rcases AN hb with q|q
  .rw[q];exact⟨_,h1⟩
  .rw[AR q];exact D.live _ _ h2
 .obtain⟨t,y,h1,h2⟩:=q;obtain⟨z,h4,rfl⟩:=ZS 0 i x h3;exact h2▸⟨_,rfl,xG ⟨t,by rw[Int.zero_add]⟩ (hP i y z h1 h4)⟩
theorem ZU(hr:AL A e n){x:List Nat}(kk:∀it s2,IB AA A (.Tuple es k p) (.enum (.str x)) (ES 0 (AK x)) c1 as1 s1 it s2->P it s2):
  wpAny (model pw AA.w) A (PySem.call (.type "enumerate") [.str ⟨x.toArray⟩ tk]) (λv s'=>wpAny (model pw AA.w) A (pyIter v) P no s') no s1:=by
 refine call_enumerate_str λh' he hi hz hk=>?_;have fin:∀N,h'.IsStrIter s1.heap.objs.size N ⟨x.toArray⟩ tk 0->Draws pw AA.w A.in1 s1.heap.objs.size [s1.heap.objs.size] (⟨x.toArray⟩:Str).cps.size (λi v=>∃c u,(⟨x.toArray⟩:Str).cps[i]? =some c/\v= .str ⟨#[c]⟩ u) (λi h=>h.IsStrIter s1.heap.objs.size N ⟨x.toArray⟩ tk i)->wpAny (model pw AA.w) A (pyIter (.ref (s1.heap.objs.size+1))) P no {s1 with heap:=h'}:=λN hi D=>
  UC (xs:=AK x) (cont:=[]) (WZ (x:=x)▸D) (.head _) (λq=>Nat.succ_ne_self _ (AR q)) (λb h=> .inl (AR h)) (λp h=>nomatch h) (λ_ _ _=>xE) (λ_ _ _ _ _ _ _ p h=>nomatch h) he hi hk kk
 by_cases ha:(⟨x.toArray⟩:Str).cps.all (· <128)=true
 .exact fin _ ((show strIterType ⟨x.toArray⟩=_ from if_pos ha)▸hi) (Draws.strAscii (A:=A.in1) hr.quiet _ _ tk)
 .exact fin _ ((show strIterType ⟨x.toArray⟩=_ from if_neg ha)▸hi) (Draws.strWide (A:=A.in1) hr.quiet _ _ tk)
theorem hV(hlt:a<N):N+1∉[N,a]:=λq=>(AN q).elim (Nat.succ_ne_self _) λq=>Nat.lt_asymm hlt (Nat.lt_of_lt_of_eq (Nat.lt_succ_self N) (AR q))
theorem hZ{o:Obj}(h:b∈[N,a]):b=N\/∃o',(b,o')∈[(a,o)]:=by
 rcases AN h with q|q
 .exact .inl q
 .rw[AR q];exact .inr ⟨o,.head _⟩
theorem UD(hr:AL A e n)(cv:CV s1.heap as1 (.flist xs) v)(kk:∀it s2,IB AA A (.Tuple es k p) (.enum (.flist xs)) (ES 0 xs) c1 as1 s1 it s2->P it s2):
  wpAny (model pw AA.w) A (PySem.call (.type "enumerate") [v]) (λv s'=>wpAny (model pw AA.w) A (pyIter v) P no s') no s1:=by
 obtain⟨a,vs,rfl,off,⟨m,e1⟩,e2⟩:=cv;have hl:s1.heap.IsList a vs.toArray:=LI.isList ⟨m,e1⟩;have hlt:=Heap.lt_size e1;have hlen:xs.length=vs.toArray.size:=(CVs.length e2).symm;exact call_enumerate_list hl λh' he hi hz hk=>UC (xs:=xs) (cont:=[(a,{cls:= .type "list",dict:=none,data:= .seq vs.toArray m,slots:= #[]})]) (hlen▸Draws.list (prog:=pw) (w:=AA.w) (A:=A.in1) hr.quiet s1.heap.objs.size a (Nat.ne_of_lt hlt) vs.toArray) (.head _) (hV hlt) (λb=>hZ) (λp h=>AR h▸e1) (λi v x=>Eh e2) (λc e as h hs M _ p hp=>AR hp▸(M.1 a _ e1 off (.inl ⟨_,_,rfl⟩)).1) he ⟨hi,hl.at λo e=>hk _ o e⟩ hk kk
theorem xH(h:(cB xs ys)[i]? =some z):∃x y,xs[i]? =some x/\ys[i]? =some y/\z= .ftup [x,y]:=by obtain⟨x,y,h1,h2,h3⟩:=List.getElem?_zipWith_eq_some.mp h;exact⟨x,y,h1,h2,h3.symm⟩
theorem xI(xs ys:List AV):(cB xs ys).length=min xs.length ys.length:=List.length_zipWith
theorem Rl{α:Type}{P:α->Prop}{a b c d e:α}(ha:P a)(hb:P b)(hc:P c)(hd:P d)(he:P e):∀x∈[a,b,c,d,e],P x:=
 List.forall_mem_cons.mpr ⟨ha,List.forall_mem_cons.mpr ⟨hb,List.forall_mem_cons.mpr ⟨hc,List.forall_mem_cons.mpr ⟨hd,List.forall_mem_cons.mpr ⟨he,λ_ h=>nomatch h⟩⟩⟩⟩⟩
theorem Ej(hr:AL A e n)(cv:CV s1.heap as1 (.flist xs) v)(cu:CV s1.heap as1 (.flist ys) u)(kk:∀it s2,IB AA A (.Tuple es k p) (.zip (.flist xs) (.flist ys)) (cB xs ys) c1 as1 s1 it s2->P it s2):
  wpAny (model pw AA.w) A (PySem.call (.type "zip") [v,u]) (λv s'=>wpAny (model pw AA.w) A (pyIter v) P no s') no s1:=by
 obtain⟨a,vs,rfl,off,⟨m,e1⟩,e2⟩:=cv;obtain⟨b,us,rfl,off',⟨m',e1'⟩,e2'⟩:=cu;have hl:s1.heap.IsList a vs.toArray:=LI.isList ⟨m,e1⟩;have hl':s1.heap.IsList b us.toArray:=LI.isList ⟨m',e1'⟩;have hlt:=Heap.lt_size e1;have hlt':=Heap.lt_size e1';refine call_zip_2 hl hl' λh' hz hTI hTO h1 h2 hsz hk=>?_;have key:∀i j:Nat,i≠j->s1.heap.objs.size+i≠s1.heap.objs.size+j:=λi j h q=>h (Nat.add_left_cancel q);have key0:∀i:Nat,i≠0->s1.heap.objs.size+i≠s1.heap.objs.size:=λi h q=>h (Nat.add_left_cancel (m:=i) (k:=0) q);have D:ZipApart (s1.heap.objs.size+4) (s1.heap.objs.size+2) (s1.heap.objs.size+3) s1.heap.objs.size (s1.heap.objs.size+1) a b:=
  ⟨key 2 4 (by decide),key 3 4 (by decide),λq=>key0 4 (by decide) q.symm,key 1 4 (by decide),key 2 3 (by decide),key0 2 (by decide),key 2 1 (by decide),key0 3 (by decide),key 3 1 (by decide),λq=>key0 1 (by decide) q.symm,Nat.ne_of_lt (Nat.lt_of_lt_of_le hlt (Nat.le_add_right _ 4)),Nat.ne_of_lt (Nat.lt_of_lt_of_le hlt (Nat.le_add_right _ 3)),Nat.ne_of_lt hlt,Nat.ne_of_lt (Nat.lt_of_lt_of_le hlt (Nat.le_add_right _ 1)),Nat.ne_of_lt (Nat.lt_of_lt_of_le hlt' (Nat.le_add_right _ 4)),Nat.ne_of_lt (Nat.lt_of_lt_of_le hlt' (Nat.le_add_right _ 3)),Nat.ne_of_lt hlt',Nat.ne_of_lt (Nat.lt_of_lt_of_le hlt' (Nat.le_add_right _ 1))⟩
 have hlen:(cB xs ys).length=min vs.toArray.size us.toArray.size:=by rw[xI,List.size_toArray,List.size_toArray,CVs.length e2,CVs.length e2']
 have m0:s1.heap.objs.size∈[s1.heap.objs.size+4,s1.heap.objs.size+2,s1.heap.objs.size+3,s1.heap.objs.size,s1.heap.objs.size+1]:= .tail _ (.tail _ (.tail _ (.head _)));have m1:s1.heap.objs.size+1∈[s1.heap.objs.size+4,s1.heap.objs.size+2,s1.heap.objs.size+3,s1.heap.objs.size,s1.heap.objs.size+1]:= .tail _ (.tail _ (.tail _ (.tail _ (.head _))));have m3:s1.heap.objs.size+3∈[s1.heap.objs.size+4,s1.heap.objs.size+2,s1.heap.objs.size+3,s1.heap.objs.size,s1.heap.objs.size+1]:= .tail _ (.tail _ (.head _));refine wpAny_pyIter_zip hz (kk _ _ ⟨s1.heap.objs.size+4,[s1.heap.objs.size+4,s1.heap.objs.size+2,s1.heap.objs.size+3,s1.heap.objs.size,s1.heap.objs.size+1],[(a,{cls:= .type "list",dict:=none,data:= .seq vs.toArray m,slots:= #[]}),(b,{cls:= .type "list",dict:=none,data:= .seq us.toArray m',slots:= #[]})],_,rfl,
  NB.ofWalksT (hlen.symm▸WalksT.zip2 (prog:=pw) (w:=AA.w) hr.quiet _ _ _ _ _ _ _ D vs.toArray us.toArray) (λb h=>?_) (λb h=>?_) (λp h=>?_) (λb h=>?_) (λi h st=>?_) (λi vals x q h3=>?_) (λc e as h hs M _ p hp=>?_),hk,EP s1 h' s1.toks (Nat.le_refl _),
   ⟨⟨hz,hTI,⟨_,_,hTO⟩,h1,h2,hl.at λo e=>hk _ o e,hl'.at λo e=>hk _ o e⟩,λp hp=>?_⟩⟩)
 .rcases AN h with rfl|h
  .exact .head _
  rcases AN h with rfl|h
  .exact m3
  rcases AN h with rfl|h
  .exact m0
  .rw[AR h];exact m1
 .rcases AN h with rfl|h
  .exact .inl (.head _)
  rcases AN h with rfl|h
  .exact .inl (.tail _ (.head _))
  rcases AN h with rfl|h
  .exact .inl m3
  rcases AN h with rfl|h
  .exact .inl m0
  rcases AN h with rfl|h
  .exact .inl m1
  rcases AN h with rfl|h
  .exact .inr ⟨_,.head _⟩
  .rw[AR h];exact .inr ⟨_,.tail _ (.head _)⟩
 .rcases AN h with q|q
  .rw[q];exact e1
  .rw[AR q];exact e1'
 .exact(IA.of (Rl (P:=λb=>s1.heap.objs.size<=b) (Nat.le_add_right ..) (Nat.le_add_right ..) (Nat.le_add_right ..) (Nat.le_refl _) (Nat.le_add_right ..) b h)).none
 .obtain⟨s1',s2',⟨x,y,s3'⟩,⟨o4,s4',_⟩,⟨o5,s5',_⟩,_⟩:=st;exact Rl ⟨_,s1'⟩ ⟨_,s2'⟩ ⟨_,s3'⟩ ⟨_,s4'⟩ ⟨_,s5'⟩
 .obtain⟨y,z,q1,q2,q3⟩:=q;obtain⟨a1,b1,r1,r2,rfl⟩:=xH h3;exact q3▸⟨_,rfl,xG (Eh e2 q1 r1) (Eh e2' q2 r2)⟩
 .rcases AN hp with q|q
  .rw[q];exact(M.1 a _ e1 off (.inl ⟨_,_,rfl⟩)).1
  .rw[AR q];exact(M.1 b _ e1' off' (.inl ⟨_,_,rfl⟩)).1
 .rcases AN hp with q|q
  .rw[q];exact hk _ _ e1
  .rw[AR q];exact hk _ _ e1'
section
variable{w:World}{E:Value->Shared->Prop}
theorem OZ{it l:Addr}{items}{x:Value}{Q:Value->Shared->Prop}(hit:s.heap.IsTupleIter it l i)
  (hl:s.heap.IsTuple l items)(hx:items[i]? =some x)
  (hQ:∀h',h'.IsTupleIter it l (i+1)->Heap.SameBut it s.heap h'->Q x {s with heap:=h'}):
  wpAny (model pw w) A (Builtin.SmallTypes.nextOf (.ref it)) Q E s:=by
 obtain⟨o,ho,hc,hd⟩:=id hit;obtain⟨ol,hol,_,nl,hdl⟩:=hl;unfold Builtin.SmallTypes.nextOf;refine wpAny_bind (wpAny_callSpecial?_slot (name:=Str.ofString "__next__") hit.typeIs PySem.F.slot_tuple_iterator_next
  (wpAny_call_entry PySem.F.slot_tuple_iterator_next hit.typeIs PySem.F.entry_tuple_iterator_next ?_ (PySem.F.args_tuple_iterator_next_1 _)))
 show wpAny _ _ (field (.ref it) 0>>=_) _ _ s;refine wpAny_bind (wpAny_field ho hd (x:= .ref l) rfl ?_);show wpAny _ _ (if(Value.ref l==Value.none)=true then _ else _) _ _ s;rw[if_neg (show¬((Value.ref l==Value.none)=true)from Bool.false_ne_true)];show wpAny _ _ (field (.ref it) 1>>=_) _ _ s;refine wpAny_bind (wpAny_field ho hd (x:= .int i 0) rfl ?_);show wpAny _ _ (seqItems? (.ref l)>>=_) _ _ s;refine wpAny_bind (wpAny_seqItems hol hdl ?_);simp only[Int.toNat_natCast,hx];refine wpAny_bind (wpAny_setField ho hd (by exact Nat.le_refl _) (wpAny_pure ⟨x,rfl,wpAny_pure (hQ _ ?_ (Heap.SameBut.update ..))⟩));exact⟨_,Heap.get?_update_self _ ho (Obj.isFreed_of_fields (Obj.data_mapFields hd _)),(Obj.cls_mapFields ..).trans hc,by rw[Obj.data_mapFields hd];rfl⟩
theorem QU{it l:Addr}{items}{Q:Value->Shared->Prop}(hh:A.handled=none)
  (hit:s.heap.IsTupleIter it l i)(hl:s.heap.IsTuple l items)(hx:items[i]? =none)
  (hE:∀h' e,Heap.ExtBut it s.heap h'->(∃o,h'.get? e=some o/\o.cls= .type "StopIteration")->E (.ref e) {s with heap:=h'}):
  wpAny (model pw w) A (Builtin.SmallTypes.nextOf (.ref it)) Q E s:=by
 obtain⟨o,ho,hc,hd⟩:=id hit;obtain⟨ol,hol,_,nl,hdl⟩:=hl;unfold Builtin.SmallTypes.nextOf;refine wpAny_bind (wpAny_callSpecial?_slot (name:=Str.ofString "__next__") hit.typeIs PySem.F.slot_tuple_iterator_next
  (wpAny_call_entry PySem.F.slot_tuple_iterator_next hit.typeIs PySem.F.entry_tuple_iterator_next ?_ (PySem.F.args_tuple_iterator_next_1 _)))
 show wpAny _ _ (field (.ref it) 0>>=_) _ _ s;refine wpAny_bind (wpAny_field ho hd (x:= .ref l) rfl ?_);show wpAny _ _ (if(Value.ref l==Value.none)=true then _ else _) _ _ s;rw[if_neg (show¬((Value.ref l==Value.none)=true)from Bool.false_ne_true)];show wpAny _ _ (field (.ref it) 1>>=_) _ _ s;refine wpAny_bind (wpAny_field ho hd (x:= .int i 0) rfl ?_);show wpAny _ _ (seqItems? (.ref l)>>=_) _ _ s;refine wpAny_bind (wpAny_seqItems hol hdl ?_);simp only[Int.toNat_natCast,hx];refine wpAny_bind (wpAny_rule (wpAny_bind (wpAny_setField ho hd (by exact Nat.le_add_right _ _) ?_)));show wpAny _ _ (newExc (.type "StopIteration") []>>=_) _ _ _;refine wpAny_bind ?_;simp only[newExc,newTuple];refine wpAny_bind (wpAny_newObj_type ?_ (by size_fits));refine wpAny_bind (m:=firstArgMember _ _) (wpAny_of_eq (a:=Value.none) (by first|rfl|(simp only[firstArgMember];rfl)) ?_);refine wpAny_newObj_type ?_ (by size_fits);simp only[raiseNew];refine wpAny_bind (wpAny_handled ?_)
 first|rw[show A.in1.handled=none from hh]|rw[hh]
 refine wpAny_bind (wpAny_pure (wpAny_throw ?_));exact hE _ _ (((Heap.SameBut.update ..).extBut.push _).push _) ⟨_,Heap.get?_push_size _ rfl,rfl⟩
theorem dV(hh:A.handled=none)(it l:Addr)(hne:l≠it)(items:Array Value):
  Draws pw w A it [it,l] items.size (λi v=>items[i]? =some v) (λi h=>h.IsTupleIter it l i/\h.IsTuple l items)where
 live:=λ_ _ st=>let ⟨o,ho,_⟩:=st.1;⟨o,ho⟩
 frame:=λ_ _ _ st hk=>⟨(let ⟨o,ho,r⟩:=st.1;⟨o,hk it (by simp) o ho,r⟩),(let ⟨o,ho,r⟩:=st.2;⟨o,hk l (by simp) o ho,r⟩)⟩
 item:=λi s Q E hi st hQ=>by refine OZ st.1 st.2 (x:=items[i]) (by simp[hi]) λh' hit' hs'=>?_;exact hQ _ h' s.toks (by simp[hi]) ⟨hit',st.2.extBut hs'.extBut hne⟩ hs'
 done:=λs Q E st hE=>QU hh st.1 st.2 (by simp) hE
end
set_option tactic.hygienic true in
theorem LN(l:Addr)(items:Array Value)(n:Nat)(dct:Option Addr)(sl:Array (Option Value)):
  Meets (Builtin.«enumerate.__new__» ⟨[.type "enumerate",.ref l],[]⟩) (λ_ R s=>s.heap.get? l=some {cls:= .type "tuple",dict:=dct,data:= .seq items n,slots:=sl}/\
   R (.ok (.ret (.ref (s.heap.push {cls:= .type "tuple_iterator",data:= .fields #[.ref l,.int 0 0]}).objs.size)))
    {s with heap:=(s.heap.push {cls:= .type "tuple_iterator",data:= .fields #[.ref l,.int 0 0]}).push {cls:= .type "enumerate",data:= .fields #[.none,.bool false,.ref s.heap.objs.size,rawInt 0,.none,.none]}}):=
 .of_wp λprog w A R s h=>by
  obtain⟨hp,g,d,tk,os⟩:=s;obtain⟨hl,h⟩:=h;have hsub:=sub_enumerate;have hL:Heap.IsTuple (Shared.heap ⟨hp,g,d,tk,os⟩) l items:=⟨_,hl,rfl,n,rfl⟩;wp_walk using AutoSeq1.wpAny_loadPart' hl;refine wpAny_stack_any λst=>wpAny_pure ?_;split
  .rename_i c _ _ _ _ _;cases (c==Value.type "enumerate")
   .wp_walk using AutoSeq1.wpAny_loadPart' hl,wpAny_pyIter_tuple hL
    exact⟨_,rfl,h⟩
   .wp_walk using AutoSeq1.wpAny_loadPart' hl,wpAny_pyIter_tuple hL
    exact⟨_,rfl,h⟩
  .wp_walk using AutoSeq1.wpAny_loadPart' hl,wpAny_pyIter_tuple hL
   exact⟨_,rfl,h⟩
theorem LO{w:World}{E:Value->Shared->Prop}{l:Addr}{items:Array Value}{Q:Value->Shared->Prop}(hL:s.heap.IsTuple l items)
  (h:∀h',IsEnum h' (s.heap.objs.size+1) s.heap.objs.size 0 .none->h'.IsTupleIter s.heap.objs.size l 0->(∀b o,s.heap.get? b=some o->h'.get? b=some o)->Q (.ref (s.heap.objs.size+1)) {s with heap:=h'}):
  wpAny (model pw w) A (PySem.call (.type "enumerate") [.ref l]) Q E s:=by
 obtain⟨⟨c,dct,dt,sl⟩,hl,hc,n,hd⟩:=hL;replace hc:c= .type "tuple":=hc;replace hd:dt= .seq items n:=hd;subst hc hd;refine callType_new PySem.F.called_enumerate (by decide) (PySem.F.typeCall_enumerate_1 _) (PySem.F.newCall_enumerate_1 _) (λobj=>PySem.F.args_object_init_2 obj _) PySem.F.entry_enumerate_new
  (LN l items n dct sl) ⟨hl,?_⟩
 have hz:(s.heap.push {cls:= .type "tuple_iterator",data:= .fields #[.ref l,.int 0 0]}).objs.size=s.heap.objs.size+1:=Heap.size_push ..;show _/\_;rw[hz];have he:IsEnum ((s.heap.push {cls:= .type "tuple_iterator",data:= .fields #[.ref l,.int 0 0]}).push
   {cls:= .type "enumerate",data:= .fields #[.none,.bool false,.ref s.heap.objs.size,rawInt 0,.none,.none]}) (s.heap.objs.size+1) s.heap.objs.size 0 .none:=by
  have:=Heap.get?_push_size (s.heap.push {cls:= .type "tuple_iterator",data:= .fields #[.ref l,.int 0 0]})
   (o:={cls:= .type "enumerate",data:= .fields #[.none,.bool false,.ref s.heap.objs.size,rawInt 0,.none,.none]}) rfl
  rw[hz]at this;exact this
 exact⟨⟨_,he,rfl⟩,h _ he ⟨_,Heap.get?_push_of_some _ (Heap.get?_push_size _ rfl),rfl,rfl⟩ λb o x=>Heap.get?_push_of_some _ (Heap.get?_push_of_some _ x)⟩
theorem WC(hr:AL A e n)(cv:CV s1.heap as1 (.ftup xs) v)(kk:∀it s2,IB AA A (.Tuple es k p) (.enum (.ftup xs)) (ES 0 xs) c1 as1 s1 it s2->P it s2):
  wpAny (model pw AA.w) A (PySem.call (.type "enumerate") [v]) (λv s'=>wpAny (model pw AA.w) A (pyIter v) P no s') no s1:=by
 obtain⟨a,vs,rfl,off,⟨o,e1,e1c,m,e1d⟩,e2⟩:=cv;have hl:s1.heap.IsTuple a vs.toArray:=⟨o,e1,e1c,m,e1d⟩;have hlt:=Heap.lt_size e1;have hlen:xs.length=vs.toArray.size:=by rw[List.size_toArray,CVs.length e2]
 refine LO hl λh' he hi hk=>?_;refine UC (xs:=xs) (cont:=[(a,o)]) (hlen▸dV (w:=AA.w) (A:=A.in1) hr.quiet s1.heap.objs.size a (Nat.ne_of_lt hlt) vs.toArray) (.head _) (λq=>?_) (λb h=>?_) (λp h=>?_) (λi v x h1 h2=>?_) (λc e as h hs M _ p hp=>?_) he ⟨hi,(let ⟨o,ho,r⟩:=hl;⟨o,hk _ o ho,r⟩)⟩ hk kk
 .rcases AN q with q|q
  .exact Nat.succ_ne_self _ q
  .have e:s1.heap.objs.size+1=a:=AR q;exact absurd hlt (by refine e▸?_;exact Nat.not_lt.mpr (Nat.le_succ _))
 .rcases AN h with q|q
  .exact .inl q
  .rw[AR q];exact .inr ⟨_,.head _⟩
 .rw[AR h];exact e1
 .obtain⟨u,h3,h4⟩:=CVs.get e2 h2;have h1:vs[i]? =some v:=by simpa using h1
  rw[h3]at h1;(replace h1:=A4 h1;subst h1);exact h4
 .rw[AR hp];exact(M.1 a _ e1 off (.inl ⟨_,_,e1d⟩)).1
theorem KJ{m:Nat}{x:Expr}(h:AX m (.eval x) c Q):DQ x=true:=by
 cases hb:Nat.beq x.ctorIdx 22 with
 |false=>exact congrArg (!·) hb
 |true=>exact(Expr.Starred.elim (motive_1:=λx=>AX m (.eval x) c Q->False) x (Nat.eq_of_beq_eq_true hb) (λy p h=>mJ h) h).elim
theorem Ek{x:Expr}(h:DQ x=true):[x].all DQ=true:=Bool.and_eq_true_iff.mpr ⟨h,rfl⟩
theorem Lr{x y:Expr}(h:DQ x=true)(h2:DQ y=true):[x,y].all DQ=true:=Bool.and_eq_true_iff.mpr ⟨h,Ek h2⟩
theorem iB(h:IQ f=true):(f==("__debug__":Str))=false/\(f==("__classdict__":Str))=false:=by obtain⟨h1,h2⟩:=BG h;exact⟨(Bool.not_eq_true' _).mp h1,(Bool.not_eq_true' _).mp h2⟩
theorem dW{x:Expr}{pos:Pos}{w:World}{P:List Value->Shared->Prop}(hx:DQ x=true)(h:wpAny (model pw w) A (eval x e) (λv s1=>P [v] s1) X s):wpAny (model pw w) A (spliced (backTo pos (starEach [x] e))) P X s:=
 GP (Ek hx)▸spliced_cons (wpAny_mono h (λv s1 q=>spliced_nil q) λ_ _ x=>x)
theorem El{x y:Expr}{pos:Pos}{w:World}{P:List Value->Shared->Prop}(hx:DQ x=true)(hy:DQ y=true)(h:wpAny (model pw w) A (eval x e) (λv s1=>wpAny (model pw w) A (eval y e) (λu s2=>P [v,u] s2) X s1) X s):wpAny (model pw w) A (spliced (backTo pos (starEach [x,y] e))) P X s:=
 GP (Lr hx hy)▸spliced_cons (wpAny_mono h (λv s1 q=>spliced_cons (wpAny_mono q (λv s1 q=>spliced_nil q) λ_ _ x=>x)) λ_ _ x=>x)
theorem FR(T:BH AA)(hs:St AA c e as s.heap){F:AV}(hn:IQ f=true)(hf:DB c f=some F)(hst:es.all DQ=true)
  (k:∀v s0,Go AA e as.pl.length c as s c as s0->CV s0.heap as F v->wpAny (model pw AA.w) A (spliced (backTo r (starEach es e))) (λvs s1=>JD (model pw AA.w) s1.heap v/\wpAny (model pw AA.w) A (PySem.call v vs) P X s1) X s0):
  wpAny (model pw AA.w) A (eval (.Call (.Name f p) es [] r) e) P X s:=by
 obtain⟨h1,h2⟩:=iB hn;have d:Go AA e as.pl.length c as s c as s:= .refl hs (Nat.le_refl _);obtain⟨K,hk,hf⟩:=AD hf;have hk:=(HA hs f).trans hk;refine Call_ ?_ QS;cases K with
 |«local»=>obtain⟨m,lo⟩:=hs.locs;obtain⟨r,h3,h4⟩:=lo.val f F hf;exact wpAny_Name (wpAny_loadName_local (CC hs) hk lo.ns h3 (RP hst (k _ _ d h4))) h1
 |cell=>obtain⟨a,r,h4,h7,h8⟩:=LH hs hf;exact wpAny_Name (wpAny_loadName_cell (CC hs) hk h4 h7 (RP hst (k _ _ d h8))) h1
 |free=>obtain⟨a,r,h4,h7,h8⟩:=LH hs hf;exact wpAny_Name (wpAny_loadName_free (CC hs) hk h4 h7 (RP hst (k _ _ d h8)) h2) h1
 |globalImplicit=>exact Name_function_global (CC hs) hk (T.glob f F hf A e s _ hs.glb hs.blt hs.keep (λr hr=>RP hst (k _ _ d (hr _ _))) _ _) h1
 |_=>exact BJ hf
theorem Rm(T:BH AA)(ih:Ok AA n)(hs:St AA c e as s.heap)(hr:AL A e (n+1))(ht:1<=s.toks){K:SM->AC->Prop}(h:QJ (AX n) it c K)
  (k1:∀a v c1 as1 s1,Go AA e as.pl.length c as s c1 as1 s1->CV s1.heap as1 a v->K (.val a) c1->wpAny (model pw AA.w) A (pyIter v) P no s1)
  (k2:∀a v c1 as1 s1,Go AA e as.pl.length c as s c1 as1 s1->CV s1.heap as1 a v->K (.enum a) c1->wpAny (model pw AA.w) A (PySem.call (.type "enumerate") [v]) (λx s'=>wpAny (model pw AA.w) A (pyIter x) P no s') no s1)
  (k3:∀a b v u c1 as1 s1,Go AA e as.pl.length c as s c1 as1 s1->CV s1.heap as1 a v->CV s1.heap as1 b u->K (.zip a b) c1->wpAny (model pw AA.w) A (PySem.call (.type "zip") [v,u]) (λx s'=>wpAny (model pw AA.w) A (pyIter x) P no s') no s1):
  wpAny (model pw AA.w) A (eval it e) (λx s'=>wpAny (model pw AA.w) A (pyIter x) P no s') no s:=by
 have plain:AX n (.eval it) c (FH λa c1=>K (.val a) c1)->wpAny (model pw AA.w) A (eval it e) (λx s'=>wpAny (model pw AA.w) A (pyIter x) P no s') no s:=λh=>
  JI ih hr h hs ht λc1 as1 a s1 v g cv q=>k1 a v c1 as1 s1 g cv q
 rcases DR h with⟨t,hc,h⟩|⟨_,h⟩
 .obtain rfl:=cL hc;rcases DR h with⟨x,hx,h⟩|⟨_,h⟩
  .rcases DP h with⟨hf,h⟩|⟨_,h⟩
   .obtain⟨hn,h⟩:=DT h;have hst:=KJ h;rw[CX hx];refine FR T hs hn (OM hf) (Ek hst) λv s0 g0 cf=>?_;obtain rfl:v= .type "enumerate":=cf;exact dW hst (JI ih hr h g0.st (g0.tk ht) λc1 as1 a s1 v g cv q=>⟨IL,k2 a v c1 as1 s1 (g0.trans g g0.len) cv q⟩)
   .exact plain h
  rcases DR h with⟨x,hx,h⟩|⟨_,h⟩
  .rcases DP h with⟨hf,h⟩|⟨_,h⟩
   .obtain⟨hn,h⟩:=DT h;have hst:=KJ h;obtain⟨hn,hst2⟩:=BG hn;rw[NN hx];refine FR T hs hn (OM hf) (Lr hst hst2) λv s0 g0 cf=>?_;obtain rfl:v= .type "zip":=cf;refine El hst hst2 (JI ih hr h g0.st (g0.tk ht) λc1 as1 a s1 v g cv h2=>?_);exact JI ih hr h2 g.st (g.tk (g0.tk ht)) λc2 as2 b s2 u g2 cu q=>⟨IL,k3 a b v u c2 as2 s2 ((g0.trans g g0.len).trans g2 (Nat.le_trans g0.len g.len)) (g2.cv g.st cv) cu q⟩
   .exact plain h
  .exact plain h
 .exact plain h
theorem dX(h:lM t=true):∃y p,t= .Name y p:=by obtain⟨z,hz⟩:=Option.isSome_iff_exists.mp h;exact⟨_,_,FA hz⟩
theorem ZV(h:gJ t=true):∃es k p,t= .Tuple es k p:=by obtain⟨z,hz⟩:=Option.isSome_iff_exists.mp h;exact⟨_,_,_,ML hz⟩
theorem ZW{a:AV}(h:TT (.val a) t=true)(hn:MZ a=none):∃y p,t= .Name y p:=
 (bY h).elim dX λh=>ME ((congrArg Option.isSome hn).symm.trans (BG h).1)
theorem nA(T:BH AA)(hr:AL A e n)(hs1:St AA c1 e as1 s1.heap){a:AV}{items:List AV}(hq:OK c1.st (.val a)=some items)(ht:TT (.val a) t=true)(cv:CV s1.heap as1 a v)
  (k:∀it s2,IB AA A t (.val a) items c1 as1 s1 it s2->P it s2):wpAny (model pw AA.w) A (pyIter v) P no s1:=by
 rcases BM hq with⟨x,h1,h2⟩|⟨_,hq⟩
 .obtain rfl:=AU h1;obtain⟨y,p,rfl⟩:=ZW ht rfl;obtain⟨tk,rfl⟩:=cv;obtain rfl:=sj h2;exact Eg hr k
 rcases BM hq with⟨x,h1,h2⟩|⟨_,hq⟩
 .obtain rfl:=HO h1;obtain rfl:=sj h2;refine qL hr ?_ cv k;rcases bY ht with h|h
  .obtain⟨y,p,e⟩:=dX h;exact .name y p e
  .obtain⟨es,kk,p,e⟩:=ZV (BG h).2;exact .tup es kk p e
 rcases BM hq with⟨x,h1,h2⟩|⟨_,hq⟩
 .obtain rfl:=tN h1;obtain⟨y,p,rfl⟩:=ZW ht rfl;rcases KE h2 with⟨hm,h2⟩|⟨_,h2⟩
  .obtain rfl:=sj h2;exact qM hr hm cv k
  .exact BJ h2
 .obtain⟨es,h1,rfl⟩:=AZ hq;obtain⟨l,hl,h1⟩:=AD h1;obtain⟨o,ho,h1⟩:=AD h1;obtain⟨g,rfl⟩:=MK h1;obtain rfl:=CT hl;obtain⟨y,p,rfl⟩:=ZW ht rfl;exact xF T hr hs1 ho cv k
theorem xJ(hr:AL A e n){a:AV}{items:List AV}(hq:OK c1.st (.enum a)=some items)(ht:TT (.enum a) t=true)(cv:CV s1.heap as1 a v)
  (k:∀it s2,IB AA A t (.enum a) items c1 as1 s1 it s2->P it s2):wpAny (model pw AA.w) A (PySem.call (.type "enumerate") [v]) (λx s'=>wpAny (model pw AA.w) A (pyIter x) P no s') no s1:=by
 obtain⟨es,kk,p,rfl⟩:=ZV ht;obtain⟨xs,h1,rfl⟩:=AZ hq;rcases BM h1 with⟨x,h1,h2⟩|⟨_,hq⟩
 .obtain rfl:=AU h1;obtain rfl:=sj h2;obtain⟨tk,rfl⟩:=cv;exact ZU hr k
 rcases BM hq with⟨x,h1,h2⟩|⟨_,hq⟩
 .obtain rfl:=JQ h1;obtain rfl:=sj h2;exact WC hr cv k
 .obtain rfl:=HO hq;exact UD hr cv k
theorem xK(hr:AL A e n){a b:AV}{items:List AV}(hq:OK c1.st (.zip a b)=some items)(ht:TT (.zip a b) t=true)(cv:CV s1.heap as1 a v)(cu:CV s1.heap as1 b u)
  (k:∀it s2,IB AA A t (.zip a b) items c1 as1 s1 it s2->P it s2):wpAny (model pw AA.w) A (PySem.call (.type "zip") [v,u]) (λx s'=>wpAny (model pw AA.w) A (pyIter x) P no s') no s1:=by
 obtain⟨es,kk,p,rfl⟩:=ZV ht;obtain⟨xs,h1,h2⟩:=AD hq;obtain⟨ys,h3,rfl⟩:=AZ h2;obtain rfl:=HO h1;obtain rfl:=HO h3;exact Ej hr cv cu k
theorem GH(h:TS it=false)(x:Value):foldedSetIterable it e x=pure x:=by cases it<;>first|rfl|exact tJ h
inductive QV(AA:AP)(e:Env)(c:AC)(as:AH)(s:Shared)(Inv:Nat->AC->Prop)(m:Nat)(s':Shared):Prop
 |mk (c2:AC) (pl:List Nat) (h:Inv m c2) (tu:KU AA e c as s [] c2 pl s'):QV AA e c as s Inv m s'
theorem Ls(ih:Ok AA n)(hs:St AA c e as s.heap)(hr:AL A e (n+1))(ht:1<=s.toks){b o:List Stmt}
  (h:gM (AX n) t b o c Q):wpAny (model pw AA.w) A (exec (.While t b o p) e) (CP AA e c as s Q) no s:=by
 obtain⟨Inv,m0,i0,i1⟩:=h;have no':∀{x:Value} {s:Shared} {E:Value->Shared->Prop},no x s->E x s:=λx=>x.elim;have hl1:=hs.low;refine wpAny_While (codeAny_whileLoop (QV AA e c as s Inv) ?_ m0 ⟨_,as.pl,i0,⟨by refine hs.len▸?_;exact hs.rel (Nat.le_refl _),.refl (Nat.le_refl _),.refl s⟩⟩);rintro m s1 ⟨c2,pl,inv,tu⟩;obtain⟨lo2,h⟩:=i1 m c2 inv;have lo2':c2.lo=as.pl.length:=by rw[lo2,hs.len]
 refine wpAny_mono (ih.T _ _ _ h _ _ _ _ tu.st (hr.le (Nat.le_succ _)) (Nat.le_trans ht tu.sh.tk)) (λx s2 y=>EJ.rec (λc3 as3 g3 q=>?_) y) λ_ _ x=>no' x;obtain⟨tu3,e3⟩:=tu.step g3 tu.evo.kle;have lo3:c3.lo=as.pl.length:=by rw[g3.lo];exact lo2'
 cases x with
 |true=>
  refine wpAny_mono (ih.Ss _ _ _ q _ _ _ _ g3.st (hr.le (Nat.le_succ _)) (Nat.le_trans ht tu3.sh.tk)) (λf s4 y=>CP.rec (λc4 as4 y g4 cf q=>?_) y) λ_ _ x=>no' x;obtain⟨tu4,e4⟩:=tu3.step (as':=as4) (by rw[<-e3];exact g4) (by rw[lo3];exact Nat.le_refl _);have lo4:c4.lo=as.pl.length:=by rw[g4.lo];exact lo3
  have next:ON Inv (λm'=>m'<m) c4->∃m',m'<m/\QV AA e c as s Inv m' s4:=λx=>ON.rec (λk L m' ok hm inv=>⟨m',hm,_,_,inv,tu4.trim lo4 ok⟩) x;obtain⟨go,M4⟩:=tu4.out hl1;rw[e4]at cf;cases y with
  |next=>cases cf;exact next q
  |cont=>cases cf;exact next q
  |brk=>cases cf;exact⟨_,_,.next,go.le hl1,rfl,q⟩
  |ret z=>obtain⟨v,rfl,cv⟩:=cf;exact⟨_,_,.ret z,go.le hl1,⟨v,rfl,CV.mono M4 _ _ cv⟩,q⟩
 |false=>obtain⟨go,_⟩:=tu3.out hl1;exact wpAny_mono (ih.Ss _ _ _ q _ _ _ _ go.st (hr.le (Nat.le_succ _)) (by trivial)) (λf s4 x=>CP.after hl1 go x) λ_ _ x=>no' x
theorem Ww(T:BH AA)(ih:Ok AA n)(hs:St AA c e as s.heap)(hr:AL A e (n+1))(ht:1<=s.toks){b o:List Stmt}(hset:TS it=false)
  (hcit:∀l s0 g c1 as1 s1 v,TT (.val (.loc l)) t=true->pQ (AX n) t b o c1 l s0 g Q->c1.at l=some (.citer s0 g)->1<=s1.toks->St AA c1 e as1 s1.heap->CV s1.heap as1 (.loc l) v->
   wpAny (model pw AA.w) A (pyIter v) (λit s2=>codeAny (model pw AA.w) A (.forLoop t it b o e) (λr s'=>match r with| .ok f=>CP AA e c1 as1 s1 Q f s'| .error x=>cameBackBy (model pw AA.w) A e no x s') s2) no s1)
  (h:QJ (AX n) it c (λsrc c1=>BV (lO c1 src) (λl=>gd (TT src t) (pQ (AX n) t b o c1 l.1 l.2.1 l.2.2 Q)) (gL (AX n) t b o c1 src Q))):wpAny (model pw AA.w) A (exec (.For t it b o p) e) (CP AA e c as s Q) no s:=by
 refine wpAny_For ?_ (GH hset);have fin:∀{src items c1 as1 s1},Go AA e as.pl.length c as s c1 as1 s1->QL (AX n) t b o c1 src items Q->∀it s2,IB AA A t src items c1 as1 s1 it s2->
   codeAny (model pw AA.w) A (.forLoop t it b o e) (λr s'=>match r with| .ok f=>CP AA e c as s Q f s'| .error x=>cameBackBy (model pw AA.w) A e no x s') s2:=by
  rintro src items c1 as1 s1 g hI it s2 ⟨I,Hs,cont,S,rfl,F,hk,sh,h0⟩;exact Ln ih hr (g.tk ht) g.st F hk sh h0 hI λf s' x=>CP.after hs.low g x
 refine Rm T ih hs hr ht h (λa v c1 as1 s1 g cv q=>?_) (λa v c1 as1 s1 g cv q=>gL.rec (λitems hq hs hI=>xJ hr hq hs cv (fin g hI)) (show gL (AX n) t b o c1 (.enum a) Q from q)) (λa b' v u c1 as1 s1 g cv cu q=>gL.rec (λitems hq hs hI=>xK hr hq hs cv cu (fin g hI)) (show gL (AX n) t b o c1 (.zip a b') Q from q));rcases DR q with⟨x,hci,q⟩|⟨_,q⟩
 .obtain⟨hq1,hq2⟩:=DT q;obtain⟨l,hl,hci⟩:=AD hci;obtain⟨z,hz,rfl⟩:=AZ hci;obtain⟨y,hx,hz⟩:=AD hz;obtain rfl:=CT hl;exact wpAny_mono (hcit _ _ _ c1 as1 s1 v hq1 hq2 (Bu hz▸hx) (g.tk ht) g.st cv) (λit s2 hc=>codeAny_mono hc λr s' hr=>by
   cases r with
   |ok f=>exact CP.after hs.low g hr
   |error x=>exact hr) λ_ _ x=>x
 .obtain⟨items,hq,hs,hI⟩:=q;exact nA T hr g.st hq hs cv (fin g hI)
structure gD(AA:AP)(e:Env)(D:Nat)(c:AC)(as:AH)(s:Shared)(c':AC)(as':AH)(s':Shared):Prop where
 st:St AA c' e as' s'.heap
 pre:as'.pl.take as.pl.length=as.pl
 same:∀a o,s.heap.get? a=some o->a∉as.pl->a≠e.locals->NT a->a≠D->s'.heap.get? a=some o
 alive:∀a o,s.heap.get? a=some o->∃o',s'.heap.get? a=some o'
 new:∀a,a∈as'.pl->a∉as.pl->s.heap.get? a=none
 hid:as'.hid=as.hid
 sh:Sh s s'
 lo:c'.lo=c.lo
theorem Go.toD(g:Go AA e as.pl.length c as s c1 as1 s1):gD AA e D c as s c1 as1 s1:=
 ⟨g.st,by refine g.evo.pre▸?_;exact List.take_length,λa o e1 e2 e3 e4 _=>g.evo.same a o e1 e2 e3 e4,g.evo.alive,g.evo.new,g.hid,g.sh,g.lo⟩
theorem gD.trans(x:gD AA e D c as s c1 as1 s1)(y:gD AA e D c1 as1 s1 c2 as2 s2):gD AA e D c as s c2 as2 s2:=by
 have hle:as.pl.length<=as1.pl.length:=by have:=congrArg List.length x.pre;rw[List.length_take]at this;exact Nat.le_trans (Nat.le_of_eq this.symm) (Nat.min_le_right _ _)
 refine⟨y.st,?_,λa o e1 e2 e3 e4 e5=>y.same a o (x.same a o e1 e2 e3 e4 e5) (λq=>?_) e3 e4 e5,λa o e1=>(x.alive a o e1).elim λo1 e2=>y.alive a o1 e2,λa h1 h2=>?_,y.hid.trans x.hid,x.sh.trans y.sh,y.lo.trans x.lo⟩
 .have:=congrArg (List.take as.pl.length) y.pre;rw[List.take_take,Nat.min_eq_left hle,x.pre]at this;exact this
 .exact BJ ((x.new a q e2).symm.trans e1)
 .by_cases q:a∈as1.pl
  .exact x.new a q h2
  .have:=y.new a h1 q;cases z:s.heap.get? a with
   |none=>rfl
   |some o=>obtain⟨o1,e1⟩:=x.alive a o z;exact BJ (this.symm.trans e1)
theorem gD.refl(x:St AA c e as s.heap):gD AA e D c as s c as s:=(Go.refl x (Nat.le_refl _)).toD
theorem gD.mono(g:gD AA e D c as s c1 as1 s1)(hs:St AA c e as s.heap)(hD:D∈as.hid):BR s.heap as s1.heap as1:=by
 obtain⟨m,hn,_⟩:=hs.loc;refine⟨λa o e1 h1 h2=>⟨g.same a o e1 h1.1 (h2.ne e1 hn) h1.2.2 (λq=>h1.2.1 (q▸hD)),λq=>?_,g.hid▸h1.2.1,h1.2.2⟩,λl a e1=>?_⟩
 .exact BJ ((g.new a q h1.1).symm.trans e1)
 .exact(List.getElem?_take.trans (if_pos (EC e1))).symm.trans ((congrArg (·[l]?) g.pre).trans e1)
theorem CV.lows(a:AV):∀v:Value,CV h as a v->a.lows as.pl.length=true:=
 AV.rec (motive_1:=λa=>∀v,CV h as a v->a.lows as.pl.length=true) (motive_2:=λxs=>∀vs,CVs h as xs vs->lowss as.pl.length xs=true) (λ_ _=>rfl) (λ_ _ _=>rfl) (λ_ _ _=>rfl) (λ_ _ _=>rfl) (λ_ _ _=>rfl) (λ_ _ _=>rfl) (λ_ _ _=>rfl)
  (λ_ _ e=>e.elim λ_ e=>Nat.ble_eq_true_of_le (EC e.1)) (λ_ ih _ e=>e.rec λ_ vs _ _ _ p=>ih vs p) (λ_ ih _ e=>e.rec λ_ vs _ _ _ p=>ih vs p)
  (λ_ _ _=>rfl) (λ_ _ _=>rfl) (λ_ _=>rfl) (λ_ _ ih1 ih2 _ e=>e.rec λv t _ p r=>Bool.and_eq_true_iff.mpr ⟨ih1 v p,ih2 t r⟩) a
theorem CVs.lowsM:∀{vs:List Value},CVs h as xs vs->lowss as.pl.length xs=true:=by
 induction xs with
 |nil=>exactλ_=>rfl
 |cons y r ih=>exactλe=>e.rec λv t _ p r=>Bool.and_eq_true_iff.mpr ⟨CV.lows y v p,ih r⟩
theorem qN(k:Nat)(a:AV):a.free=true->a.lows k=true:=
 AV.rec (motive_1:=λa=>a.free=true->a.lows k=true) (motive_2:=λxs=>frees xs=true->lowss k xs=true) (λ_=>rfl) (λ_ _=>rfl) (λ_ _=>rfl) (λ_ _=>rfl) (λ_ _=>rfl) (λ_ _=>rfl) (λ_ _=>rfl)
  (λ_ h=>ME h) (λ_ ih h=>ih h) (λ_ ih h=>ih h) (λ_ _=>rfl) (λ_ _=>rfl) (λ_=>rfl) (λ_ _ ih1 ih2 h=>Bool.and_eq_true_iff.mpr ⟨ih1 (BG h).1,ih2 (BG h).2⟩) a
theorem iC(k:Nat):frees xs=true->lowss k xs=true:=by
 induction xs with
 |nil=>exactλ_=>rfl
 |cons y r ih=>exactλh=>Bool.and_eq_true_iff.mpr ⟨qN k y (BG h).1,ih (BG h).2⟩
noncomputable def NR(E0:Expr)(elt:Expr)(gens:List Comprehension)(d:Nat)(acc:Value)(env:Env):Sem Unit:=
 match gens[d+1]? with
 |some g'=>do
  let x<-eval g'.iter env
  standAt g'.iter.pos
  let x<-foldedSetIterable g'.iter env x
  let _<-runOwn (.compStart E0 (d+1) (<-holding [x] (pyIter x)) acc env) env
 |none=>do
  let _<-call (.builtin "list.append") [acc,<-eval elt env]
theorem ZX{elt:Expr}{gens:List Comprehension}{scope:Scope}{pos:Pos}{g:Comprehension}{it acc:Value}{env:Env}(hg:gens[d]? =some g)(ha:g.is_async=0)(ha':∀g',gens[d+1]? =some g'->g'.is_async=0):
  compTurn (.ListComp elt gens scope pos) d it acc env=(do
   standAt g.iter.pos
   match<-pyNext it with
   |none=>pure (.done .next)
   |some v=>
    letOwnedTupleGo g.target it v
    assign g.target env v
    let mut ok:=true
    for c in g.ifs do
     if ok then ok<-isTrue c env (eval c env)
    if ok then NR (.ListComp elt gens scope pos) elt gens d acc env
    again (.compLoop (.ListComp elt gens scope pos) d it acc env)):=by
 unfold compTurn NR;cases hq:gens[d+1]? with
 |none=>simp only[hg,ha,hq,bne_self_eq_false,Bool.false_eq_true,if_false];rfl
 |some g'=>have h2:=ha' g' hq;simp only[hg,ha,hq,h2,bne_self_eq_false,Bool.false_eq_true,if_false,bind_assoc,pure_bind];rfl
theorem ZY{w:World}{elt:Expr}{gens:List Comprehension}{scope:Scope}{pos:Pos}{g:Comprehension}{it acc:Value}{env:Env}(hg:gens[d]? =some g)(ha:g.is_async=0)(ha':∀g',gens[d+1]? =some g'->g'.is_async=0)(I:Nat->Shared->Prop)
  (turn:∀n s,I n s->wpAny (model pw w) A (pyNext it) (λr BX=>match r with
   |none=>R (.ok .next) BX
   |some v=>wpAny (model pw w) A (letOwnedTupleGo g.target it v) (λ_ pI=>wpAny (model pw w) A (assign g.target env v) (λ_ GJ=>
     wpAny (model pw w) A (forIn g.ifs true λc r=>if r=true then do let ok<-isTrue c env (eval c env);pure (ForInStep.yield ok)else pure (ForInStep.yield r)) (λok IK=>
      if ok=true then wpAny (model pw w) A (NR (.ListComp elt gens scope pos) elt gens d acc env) (λ_ Ox=>∃m,m<n/\I m Ox) (notedBy (model pw w) A env λe s'=>R (.error e) s') IK
      else∃m,m<n/\I m IK) (notedBy (model pw w) A env λe s'=>R (.error e) s') GJ) (notedBy (model pw w) A env λe s'=>R (.error e) s') pI) (notedBy (model pw w) A env λe s'=>R (.error e) s') BX) (notedBy (model pw w) A env λe s'=>R (.error e) s') s)
  (n:Nat)(h:I n s):codeAny (model pw w) A (.compLoop (.ListComp elt gens scope pos) d it acc env) R s:=by
 refine codeAny_loop rfl I (λn s hI=>?_) n h;show wpAny _ A ((compTurn (.ListComp elt gens scope pos) d it acc env).onRaise (λx=>do noteFrame x env;theTreesLotGoes x)) _ _ s;refine wpAny_noted ?_;rw[ZX hg ha ha'];refine wpAny_bind (wpAny_standAt (wpAny_bind (wpAny_mono (turn n s hI) (λr BX RK=>?_) λ_ _ h'=>h')));cases r with
 |none=>exact wpAny_pure RK
 |some v=>
  refine wpAny_bind (wpAny_mono RK (λ_ pI Va=>?_) λ_ _ h'=>h');refine wpAny_bind (wpAny_mono Va (λ_ GJ gB=>wpAny_bind (wpAny_mono gB (λok IK bX=>?_) λ_ _ h'=>h')) λ_ _ h'=>h');cases ok with
  |false=>exact wpAny_pure ⟨rfl,bX⟩
  |true=>exact wpAny_bind (wpAny_mono bX (λ_ tD lA=>wpAny_pure ⟨rfl,lA⟩) λ_ _ h'=>h')
theorem NI{w:World}{elt:Expr}{gens:List Comprehension}{scope:Scope}{pos:Pos}{g:Comprehension}{it acc:Value}{env:Env}(hg:gens[d]? =some g)(ha:g.is_async=0)
  (h0:codeAny (model pw w) A (.compLoop (.ListComp elt gens scope pos) d it acc env) R s)
  (h:wpAny (model pw w) A (pyIter it) (λit' s'=>codeAny (model pw w) A (.compLoop (.ListComp elt gens scope pos) d it' acc env) R s') (notedBy (model pw w) A env λx s'=>R (.error x) s') s):
  codeAny (model pw w) A (.compStart (.ListComp elt gens scope pos) d it acc env) R s:=by
 refine codeAny_of_tree ?_;show wpAny _ _ ((compStart (.ListComp elt gens scope pos) d it acc env).onRaise (λx=>do noteFrame x env;standAt theWindowsPlace)) _ _ s;refine wpAny_notedAt ?_;unfold compStart;have hc:clausesOf (.ListComp elt gens scope pos)=gens:=rfl;refine(Eq.symm hc)▸(Eq.symm hg)▸?_;have hz:(Option.elim (some g) false λx=>x.is_async !=0)=false:=by simp[ha]
 refine(Eq.symm hz)▸?_;show wpAny _ _ (ask>>=_) _ _ s;refine wpAny_bind (wpAny_askSetting (wpAny_ite ?_));split
 .first
   |exact wpAny_bind (wpAny_pure (wpAny_pure (And.intro rfl h0)))
   |exact wpAny_pure (And.intro rfl h0)
 .first
   |exact wpAny_bind (wpAny_rule (wpAny_bind (wpAny_standAt (wpAny_bind (wpAny_mono h (λit' s' h'=>wpAny_pure (And.intro rfl h')) λ_ _ e=>e)))))
   |exact wpAny_rule (wpAny_bind (wpAny_standAt (wpAny_bind (wpAny_mono h (λit' s' h'=>wpAny_pure (And.intro rfl h')) λ_ _ e=>e))))
noncomputable def nB(es:List Expr)(e:Env)(r:Bool):Sem Bool:=forIn es r λc r=>if r=true then do let ok<-isTrue c e (eval c e);pure (ForInStep.yield ok)else pure (ForInStep.yield r)
noncomputable def Io(AA:AP)(n:Nat):Prop:=∀es c Q,AX n (.ifs es) c Q->∀A e as s,St AA c e as s.heap->AL A e n->1<=s.toks->wpAny (model pw AA.w) A (nB es e true) (EJ AA e c as s Q) no s
theorem qO{w:World}{P:Bool->Shared->Prop}(h:P false s)(es:List Expr):wpAny (model pw w) A (nB es e false) P no s:=by
 induction es with
 |nil=>exact wpAny_pure h
 |cons x r ih=>unfold nB;rw[List.forIn_cons];exact ih
theorem Wx(ih:Ok AA n)(ii:Io AA n):Io AA (n+1):=by
 intro es c Q h A e as s hs hr ht;cases es with
 |nil=>exact wpAny_pure ⟨c,as,Go.refl hs (Nat.le_refl _),h⟩
 |cons x r=>
  unfold nB;rw[List.forIn_cons];simp only[if_true];refine wpAny_bind (wpAny_bind (Pc ih hr h hs ht λc1 as1 b s1 g q=>wpAny_pure ?_));cases b with
  |true=>exact wpAny_mono (ii _ _ _ q _ _ _ _ g.st (hr.le (Nat.le_succ _)) (g.tk ht)) (λ_ _ x=>EJ.after g x) λ_ _ x=>x
  |false=>exact qO ⟨c1,as1,g,q⟩ r
theorem Rn(hs:St AA c e as s.heap)(hD:D∈as.hid)(sb:Heap.SameBut D s.heap h')(al:∃o,h'.get? D=some o)(ol:s.heap.get? D=some ob)(oc:ob.cls≠ .none)(t:Nat)(ht:s.toks<=t:=by first|assumption|exact Nat.le_refl _|exact Nat.le_succ _|omega):gD AA e D c as s c as {s with heap:=h',toks:=t}:=by
 have kk:∀a o,s.heap.get? a=some o->a≠D->h'.get? a=some o:=λa o e1 e2=>(sb.2 a e2).trans e1;have aa:∀a o,s.heap.get? a=some o->∃o',h'.get? a=some o':=λa o e1=>by
  by_cases q:a=D
  .exact q▸al
  .exact⟨o,kk a o e1 q⟩
 obtain⟨st,M⟩:=hs.shift (H:=as.hid) (h':=h') (λa o e1 h1=>kk a o e1 λq=>h1 (q▸hD)) (λa ha=>⟨(hs.hid a ha).1.elim λo ho=>aa a o ho,(hs.hid a ha).2⟩) (λa o _ h1 _=>h1.2.1) (hs.tabx.of ol (.inl oc) kk);refine⟨st,List.take_length,λa o e1 _ _ _ e5=>kk a o e1 e5,aa,λa h1 h2=>absurd h1 h2,rfl,EP s h' t ht,rfl⟩
inductive XA(AA:AP)(e:Env)(D:Nat)(c:AC)(as:AH)(s:Shared)(vs:List Value)(Q:AB)(s':Shared):Prop
 |mk (c':AC) (as':AH) (ys:List AV) (us:List Value) (g:gD AA e D c as s c' as' s') (li:LI s'.heap D (vs++us)) (cv:CVs s'.heap as' ys us) (f:frees ys=true) (q:Q (.vs ys) c'):XA AA e D c as s vs Q s'
noncomputable def Mine.Internal(AA:AP)(n:Nat):Prop:=∀elt gs c Q,AX n (.comp elt gs) c Q->∀A e as s D vs gens scope pos d,gens.drop (d+1)=gs->(∀g∈gens,g.is_async=0)->St AA c e as s.heap->D∈as.hid->LI s.heap D vs->AL A e n->1<=s.toks->
 (∀ys c',Q (.vs ys) c'->vs.length+ys.length<=1000)->
 wpAny (model pw AA.w) A (NR (.ListComp elt gens scope pos) elt gens d (.ref D) e) (λ_=>XA AA e D c as s vs Q) no s
theorem LI.go(hs:St AA c e as s.heap)(hD:D∈as.hid)(x:LI s.heap D vs)(g:Go AA e as.pl.length c as s c1 as1 s1):LI s1.heap D vs:=by obtain⟨m,hm⟩:=x;obtain⟨_,q2,q3,_,q5⟩:=hs.hid D hD;exact⟨m,g.evo.same D _ hm q2 q3 q5⟩
theorem qP{v u:AV}{l:List (Str×AV)}(h:y≠x)(hy:l.lookup y=some u):(HW x v l).lookup y=some u:=(CE ..).trans ((if_neg h).trans hy)
theorem UE{v u:AV}(hb:HS c x v=some c2)(h:y≠x)(hy:c.fr.locals.lookup y=some u):c2.fr.locals.lookup y=some u:=by
 obtain⟨k,_,hb⟩:=AD hb;cases k with
 |«local»=>exact sj hb▸qP h hy
 |cell=>obtain⟨l,_,hb⟩:=AD hb;obtain⟨_,_,rfl⟩:=AZ hb;exact hy
 |_=>exact BJ hb
theorem ZZ{xs:List Str}{u:AV}:∀{vs:List AV} {c c2:AC},GN c xs vs=some c2->y∉xs->c.fr.locals.lookup y=some u->c2.fr.locals.lookup y=some u:=by
 induction xs with
 |nil=>exactλh _ hy=>sj (TA h).2▸hy
 |cons x r ih=>intro vs c c2 h hn hy;obtain⟨p,_,h⟩:=AD h;obtain⟨c1,h1,h2⟩:=AD h;exact ih h2 (λq=>hn (.tail _ q)) (UE h1 (λq=>hn (q▸ .head _)) hy)
theorem dY{u:AV}{xs:List Str}(hf:(xs.all λx=>(c.fr.locals.lookup x).isNone)=true)(hy:c.fr.locals.lookup y=some u):y∉xs:=λq=>ME ((congrArg Option.isNone hy).symm.trans (CW hf y q))
theorem iF{v:AV}(hb:LC c t v=some c2)(hf:QK c t=true)(y:Str)(u:AV)(hy:c.fr.locals.lookup y=some u):c2.fr.locals.lookup y=some u:=by
 rcases BM hb with⟨p,h1,h⟩|⟨_,h⟩
 .obtain rfl:=FA h1;have n:y∉[p.1]:=dY hf hy;exact UE h (λq=>n (q▸ .head _)) hy
 .obtain⟨es,h2,h⟩:=AD h;obtain⟨xs,h3,h4⟩:=AD h;obtain⟨vs,_,h5⟩:=AD h4;obtain rfl:=ML h2;have n:y∉(SO es.1).getD []:=dY hf hy;rcases KE h5 with⟨_,h⟩|⟨_,h⟩
  .exact ZZ h (λq=>n (h3▸q)) hy
  .exact BJ h
theorem Ro{p:List Nat}(h:p[l]? =some a):l<p.length:=(EC h)
theorem DK.trm2{w:World}{K:Type}[DecidableEq K]{knd:KeyKind pw w K}{f:K->AV}{es:List (AV×AV)}(g:lowss k (es.map (·.2))=true)(z:DK knd f h as es a):DK knd f h ⟨as.pl.take k,as.hid⟩ es a:=by obtain⟨kvs,h1,h2,h3⟩:=z;exact⟨kvs,h1,h2,CVs.trm g h3⟩
theorem CO.trm2{h0:Heap}{w:World}{o:AO}(z0:CO w h0 as0 o a)(z:CO w h as o a):CO w h ⟨as.pl.take as0.pl.length,as.hid⟩ o a:=by
 cases o with
 |list xs=>obtain⟨_,_,l⟩:=z0;obtain⟨vs,h1,h2⟩:=z;exact⟨vs,h1,CVs.trm l.lowsM h2⟩
 |dict es g=>have l:lowss as0.pl.length (es.map (·.2))=true:=z0.2.elim (λd=>d.rec λ_ _ _ l=>l.lowsM) λd=>d.rec λ_ _ _ l=>l.lowsM;exact And.imp_right (Or.imp (DK.trm2 l) (DK.trm2 l)) z
 |inst0 c=>exact z
 |inst c d=>exact z0.elim λ_ z0=>z0.elim λ_ z0=>Exists.imp (λ_ z=>Exists.imp (λ_ z=>z.imp_right (And.imp_right (And.imp_right (And.imp_right (KH (EC z0.2.2.2.2)))))) z) z
 |ns fs=>exact z0.elim λ_ z0=>Exists.imp (λ_ z=>z.imp_right (And.imp_right λz x v e=>IR.rec (λr e1 e2=>⟨r,e1,CV.trm v r ((z0.2.2 x v e).rec λr' _ l=>CV.lows v r' l) e2⟩) (z x v e))) z
 |cell v=>cases v with
  |none=>exact z
  |some y=>exact z0.elim λu l=>Exists.imp (λv z=>z.imp_right (CV.trm y v (CV.lows y u l.2))) z
 |clos cl=>obtain⟨_,_,_,_,_,_,_,l⟩:=z0;obtain⟨o,fd,cd,h1,h2,hf,⟨oc,fs,t,h11,h12,h13,h14⟩,h15⟩:=z;exact⟨o,fd,cd,h1,h2,hf,⟨oc,fs,t,KI h11,h12,h13,h14⟩,λx i e=>(h15 x i e).imp λ_ q=>q.imp_left (KH ((l x i e).elim λ_ l=>EC l.1))⟩
 |citer s g=>exact z0.elim λ_ z0=>z0.elim λ_ z0=>z0.elim λ_ z0=>Exists.imp (λ_ z=>Exists.imp (λ_ z=>Exists.imp (λ_ z=>⟨z.1,KI z.2.1,z.2.2.1,KH (EC z0.2.2.2) z.2.2.2⟩) z) z) z
 |dead=>exact z
 |tab=>exact z
theorem PA{α:Type}{l:List α}(h:i<k):(l.take k)[i]? =l[i]? :=List.getElem?_take.trans (if_pos h)
theorem qQ{α:Type}{p:α->Bool}{l:List α}{a:α}(h:(l.takeWhile p)[i]? =some a):l[i]? =some a:=by obtain⟨t,e⟩:=List.takeWhile_prefix p (l:=l);exact(congrArg (·[i]?) e.symm).trans ((List.getElem?_append_left (EC h)).trans h)
theorem gD.at(g:gD AA e D c as s c1 as1 s1)(h:as.pl[l]? =some a):as1.pl[l]? =some a:=(PA (EC h)).symm.trans ((congrArg (·[l]?) g.pre).trans h)
theorem St.again{x:AV}(hs0:St AA c0 e as0 s.heap)(hb:LC c0 t x=some c2)(hf:QK c0 t=true)(hn:(c0.st.drop k).all LF=true)(bk:gK k c0 c2 c4)(g:gD AA e D c0 as0 s c4 as4 s4):St AA c0 e as0 s4.heap:=by
 obtain⟨b1,b2,b3⟩:=bk;have has:(⟨as4.pl.take as0.pl.length,as4.hid⟩:AH)=as0:=by rw[g.pre,g.hid]
 obtain⟨m4,hn4,hl4⟩:=g.st.loc;obtain⟨m0,_,hl0⟩:=hs0.loc;refine⟨g.st.keep,hs0.tab,g.st.tabx,hs0.len,hs0.nodup,hs0.off,hs0.ptab,λl o e1=>?_,hs0.loff,hs0.lbase,hs0.ltab,hs0.scope,hs0.kind,hs0.glb,hs0.blt,hs0.cells,⟨m4,hn4,λy u e1=>?_⟩,hs0.low,λa ha=>?_⟩
 .obtain⟨a,e2,e3⟩:=hs0.objs l o e1;refine⟨a,e2,?_⟩;by_cases q:l<k
  .obtain⟨a',e5,e6⟩:=g.st.objs l o ((PA q).symm.trans ((congrArg (·[l]?) b2).trans ((PA q).trans e1)));obtain rfl:=sj ((g.at e2).symm.trans e5);exact has▸CO.trm2 e3 e6
  .have ek:k+(l-k)=l:=Nat.add_sub_of_le (Nat.le_of_not_lt q);have ho:=CW hn o (List.mem_of_getElem? ((List.getElem?_drop.trans (by rw[ek])).trans e1));obtain⟨v,hv,hv2⟩:=bZ ho;obtain rfl:=Option.isNone_iff_eq_none.mp hv2;obtain rfl:=MH hv;have ho':=List.getElem?_eq_getElem (Nat.lt_of_lt_of_le (Nat.sub_lt_sub_right (Nat.le_of_not_lt q) (EC e1)) b3);obtain⟨v,hv⟩:=Option.isSome_iff_exists.mp (CW (p:=uN) List.all_takeWhile _ (List.mem_of_getElem? ho'));obtain⟨a',e5,e6⟩:=g.st.objs l _ ((by rw[ek]:c4.st[l]? =c4.st[k+(l-k)]?).trans (List.getElem?_drop.symm.trans (qQ ho')));obtain rfl:=sj ((g.at e2).symm.trans e5);rw[MH hv]at e6;cases v with
   |none=>exact e6
   |some z=>exact e6.elim λ_ h=>⟨_,h.1⟩
 .obtain⟨r0,q1,q2⟩:=hl0 y u e1;obtain⟨r,e2,e3⟩:=hl4 y u (b1▸iF hb hf y u e1);exact⟨r,e2,has▸CV.trm u r (CV.lows u r0 q2) e3⟩
 .exact⟨(g.st.hid a (g.hid▸ha)).1,(hs0.hid a ha).2⟩
theorem aA(h2:frees ys=true):frees xs=true->frees (xs++ys)=true:=by
 induction xs with
 |nil=>exactλ_=>h2
 |cons x r ih=>exactλh=>Bool.and_eq_true_iff.mpr ⟨(BG h).1,ih (BG h).2⟩
structure Lp(AA:AP)(e:Env)(D:Nat)(Hs:List Nat)(c0:AC)(as0:AH)(s0:Shared)(vs:List Value)(ys:List AV)(s:Shared):Prop where
 st:St AA c0 e as0 s.heap
 same:∀a o,s0.heap.get? a=some o->a∉as0.pl->a≠e.locals->NT a->a≠D->a∉Hs->s.heap.get? a=some o
 alive:∀a o,s0.heap.get? a=some o->a∉Hs->∃o',s.heap.get? a=some o'
 sh:Sh s0 s
 li:∃us,LI s.heap D (vs++us)/\CVs s.heap as0 ys us/\us.length=ys.length
 fre:frees ys=true
theorem Lp.moved(x:Lp AA e D Hs c0 as0 s0 vs ys s)(hH:∀b∈Hs,b∈as0.hid)(hT:BO∉Hs)(hDH:D∉Hs)(hk:∀b o,b∉Hs->s.heap.get? b=some o->s'.heap.get? b=some o)(sh:Sh s s')
  (live:∀b∈Hs,∃o,s'.heap.get? b=some o):Lp AA e D Hs c0 as0 s0 vs ys s':=by
 have H:∀a o,s.heap.get? a=some o->∃o',s'.heap.get? a=some o':=λa o e1=>by
  by_cases q:a∈Hs
  .exact live a q
  .exact⟨o,hk a o q e1⟩
 obtain⟨st,M⟩:=x.st.shift (H:=as0.hid) (h':=s'.heap) (λa o e1 h1=>hk a o (λq=>h1 (hH a q)) e1) (λa ha=>⟨(x.st.hid a ha).1.elim λo q=>H a o q,(x.st.hid a ha).2⟩) (λa o _ h1 _=>h1.2.1) (x.st.tabx.but hT hk);obtain⟨us,⟨m,l1⟩,l2,l3⟩:=x.li;exact⟨st,λa o e1 e2 e3 e4 e5 e6=>hk a o e6 (x.same a o e1 e2 e3 e4 e5 e6),λa o e1 e2=>(x.alive a o e1 e2).elim λo1 q=>H a o1 q,x.sh.trans sh,⟨us,⟨m,hk D _ hDH l1⟩,CVs.mono M _ _ l2,l3⟩,x.fre⟩
theorem Lp.done(x:Lp AA e D Hs c0 as0 s0 vs ys s)(hH:∀b∈Hs,b∈as0.hid)(hH2:∀b∈H,b∈as0.hid/\b∉Hs)(hT:BO∉Hs)(hDH:D∉Hs)(hk:∀b o,b∉Hs->s.heap.get? b=some o->s'.heap.get? b=some o)(sh:Sh s s'):
  Lp AA e D Hs c0 ⟨as0.pl,H⟩ s0 vs ys s':=by
 obtain⟨st,M⟩:=x.st.shift (H:=H) (h':=s'.heap) (λa o e1 h1=>hk a o (λq=>h1 (hH a q)) e1) (λa ha=>⟨(x.st.hid a (hH2 a ha).1).1.imp λo q=>hk a o (hH2 a ha).2 q,(x.st.hid a (hH2 a ha).1).2⟩) (λa o _ h1 _ q=>h1.2.1 (hH2 a q).1) (x.st.tabx.but hT hk);obtain⟨us,⟨m,l1⟩,l2,l3⟩:=x.li;exact⟨st,λa o e1 e2 e3 e4 e5 e6=>hk a o e6 (x.same a o e1 e2 e3 e4 e5 e6),λa o e1 e2=>(x.alive a o e1 e2).imp λo1 q=>hk a o1 e2 q,x.sh.trans sh,⟨us,⟨m,hk D _ hDH l1⟩,CVs.mono M _ _ l2,l3⟩,x.fre⟩
theorem Lp.turn{us1:List Value}{zs:List AV}{a:AV}(x:Lp AA e D Hs c0 as0 s0 vs ys s)(hD:D∈as0.hid)(hb:LC c0 t a=some c2)(hf:QK c0 t=true)
  (hn:(c0.st.drop k).all LF=true)(bk:gK k c0 c2 c4)(g:gD AA e D c0 as0 s c4 as4 s4)(l2:CVs s.heap as0 ys us)(l3:us.length=ys.length)(li:LI s4.heap D (vs++us++us1))(cz:CVs s4.heap as4 zs us1)(fz:frees zs=true):
  Lp AA e D Hs c0 as0 s0 vs (ys++zs) s4:=by
 have has:(⟨as4.pl.take as0.pl.length,as4.hid⟩:AH)=as0:=by rw[g.pre,g.hid]
 have st:=x.st.again hb hf hn bk g;have cz':CVs s4.heap as0 zs us1:=has▸CVs.trm (iC as0.pl.length fz) cz;have M:BR s.heap as0 s4.heap as0:=by obtain⟨m,hm,_⟩:=x.st.loc;refine⟨λb o e1 h1 h2=>⟨g.same b o e1 h1.1 (h2.ne e1 hm) h1.2.2 λq=>h1.2.1 (q▸hD),h1⟩,λ_ _ e1=>e1⟩
 refine⟨st,λb o e1 e2 e3 e4 e5 e6=>g.same b o (x.same b o e1 e2 e3 e4 e5 e6) e2 e3 e4 e5,λb o e1 e2=>(x.alive b o e1 e2).elim λo1 q=>g.alive b o1 q,x.sh.trans g.sh,⟨us++us1,(List.append_assoc ..)▸li,CVs.append cz' (CVs.mono M _ _ l2),(List.length_append ..).trans ((by rw[l3,CVs.length cz']:us.length+us1.length=_).trans (List.length_append ..).symm)⟩,aA fz x.fre⟩
theorem QW{α:Type}(R:Nat->List α)(i:Nat):(List.range (i+1)).flatMap R=(List.range i).flatMap R++R i:=by rw[List.range_succ,List.flatMap_append,List.flatMap_singleton]
theorem Em{α:Type}(R:Nat->List α)(h:i<=n):((List.range i).flatMap R).length<=((List.range n).flatMap R).length:=by
 obtain⟨d,rfl⟩:=Nat.exists_eq_add_of_le h;clear h;induction d with
 |zero=>exact Nat.le_refl _
 |succ d ih=>rw[<-Nat.add_assoc,QW,List.length_append];exact Nat.le_add_right_of_le ih
inductive dZ(AA:AP)(e:Env)(D:Nat)(Hs:List Nat)(c0:AC)(as0:AH)(s0:Shared)(vs:List Value)(z:Nat)(R:Nat->List AV)(S:Nat->Heap->Prop)(m:Nat)(s:Shared):Prop
 |mk (i:Nat) (hi:i<=z) (em:m=z-i) (lp:Lp AA e D Hs c0 as0 s0 vs ((List.range i).flatMap R) s) (h:S i s.heap):dZ AA e D Hs c0 as0 s0 vs z R S m s
theorem XB(iw:Io AA n)(ic:Mine.Internal AA n)(hr:AL A e n){src:SM}{items:List AV}{cont:List (Nat×Obj)}{g:Comprehension}(F:NB AA A g.target src items c1 as1 s1 I Hs cont S)
  (hs0:St AA c0 e as0 s0.heap)(ht:1<=s0.toks)(hH:∀b∈Hs,b∈as0.hid)(hT:BO∉Hs)(hD:D∈as0.hid)(hDH:D∉Hs)(hH2:∀b∈H,b∈as0.hid/\b∉Hs)(M0:BR s1.heap as1 s0.heap as0)(ks:FQ c1.st src c0.st)(h0:S 0 s0.heap)(li:LI s0.heap D vs)
  {gens:List Comprehension}{elt:Expr}{scope:Scope}{pos:Pos}(hg:gens[d]? =some g)(ha:∀g∈gens,g.is_async=0)(hgs:gens.drop (d+1)=gs)(hf:QK c0 g.target=true)(hn:(c0.st.drop k).all LF=true){R:Nat->List AV}
  (turns:∀i x,items[i]? =some x->on (LC c0 g.target x) λc2=>AX n (.ifs g.ifs) c2 (lJ λb c3=>GA b (AX n (.comp elt gs) c3 (QI λys c4=>ys=R i/\gK k c0 c2 c4)) (R i=[]/\gK k c0 c2 c3)))
  (hb:vs.length+((List.range items.length).flatMap R).length<=1000){P:Result->Shared->Prop}(kk:∀s',Lp AA e D Hs c0 ⟨as0.pl,H⟩ s0 vs ((List.range items.length).flatMap R) s'->P (.ok .next) s'):
  codeAny (model pw AA.w) A (.compLoop (.ListComp elt gens scope pos) d (.ref I) (.ref D) e) P s0:=by
 have no':∀{x:Value} {s:Shared} {E:Value->Shared->Prop},no x s->E x s:=λx=>x.elim;refine ZY hg (ha g (List.mem_of_getElem? hg)) (λg' h'=>ha g' (List.mem_of_getElem? h')) (dZ AA e D Hs c0 as0 s0 vs items.length R S) ?_ items.length ?_
 .rintro m s ⟨i,hi,rfl,lp,hS⟩;have Mrel:∀{s:Shared} {ys},Lp AA e D Hs c0 as0 s0 vs ys s->BR s1.heap as1 s.heap as0:=λ{s ys} x=>by obtain⟨mm,hm,_⟩:=hs0.loc;refine⟨λb o e1 h1 h2=>?_,M0.2⟩;obtain⟨e2,h3⟩:=M0.1 b o e1 h1 h2;exact⟨x.same b o e2 h3.1 (h2.ne e2 hm) h3.2.2 (λq=>h3.2.1 (q▸hD)) (λq=>h3.2.1 (hH b q)),h3⟩
  by_cases hi':i=items.length
  .subst hi';refine wpAny_mono (F.done s (λs3=>P (.ok .next) s3) hS λs3 hk3 sh3=>kk s3 (lp.done hH hH2 hT hDH hk3 sh3)) (λr s3 h3=>?_) λ_ _ x=>no' x
   .cases r with
    |none=>exact h3
    |some _=>exact h3.elim
  .have hlt:i<items.length:=by exact Nat.lt_of_le_of_ne hi hi'
   obtain⟨c2,b1,b2⟩:=AG (turns i _ (List.getElem?_eq_getElem hlt));refine wpAny_mono (F.item i _ c0 e as0 s (List.getElem?_eq_getElem hlt) hS lp.st (Mrel lp) hH (λv pI=>wpAny (model pw AA.w) A (assign g.target e v) (λ_ GJ=>
     wpAny (model pw AA.w) A (forIn g.ifs true λc r=>if r=true then do let ok<-isTrue c e (eval c e);pure (ForInStep.yield ok)else pure (ForInStep.yield r)) (λok IK=>
      if ok=true then wpAny (model pw AA.w) A (NR (.ListComp elt gens scope pos) elt gens d (.ref D) e) (λ_ Ox=>∃m,m<items.length-i/\dZ AA e D Hs c0 as0 s0 vs items.length R S m Ox) (notedBy (model pw AA.w) A e λe s'=>P (.error e) s') IK
      else∃m,m<items.length-i/\dZ AA e D Hs c0 as0 s0 vs items.length R S m IK) (notedBy (model pw AA.w) A e λe s'=>P (.error e) s') GJ) (notedBy (model pw AA.w) A e λe s'=>P (.error e) s') pI) λv s3 hk3 sh3 hS3 cv3=>?_) (λr s3 hr3=>?_) λ_ _ x=>no' x
   .have lp3:=lp.moved hH hT hDH hk3 sh3 (F.live _ _ hS3);obtain⟨us,l1,l2,l3⟩:=id lp3.li;have fin:∀{c4:AC} {as4:AH} {s4:Shared} {us1:List Value},gD AA e D c0 as0 s3 c4 as4 s4->gK k c0 c2 c4->LI s4.heap D (vs++us++us1)->CVs s4.heap as4 (R i) us1->frees (R i)=true->
      ∃m,m<items.length-i/\dZ AA e D Hs c0 as0 s0 vs items.length R S m s4:=λ{c4 as4 s4 us1} g4 bk lz cz fz=>by
     have lp4:=lp3.turn hD b1 hf hn bk g4 l2 l3 lz cz fz;rw[<-QW]at lp4;refine⟨items.length-(i+1),by exact Nat.sub_lt_sub_left hlt (Nat.lt_succ_self _),i+1,by exact hlt,rfl,lp4,F.frame _ _ _ hS3 (λb hb o e1=>?_) (F.keepC c0 e as0 s4.heap lp4.st (Mrel lp4) ks)⟩;obtain⟨_,q2,q3,_,q5⟩:=lp3.st.hid b (hH b hb);exact g4.same b o e1 q2 q3 q5 λq=>hDH (q▸hb)
    refine wpAny_mono (LM lp3.st hr cv3 b1 (f:=λ_ GJ=>_) λs5 g5=>?_) (λ_ _ x=>x) λ_ _ x=>no' x;refine wpAny_mono (iw _ _ _ b2 _ _ _ _ g5.st hr (g5.tk (Nat.le_trans ht lp3.sh.tk))) (λok s6 y=>EJ.rec (λc6 as6 g6 q=>?_) y) λ_ _ x=>no' x;have g56:=g5.trans g6 g5.len;have hD5:D∈as6.hid:=by rw[g56.hid];exact hD
    have l6:=l1.go lp3.st hD g56;cases ok with
    |false=>obtain⟨r1,r2⟩:=q;exact fin g56.toD r2 (us1:=[]) (by rw[List.append_nil];exact l6) (r1▸rfl) (r1▸rfl)
    |true=>
     refine wpAny_mono (ic _ _ _ _ q _ _ _ _ D _ gens scope pos d hgs ha g6.st hD5 l6 hr (g56.tk (Nat.le_trans ht lp3.sh.tk)) λys c' hq=>?_) (λ_ s7 y=>XA.rec (λc7 as7 ys us1 g7 l7 cv7 f7 q7=>?_) y) λ_ _ x=>no' x
     .have:=Em R (i:=i+1) (n:=items.length) hlt;rw[QW,List.length_append]at this;rw[hq.1,List.length_append,l3,Nat.add_assoc];exact Nat.le_trans (Nat.add_le_add_left this _) hb
     .obtain⟨q7,q8⟩:=q7;subst q7;exact fin (g56.toD.trans g7) q8 l7 cv7 f7
   .cases r with
    |none=>exact hr3.elim
    |some v=>exact wpAny_mono hr3 (λ_ _ x=>x) λ_ _ x=>no' x
 .exact⟨0,Nat.zero_le _,rfl,⟨hs0,λ_ _ e1 _ _ _ _ _=>e1,λa o e1 _=>⟨o,e1⟩,Sh.refl _,⟨[],by rw[List.append_nil];exact li,by rfl,rfl⟩,rfl⟩,h0⟩
theorem NJ(st:List AO)(src:SM):FQ st src st:=by
 show BV _ _ _;cases (Bw src).bind GF with
 |none=>exact True.intro
 |some l=>exact rfl
theorem NB.start{src:SM}{items:List AV}{cont:List (Nat×Obj)}(F:NB AA A t src items c1 as1 s1 I Hs cont S)(hs1:St AA c1 e as1 s1.heap){X:List Nat}(hX:∀b∈X,s1.heap.get? b=none/\∃o,s2.heap.get? b=some o)
  (hk:∀a o,s1.heap.get? a=some o->s2.heap.get? a=some o)(h0:S 0 s2.heap):St AA c1 e ⟨as1.pl,X++(Hs++as1.hid)⟩ s2.heap/\BR s1.heap as1 s2.heap ⟨as1.pl,X++(Hs++as1.hid)⟩:=by
 have fresh:∀b,s1.heap.get? b=none->vU AA e.locals as1.pl b:=λb hb=>by
  have f:=hs1.freshN hb;refine⟨f.1,f.2.2,?_,f.2.1⟩;cases q:AA.get? b with
  |none=>rfl
  |some o=>exact BJ (hb.symm.trans (hs1.keep b o q f.2.1))
 refine hs1.shift (H:=X++(Hs++as1.hid)) (h':=s2.heap) (λa o e1 _=>hk a o e1) (λa ha=>?_) (λa o e1 h1 _ q=>?_) (hs1.tabx.all hk)
 .rcases HV ha with q|q
  .exact⟨(hX a q).2,fresh a (hX a q).1⟩
  .rcases HV q with q|q
   .exact⟨F.live _ _ h0 a q,fresh a (F.fresh a q)⟩
   .exact(hs1.hid a q).imp_left (Exists.imp λo=>hk a o)
 .rcases HV q with q|q
  .exact BJ ((hX a q).1.symm.trans e1)
  .rcases HV q with q|q
   .exact BJ ((F.fresh a q).symm.trans e1)
   .exact h1.2.1 q
theorem Ip(T:BH AA)(ih:Ok AA n)(hs:St AA c e as s.heap)(hr:AL A e (n+1))(ht:1<=s.toks){K:SM->AC->Prop}
  (h:QJ (AX n) it c K)(hK:∀src c1,K src c1->∃items,OK c1.st src=some items/\TT src t=true)
  (k:∀src items c1 as1 s1 it s2,Go AA e as.pl.length c as s c1 as1 s1->K src c1->OK c1.st src=some items->IB AA A t src items c1 as1 s1 it s2->P it s2):
  wpAny (model pw AA.w) A (eval it e) (λx s'=>wpAny (model pw AA.w) A (pyIter x) P no s') no s:=by
 refine Rm T ih hs hr ht h (λa v c1 as1 s1 g cv q=>?_) (λa v c1 as1 s1 g cv q=>?_) (λa b' v u c1 as1 s1 g cv cu q=>?_)
 .obtain⟨items,hq,ht⟩:=hK _ _ q;exact nA T hr g.st hq ht cv λit s2 h2=>k _ _ _ _ _ it s2 g q hq h2
 .obtain⟨items,hq,ht⟩:=hK _ _ q;exact xJ hr hq ht cv λit s2 h2=>k _ _ _ _ _ it s2 g q hq h2
 .obtain⟨items,hq,ht⟩:=hK _ _ q;exact xK hr hq ht cv cu λit s2 h2=>k _ _ _ _ _ it s2 g q hq h2
theorem SQ{B:AY->AC->AB->Prop}{elt:Expr}{g:Comprehension}{src:SM}{items:List AV}{K:List AV->Prop}(h:WN B elt g gs k c0 src items K):
  QK c0 g.target=true/\TT src g.target=true/\(c0.st.drop k).all LF=true/\g.is_async=0:=by
 obtain⟨_,h,_,_⟩:=h;obtain⟨h,h4⟩:=BG h;obtain⟨h,h3⟩:=BG h;obtain⟨h,h2⟩:=BG h;exact⟨h,h2,h3,eq_of_beq h4⟩
theorem Rp(T:BH AA)(ih:Ok AA n)(iw:Io AA n)(ic:Mine.Internal AA n):Mine.Internal AA (n+1):=by
 intro elt gs c Q h A e as s D vs gens scope pos d hgs ha hs hD li hr ht hlen;have hr':=hr.le (Nat.le_succ n);cases gs with
 |nil=>unfold NR;rw[List.getElem?_eq_none_iff.mpr (List.drop_eq_nil_iff.mp hgs)];refine wpAny_bind (JI ih hr h hs ht λc1 as1 y s1 v g cv q=>?_);obtain⟨m,l1⟩:=li.go hs hD g;obtain⟨qf,q⟩:=DT q;have hb:=hlen _ _ q;refine wpAny_bind (PyProof.Rows.append_at l1 (λh' sb ho=>?_) (by rw[List.size_toArray,sizeLine_eq];exact oA (Nat.le_trans (Nat.le_add_right _ _) hb)));have hD1:D∈as1.hid:=g.hid▸hD;have gd:=Rn g.st hD1 sb ⟨_,ho⟩ l1 (λz=>nomatch z) s1.toks;exact wpAny_pure ⟨c1,as1,[y],[v],g.toD.trans gd,⟨m+1,List.push_toArray .. ▸ho⟩,⟨v,[],rfl,CV.mono (gd.mono g.st hD1) _ _ cv,rfl⟩,Bool.and_eq_true_iff.mpr ⟨qf,rfl⟩,q⟩
 |cons g' gs'=>
  obtain⟨h1,h⟩:=IO h;have hg:gens[d+1]? =some g':=(List.getElem?_drop (i:=d+1) (j:=0)).symm.trans (congrArg (λl=>l[0]?) hgs);have hgs':gens.drop (d+1+1)=gs':=by rw[<-List.drop_drop,hgs];rfl
  unfold NR;rw[hg];refine wpAny_bind (wpAny_mono (Ip T ih hs hr ht h (t:=g'.target) (λsrc c1 q=>?_) (P:=λit s'=>wpAny (model pw AA.w) A (runOwn (.compStart (.ListComp elt gens scope pos) (d+1) it (.ref D) e) e) (λ_=>XA AA e D c as s vs Q) no s')
   λsrc items c1 as1 s1 it s2 g q hq h2=>?_) (λx s1 hx=>?_) λ_ _ x=>x)
  .obtain⟨items,hq,q⟩:=AG q;exact⟨items,hq,(SQ q).2.1⟩
  .obtain⟨items',hq',q⟩:=AG q;obtain rfl:=sj (hq.symm.trans hq');have q:WN (AX n) elt g' gs' c1.st.length c1 src items (λys=>Q (.vs ys) c1):=q;obtain⟨t1,t2,t3,t4⟩:=SQ q;obtain⟨R,_,turns,hK⟩:=q;obtain⟨I,Hs,cont,S,rfl,F,hk,sh,h0⟩:=h2;refine wpAny_runOwn ?_;rw[Around.mark_none];have hlenK:=hlen _ _ hK;have hD1:D∈as1.hid:=g.hid▸hD;have l1:=li.go hs hD g;obtain⟨m1,l1'⟩:=id l1;have hDH:D∉Hs:=λq=>BJ ((F.fresh D q).symm.trans l1');obtain⟨st2,M2⟩:=F.start g.st (X:=[]) (λb hb=>nomatch hb) hk h0;have key:codeAny (model pw AA.w) A (.compLoop (.ListComp elt gens scope pos) (d+1) (.ref I) (.ref D) e) (λr s'=>match r with
     | .ok f=>XA AA e D c as s vs Q s'
     | .error x=>cameBackBy (model pw AA.w) A e no x s') s2:=by
    refine XB iw ic hr' F (H:=as1.hid) st2 (Nat.le_trans (g.tk ht) sh.tk) (λb hb=>List.mem_append_right [] (List.mem_append_left _ hb)) (g.st.tabx.off F.fresh) (List.mem_append_right [] (List.mem_append_right _ hD1)) hDH (λb hb=>⟨List.mem_append_right [] (List.mem_append_right _ hb),λq=>?_⟩) M2 (NJ _ _) h0 ⟨m1,hk _ _ l1'⟩ hg ha hgs' t1 t3 turns hlenK λs' lp=>?_
    .exact(g.st.hid b hb).1.elim λo ho=>BJ ((F.fresh b q).symm.trans ho)
    .obtain⟨us,k1,k2,_⟩:=lp.li;refine⟨c1,as1,_,us,g.toD.trans ⟨lp.st,List.take_length,λb o e1 e2 e3 e4 e5=>lp.same b o (hk b o e1) e2 e3 e4 e5 λq=>BJ ((F.fresh b q).symm.trans e1),λb o e1=>lp.alive b o (hk b o e1) λq=>BJ ((F.fresh b q).symm.trans e1),λb h1 h2=>absurd h1 h2,rfl,sh.trans lp.sh,rfl⟩,k1,k2,lp.fre,hK⟩
   exact NI hg (ha g' (List.mem_of_getElem? hg)) key (wpAny_mono (F.self 0 s2 (λit' s'=>codeAny (model pw AA.w) A (.compLoop (.ListComp elt gens scope pos) (d+1) it' (.ref D) e) (λr s'=>match r with
     | .ok f=>XA AA e D c as s vs Q s'
     | .error x=>cameBackBy (model pw AA.w) A e no x s') s') h0 key) (λ_ _ x=>x) λ_ _ x=>x.elim)
  .refine wpAny_bind (wpAny_standAt (wpAny_bind (wpAny_of_eq (GH h1 x) (wpAny_bind (wpAny_holding (wpAny_mono hx (λit s2 h2=>wpAny_bind (wpAny_mono h2 (λ_ _ h3=>wpAny_pure h3) λ_ _ x=>x)) λ_ _ x=>x))))))
theorem PB{o:AO}(names:List (Str×NameKind)):∀st:List AO,st[l]? =some o->(CN st names)[l]? =some o:=by
 induction names with
 |nil=>exactλ_ h=>h
 |cons p r ih=>
  intro st h;show(if p.2== .cell then CN (st++[.cell none]) r else CN st r)[l]? =some o;by_cases q:(p.2== .cell)=true
  .rw[if_pos q];exact ih _ ((List.getElem?_append_left (EC h)).trans h)
  .rw[if_neg q];exact ih _ h
theorem aB{st st':List AO}{src:SM}{items:List AV}(hq:OK st src=some items)(h:∀(l:Nat) (o:AO),st[l]? =some o->st'[l]? =some o):FQ st src st':=by
 cases src with
 |val a=>
  show BV (GF a) _ _;cases hl:GF a with
  |none=>exact True.intro
  |some l=>obtain rfl:=CT hl;obtain⟨es,h1,_⟩:=AZ (show(NE st (.loc l)).map (λes=>es.map (·.1))=some items from hq);obtain⟨l',hl',h2⟩:=AD h1;obtain⟨o,ho,_⟩:=AD h2;obtain rfl:l=l':=sj hl';exact(h l o ho).trans ho.symm
 |_=>exact True.intro
theorem xL(hs1:St AA c1 e as1 s1.heap){E:Env}{names:List (Str×NameKind)}(st:St AA c0 E ⟨pl',H⟩ s'.heap)(hp:pl'.take as1.pl.length=as1.pl)(hc:c0.st=CN c1.st names)(hH:∀a∈as1.hid,a∈H)
  (same:∀a o,s1.heap.get? a=some o->a∉as1.pl->NT a->s'.heap.get? a=some o)(alive:∀a o,s1.heap.get? a=some o->∃o',s'.heap.get? a=some o')(sh:Sh s1 s'):Go AA e as1.pl.length c1 as1 s1 c1 as1 s':=by
 have M0:BR s'.heap ⟨as1.pl,H⟩ s'.heap as1:=⟨λb o e1 h1 _=>⟨e1,h1.1,λq=>h1.2.1 (hH b q),h1.2.2⟩,λ_ _ e1=>e1⟩;refine hs1.stepS ⟨rfl,Nat.le_refl _,λa o e1 e2 _ e4=>same a o e1 e2 e4,alive,λ_ h1 h2=>absurd h1 h2⟩ rfl rfl rfl rfl (λM l o e1=>?_) (λM=>?_) sh st.tabx
 .obtain⟨a,e2,e3⟩:=hs1.objs l o e1;refine⟨a,e2,?_⟩;obtain⟨a',e5,e6⟩:=st.objs l o (by rw[hc];exact PB _ _ e1);obtain rfl:=sj (((PA (EC e2)).symm.trans ((congrArg (·[l]?) hp).trans e2)).symm.trans e5);have x:CO AA.w s'.heap ⟨pl'.take as1.pl.length,H⟩ o a:=CO.trm2 e3 e6;exact CO.mono M0 (λ_ x=>x) (hp▸x)
 .obtain⟨m,hn,hl⟩:=hs1.loc;exact⟨m,hn.at' λo e1=>same _ o e1 hs1.loff hs1.ltab,λy v e1=>(hl y v e1).mono M⟩
theorem Go.lost{C:Nat}(g:Go AA e k c as s c1 as1 s1)(hC:s.heap.get? C=none)(h1:C∉as1.pl)(h2:C≠e.locals)(h3:NT C)(h4:C∉as1.hid)(h5:AA.get? C=none){m:Str->Option Value}(hn:s1.heap.Ns C m)(sb:Heap.SameBut C s1.heap h'):
  Go AA e k c as s c1 as1 {s1 with heap:=h'}/\BR s1.heap as1 h' as1:=by
 have kk:∀a o,s1.heap.get? a=some o->a≠C->h'.get? a=some o:=λa o e1 e2=>(sb.2 a e2).trans e1;have M:BR s1.heap as1 h' as1:=⟨λa o e1 x y=>⟨kk a o e1 (y.ne e1 hn),x⟩,λ_ _ x=>x⟩;obtain⟨m',hn',hl⟩:=g.st.loc;refine⟨⟨⟨λb o e1 e2=>kk b o (g.st.keep b o e1 e2) λq=>BJ (h5.symm.trans (q▸e1)),g.st.tab,g.st.tabx.ofNs hn kk,g.st.len,g.st.nodup,g.st.off,g.st.ptab,λl o e1=>?_,g.st.loff,g.st.lbase,g.st.ltab,g.st.scope,g.st.kind,g.st.glb,g.st.blt,g.st.cells,
  ⟨m',hn'.at' λo e1=>kk _ o e1 h2.symm,λy v e1=>(hl y v e1).mono M⟩,g.st.low,λa ha=>?_⟩,⟨g.evo.pre,g.evo.kle,λa o e1 e2 e3 e4=>kk a o (g.evo.same a o e1 e2 e3 e4) λq=>BJ (hC.symm.trans (q▸e1)),λa o e1=>?_,g.evo.new⟩,g.hid,g.sh.trans (EP s1 h' s1.toks (Nat.le_refl _)),g.lo⟩,M⟩
 .obtain⟨a,e2,e3⟩:=g.st.objs l o e1;exact⟨a,e2,CO.mono M (λo' e4=>kk a o' e4 λq=>h1 (q▸List.mem_of_getElem? e2)) e3⟩
 .obtain⟨⟨o,q1⟩,q2⟩:=g.st.hid a ha;exact⟨⟨o,kk a o q1 λq=>h4 (q▸ha)⟩,q2⟩
 .obtain⟨o',e2⟩:=g.evo.alive a o e1;exact⟨o',kk a o' e2 λq=>BJ (hC.symm.trans (q▸e1))⟩
inductive XC(m:Sem (List (Str×Addr)))(pl:List Nat)(cl:List (Str×Nat)):Prop
 |mk (cs:List (Str×Addr)) (e:m=pure cs) (k:ZF pl cl cs):XC m pl cl
theorem aC{o:AF}(hcell:ZF pl o.cells e.cells)(f:Str×NameKind->List (Str×Addr)->Sem (ForInStep (List (Str×Addr))))
  (hf:∀p cs,f p cs=if(p.2== .free)=true then(do let a<-PySem.cellOf e p.1;pure (.yield ((p.1,a)::cs)))else pure (.yield cs))(names:List (Str×NameKind)):∀(acc cl:List (Str×Nat)) (cs:List (Str×Addr)),IE o names acc=some cl->ZF pl acc cs->XC (forIn names cs f) pl cl:=by
 induction names with
 |nil=>exactλacc cl cs h hi=>⟨cs,List.forIn_nil,sj h▸hi⟩
 |cons p r ih=>
  intro acc cl cs h hi;rw[List.forIn_cons];rcases KE (show(if p.2== .free then(o.cells.lookup p.1).bind λl=>IE o r ((p.1,l)::acc)else IE o r acc)=some cl from h)with⟨hk,h⟩|⟨hk,h⟩
  .obtain⟨l,hl,h2⟩:=AD h;obtain⟨a,h1,h3⟩:=hcell p.1 l hl;have e1:f p cs=pure (.yield ((p.1,a)::cs)):=(hf p cs).trans ((if_pos hk).trans (by unfold PySem.cellOf;rw[h3];rfl));rw[e1];refine ih _ cl ((p.1,a)::cs) h2 λy l' hy=>?_;rw[List.lookup_cons]at hy⊢;cases q:y==p.1 with
   |true=>rw[q]at hy;exact⟨a,sj hy▸h1,rfl⟩
   |false=>rw[q]at hy;exact hi y l' hy
  .rw[(hf p cs).trans (if_neg hk)];exact ih _ cl cs h hi
theorem XC.ret{m:Sem (List (Str×Addr))}(x:XC m pl cl):XC (m>>= λr=>pure r) pl cl:=by obtain⟨cs,e,k⟩:=x;exact⟨cs,by rw[e];rfl,k⟩
theorem NU(hs:St AA c e as s.heap)(h:IE c.fr sc.names []=some cl):XC (closureFor sc e) as.pl cl:=
 (aC hs.cells _ (λ_ _=>rfl) sc.names [] cl [] h λx l q=>nomatch q).ret
theorem xM(hs:St AA c e as s.heap)(sc:Scope):relabel sc e=LD sc c.fr:=by unfold relabel LD;have:∀x,e.kindOf x=c.fr.scope.names.lookup x:=HA hs;refine(Eq.symm hs.scope)▸?_;simp only[this]
theorem qR{α β:Type}[BEq α]{g:α×β->α×β}(hg:∀p,(g p).1=p.1)(x:α)(l:List (α×β)):((l.map g).lookup x).isSome=(l.lookup x).isSome:=by
 induction l with
 |nil=>rfl
 |cons p r ih=>
  show(match x==(g p).1 with|true=>some (g p).2|false=>(r.map g).lookup x).isSome=(match x==p.1 with|true=>some p.2|false=>r.lookup x).isSome;rw[hg p];cases x==p.1 with
  |true=>rfl
  |false=>exact ih
theorem qS(sc:Scope)(o:AF):FN (LD sc o)=FN sc:=qR (λp=>by
 show(if(p.2== .free&&o.scope.kind== .function&&o.scope.names.lookup p.1==some .cell)=true then(p.1,NameKind.cell)else p).1=p.1;by_cases q:(p.2== .free&&o.scope.kind== .function&&o.scope.names.lookup p.1==some .cell)=true
 .rw[if_pos q]
 .rw[if_neg q]) _ _
theorem eA(T:BH AA)(ih:Ok AA n)(iw:Io AA n)(ic:Mine.Internal AA n)(hs:St AA c e as s.heap)(hr:AL A e (n+1))(ht:1<=s.toks){elt:Expr}{g:Comprehension}{pos ipos:Pos}{use:Option (Value->Sem Unit)}
  (h:lP (AX n) elt g gs sc c Q)
  (k:∀c1 as1 D C s' ys m,Go AA e as.pl.length c as s c1 as1 s'->s.heap.get? C=none->C∉as1.pl->C≠e.locals->NT C->C∉as1.hid->AA.get? C=none->s'.heap.Ns C m->CV s'.heap as1 (.flist ys) (.ref D)->Q (.v (.flist ys)) c1->
   compPost (model pw AA.w) A no use P (.ref D) C (.ok .next) s'):
  wpAny (model pw AA.w) A (comprehension (.ListComp elt (g::gs) sc pos) sc e ipos (newList []) (firstAsync (g::gs)) (firstIter (g::gs) e) use) P no s:=by
 obtain⟨h1,h⟩:=IO h;obtain⟨h2,h⟩:=DT h;obtain⟨h2,h3⟩:=BG h2;obtain⟨h2,hnames⟩:=BG h2;obtain⟨h2,hlaw⟩:=BG h2;obtain⟨ha,hkind⟩:=BG h2;replace hkind:=eq_of_beq hkind;have ha:∀g'∈g::gs,g'.is_async=0:=λx hx=>eq_of_beq (CW ha x hx);obtain⟨cl0,hcl0⟩:=Option.isSome_iff_exists.mp h3;have hasy:firstAsync (g::gs)=false:=by
  have:=ha g (.head _);cases g with
  |mk t it ifs a=>obtain rfl:a=0:=this;rfl
 have hfi:firstIter (g::gs) e=eval g.iter e:=by cases g;rfl
 rw[hasy,hfi];have hr0:=hr.le (Nat.le_succ n);obtain⟨cs,hcs,_⟩:=NU hs hcl0;refine wpAny_comprehension_free rfl (GH h1) hcs hkind (λx hx hl=>?_) (wpAny_mono (Ip T ih hs hr ht h (t:=g.target) (λsrc c1 q=>?_) (P:=λit s2=>wpAny (model pw AA.w) A (newList []) (λacc IK=>
   wpAny (model pw AA.w) A (newFunctionEnv sc e.globals cs [] e.qual none .none (some e)) (λcenv tD=>
    codeAny (model pw AA.w) A (.compStart (.ListComp elt (g::gs) sc pos) 0 it acc {cenv with scope:=relabel sc e}) (compPost (model pw AA.w) A no use P acc cenv.locals) tD) no IK) no s2)
   λsrc items c1 as1 s1 it s2 go q hq h2=>?_) (λ_ _ x=>x) λ_ _ x=>x)
 .rcases bY (CW hnames x hx)with q|q
  .exact absurd hl (bne_iff_ne.mp q)
  .exact eq_of_beq q
 .obtain⟨items,hq,q⟩:=AG q;obtain⟨c2,_,q⟩:=AG q;exact⟨items,hq,(SQ q).2.1⟩
 .obtain⟨items',hq',q⟩:=AG q;obtain rfl:=sj (hq.symm.trans hq');obtain⟨c2,hc2,q⟩:=AG (o:=uI sc c1) (K:=λc2=>WN (AX n) elt g gs c1.st.length c2 src items (λys=>ys.length<=1000/\Q (.v (.flist ys)) c1)) q;obtain⟨t1,t2,t3,t4⟩:=SQ q;obtain⟨R,_,turns,hK⟩:=q;obtain⟨I,Hs,cont,S,rfl,F,hk,sh,h0⟩:=h2;obtain⟨cl,hcl,rfl⟩:=AZ hc2
  .have hs1:=go.st;obtain⟨cs',hcs',hck⟩:=NU hs1 hcl;obtain rfl:cs=cs':=Sem.pure.inj (hcs.symm.trans hcs');refine wpAny_newObj_type (hd:=by size_fits) ?_;generalize hD0:s2.heap.objs.size=D;generalize hs3:({s2 with heap:=s2.heap.push {cls:= .type "list",dict:=none,data:= .seq ([]:List Value).toArray}}:Shared)=s3;have up:∀a o,s2.heap.get? a=some o->s3.heap.get? a=some o:=λa o e1=>by subst hs3;exact Heap.get?_push_of_some _ e1
   have lD:LI s3.heap D []:=by subst hs3;subst hD0;exact⟨_,Heap.get?_push_size _ rfl⟩
   have up1:∀a o,s1.heap.get? a=some o->s3.heap.get? a=some o:=λa o e1=>up a o (hk a o e1);have D2:s2.heap.get? D=none:=by subst hD0;exact HB
   have D1:s1.heap.get? D=none:=by
    cases q:s1.heap.get? D with
    |none=>rfl
    |some o=>exact BJ (D2.symm.trans (hk _ _ q))
   have hDH:D∉Hs:=λq=>(F.live _ _ h0 D q).elim λo ho=>BJ (D2.symm.trans ho);have h03:S 0 s3.heap:=F.frame 0 s2.heap s3.heap h0 (λb _ o e1=>up b o e1) λp hp=>up1 _ _ (F.keepC c1 e as1 s1.heap hs1 ⟨λ_ _ e1 x _=>⟨e1,x⟩,λ_ _ x=>x⟩ (NJ _ _) p hp);have sh3:Sh s1 s3:=by subst hs3;exact sh.trans (EP s2 _ s2.toks (Nat.le_refl _))
   obtain⟨st3,M3⟩:=F.start hs1 (X:=[D]) (s2:=s3) (λb hb=>by obtain⟨m,hm⟩:=lD;rw[AR hb];exact⟨D1,_,hm⟩) up1 h03
   have glb:e.globals=mainGlobals:=hs.glb;refine(Eq.symm glb)▸?_;obtain⟨stF,MF⟩:=st3.frame (s:=s3) (E:=newEnv sc s3.heap.objs.size mainGlobals cs e.qual none .none (some e) builtinsNs) (sc:=sc) (acl:=cl) (T:="dict") rfl rfl rfl hs.blt hkind hck;have stF':St AA ⟨⟨sc,[],cl⟩,c1.st,c1.lo⟩ (newEnv sc s3.heap.objs.size mainGlobals cs e.qual none .none (some e) builtinsNs) ⟨as1.pl,e.locals::([D]++(Hs++as1.hid))⟩ (s3.heap.push {cls:= .type "dict",data:= .dict #[]}):={stF with low:=hs1.low};refine QQ (s:=s3) (names:=[]) (vs:=[]) (us:=[]) (around:=some e) (ob:={cls:= .type "dict",data:= .dict #[]}) rfl stF' (by rfl) rfl λas' s4 env he g4=>?_;obtain⟨cells,rfl⟩:=he;have hLoc:(newEnv sc s3.heap.objs.size mainGlobals cells e.qual none .none (some e) builtinsNs).locals=s3.heap.objs.size:=rfl;have up3:∀a o,s3.heap.get? a=some o->({s3 with heap:=s3.heap.push {cls:= .type "dict",data:= .dict #[]}}:Shared).heap.get? a=some o:=λa o e1=>Heap.get?_push_of_some _ e1;have hhid:as'.hid=e.locals::([D]++(Hs++as1.hid)):=g4.hid;have hpl:as'.pl.take as1.pl.length=as1.pl:=by have:=g4.evo.pre;refine this▸?_;exact List.take_length
   have old4:∀a o,s3.heap.get? a=some o->a∉as1.pl->NT a->s4.heap.get? a=some o/\a∉as'.pl/\a≠s3.heap.objs.size:=λa o e1 e2 e3=>
    ⟨g4.evo.same a o (up3 a o e1) e2 (Nat.ne_of_lt (Heap.lt_size e1)) e3,g4.evo.notin (up3 a o e1) e2,Nat.ne_of_lt (Heap.lt_size e1)⟩
   obtain⟨mL,hnL,_⟩:=hs1.loc;have M4:BR s1.heap as1 s4.heap as':=by
    refine⟨λa o e1 h1 h2=>?_,λl a e1=>g4.evo.get (Ro e1) e1⟩;obtain⟨q1,q2,_⟩:=old4 a o (up1 a o e1) h1.1 h1.2.2;refine⟨q1,q2,?_,h1.2.2⟩;rw[hhid];intro q;rcases AN q with q|q
    .exact h2.ne e1 hnL q
    .rcases HV q with q|q
     .exact BJ (D1.symm.trans (AR q▸e1))
     .rcases HV q with q|q
      .exact BJ ((F.fresh a q).symm.trans e1)
      .exact h1.2.1 q
   have ks:FQ c1.st src (CN c1.st sc.names):=aB hq λl o hl=>PB _ _ hl;have hrl:relabel sc e=LD sc c1.fr:=xM hs1 sc;refine(Eq.symm hrl)▸?_;have hs4:=g4.st.rescope (sc:=LD sc c1.fr) hkind;have hs4:St AA ⟨⟨LD sc c1.fr,[],FX c1.st.length sc.names cl⟩,CN c1.st sc.names,c1.lo⟩ {newEnv sc s3.heap.objs.size mainGlobals cells e.qual none .none (some e) builtinsNs with scope:=LD sc c1.fr} as' s4.heap:=hs4;have hlive:∀b∈Hs,∃o,s3.heap.get? b=some o:=F.live _ _ h03;have hfr:=λb (hb:b∈Hs)=>hs1.freshN (F.fresh b hb);have h04:S 0 s4.heap:=F.frame 0 s3.heap s4.heap h03 (λb hb o e1=>(old4 b o e1 (hfr b hb).1 (hfr b hb).2.1).1) (F.keepC _ _ as' s4.heap hs4 M4 ks);have fD:=hs1.freshN D1;have lD4:LI s4.heap D []:=by obtain⟨m,hm⟩:=lD;exact⟨m,(old4 D _ hm fD.1 fD.2.1).1⟩
   have alive1:∀b o,s1.heap.get? b=some o->b∉Hs:=λb o e1 q=>BJ ((F.fresh b q).symm.trans e1);obtain⟨oL,_,_,hoL,_⟩:=id hnL;have key:codeAny (model pw AA.w) A (.compLoop (.ListComp elt (g::gs) sc pos) 0 (.ref I) (.ref D) {newEnv sc s3.heap.objs.size mainGlobals cells e.qual none .none (some e) builtinsNs with scope:=LD sc c1.fr})
     (compPost (model pw AA.w) A no use P (.ref D) s3.heap.objs.size) s4:=by
    have hr':AL A {newEnv sc s3.heap.objs.size mainGlobals cells e.qual none .none (some e) builtinsNs with scope:=LD sc c1.fr} n:=⟨hr0.depth,hr0.units,hr0.quiet,λq=>tJ (((Bool.not_eq_true' _).mp hlaw).symm.trans ((qS sc c1.fr).symm.trans q)).symm⟩;refine XB iw ic hr' F (H:=e.locals::D::as1.hid) (gens:=g::gs) (gs:=gs) (vs:=[]) hs4 (Nat.le_trans (go.tk ht) (sh3.trans ((EP s3 _ s3.toks (Nat.le_refl _)).trans g4.sh)).tk) (λb hb=>?_) (go.st.tabx.off F.fresh) ?_ hDH (λb hb=>?_) M4 ks h04 lD4 rfl ha rfl t1 t3 turns ((Nat.zero_add _).symm▸hK.1) λs' lp=>?_
    .rw[hhid];exact .tail _ (List.mem_append_right _ (List.mem_append_left _ hb))
    .rw[hhid];exact .tail _ (List.mem_append_left _ (.head _))
    .rw[hhid];rcases AN hb with q|q
     .rw[q];exact⟨.head _,alive1 _ _ hoL⟩
     .rcases AN q with q|q
      .rw[q];exact⟨.tail _ (List.mem_append_left _ (.head _)),hDH⟩
      .obtain⟨⟨o,ho⟩,_⟩:=hs1.hid b q;exact⟨.tail _ (List.mem_append_right _ (List.mem_append_right _ q)),alive1 _ _ ho⟩
    .have nD:∀b o,s1.heap.get? b=some o->b≠D:=λb o e1 q=>BJ (D1.symm.trans (q▸e1));have out:=xL hs1 lp.st hpl rfl (λb hb=> .tail _ (.tail _ hb)) (λb o e1 e2 e3=>by
      obtain⟨q1,q2,q3⟩:=old4 b o (up1 b o e1) e2 e3;exact lp.same b o q1 q2 q3 e3 (nD b o e1) (alive1 b o e1)) (λb o e1=>by
      obtain⟨o',q⟩:=g4.evo.alive b o (up3 _ _ (up1 b o e1));exact lp.alive b o' q (alive1 b o e1)) ((sh3.trans (EP s3 _ s3.toks (Nat.le_refl _))).trans (g4.sh.trans lp.sh))
     have C3:s3.heap.get? s3.heap.objs.size=none:=HB;have C1:s1.heap.get? s3.heap.objs.size=none:=by
      cases q:s1.heap.get? s3.heap.objs.size with
      |none=>rfl
      |some o=>exact BJ (C3.symm.trans (up1 _ _ q))
     have C0:s.heap.get? s3.heap.objs.size=none:=by
      cases q:s.heap.get? s3.heap.objs.size with
      |none=>rfl
      |some o=>exact(go.evo.alive _ _ q).elim λo' q'=>BJ (C1.symm.trans q')
     have fC:=hs1.freshN C1;obtain⟨mC,hnC,_⟩:=lp.st.loc;obtain⟨us,k1,k2,_⟩:=lp.li;have hDhid:D∉as1.hid:=λq=>(hs1.hid D q).1.elim λo ho=>BJ (D1.symm.trans ho);refine k c1 as1 D s3.heap.objs.size s' _ mC (go.trans out go.len) C0 fC.1 fC.2.2 fC.2.1 (λq=>?_) ?_ hnC ⟨D,us,rfl,⟨fD.1,hDhid,fD.2.1⟩,k1,?_⟩ hK.2
     .exact(hs1.hid _ q).1.elim λo ho=>BJ (C1.symm.trans ho)
     .cases q:AA.get? s3.heap.objs.size with
      |none=>rfl
      |some o=>exact BJ (C1.symm.trans (hs1.keep _ o q fC.2.1))
     .refine CVs.frz (λb o e1 h1 _=>⟨e1,λq=>h1.1 ?_,λq=>h1.2.1 (.tail _ (.tail _ q)),h1.2.2⟩) lp.fre k2;have:b∈as'.pl.take as1.pl.length:=by rw[hpl];exact q
      exact List.mem_of_mem_take this
   exact NI rfl (ha g (.head _)) key (wpAny_mono (F.self 0 s4 (λit' s'=>codeAny (model pw AA.w) A (.compLoop (.ListComp elt (g::gs) sc pos) 0 it' (.ref D) {newEnv sc s3.heap.objs.size mainGlobals cells e.qual none .none (some e) builtinsNs with scope:=LD sc c1.fr})
     (compPost (model pw AA.w) A no use P (.ref D) s3.heap.objs.size) s') h04 key) (λ_ _ x=>x) λ_ _ x=>x.elim)
theorem XD(T:BH AA)(ih:Ok AA n)(iw:Io AA n)(ic:Mine.Internal AA n)(hs:St AA c e as s.heap)(hr:AL A e (n+1))(ht:1<=s.toks){elt:Expr}{g:Comprehension}{pos:Pos}
  (h:lP (AX n) elt g gs sc c Q):wpAny (model pw AA.w) A (eval (.ListComp elt (g::gs) sc pos) e) (AI AA e c as s Q) no s:=by
 simp only[eval_ListComp];refine eA T ih iw ic hs hr ht h λc1 as1 D C s' ys m go q1 q2 q3 q4 q5 q6 hn cv hq=>⟨m,hn,λh' sb=>?_⟩;obtain⟨go',M⟩:=go.lost q1 q2 q3 q4 q5 q6 hn sb;exact⟨c1,as1,_,go',CV.mono M _ _ cv,hq⟩
theorem iH(hs:St AA c e as s.heap){elt:Expr}{gens:List Comprehension}{pos:Pos}{line:Nat}:∃b,swapsWith (.ListComp elt gens sc pos) (some (.Name x p)) line e=pure b:=
 ⟨e.blockKind== .function&&e.kindOf x==some .local&&p.line==pos.line&& !(sc.names.any λ(n,k)=>n==x&&(k== .local||k== .cell)),rfl⟩
theorem eB(T:BH AA)(ih:Ok AA n)(iw:Io AA n)(ic:Mine.Internal AA n)(hs:St AA c e as s.heap)(hr:AL A e (n+1))(ht:1<=s.toks){elt:Expr}{g:Comprehension}{pos:Pos}
  (h:lP (AX n) elt g gs sc c (FH λw c1=>on (HS c1 x w) λc2=>Q (.f .next) c2)):wpAny (model pw AA.w) A (exec (.Assign [.Name x p] (.ListComp elt (g::gs) sc pos) q) e) (CP AA e c as s Q) no s:=by
 obtain⟨b,hb⟩:=iH hs (elt:=elt) (gens:=g::gs) (sc:=sc) (pos:=pos) (p:=p) (x:=x) (line:=q.line);cases b with
 |false=>refine wpAny_Assign_Name (wpAny_mono (XD (Q:=FH λw c1=>on (HS c1 x w) λc2=>Q (.f .next) c2) T ih iw ic hs hr ht h) (λv s1 ⟨c1,as1,a,go,cv,q⟩=>?_) λ_ _ x=>x) hb;obtain⟨c2,hb2,hq⟩:=AG q;exact EK go.st cv hb2 λs2 g2=>⟨c2,as1,.next,(go.trans g2 go.len).le hs.low,rfl,hq⟩
 |true=>rw[exec_Assign_Name_used _ _ _ _ hb];refine wpAny_bind (wpAny_standAt (wpAny_bind ?_));show wpAny _ _ (comprehension _ _ _ _ _ _ _ _>>= λ_=>pure ()) _ _ _;refine wpAny_bind (eA (Q:=FH λw c1=>on (HS c1 x w) λc2=>Q (.f .next) c2) T ih iw ic hs hr ht h λc1 as1 D C s' ys m go q1 q2 q3 q4 q5 q6 hn cv hq=>?_);obtain⟨c2,hb2,hq⟩:=AG hq;show wpAny _ _ (assign (.Name x p) e (.ref D)) _ _ _;refine assign_Name (EK go.st cv hb2 λs2 g2=>?_);have hn2:s2.heap.Ns C m:=hn.at' λo e1=>g2.evo.same C o e1 q2 q3 q4;refine⟨m,hn2,λh' sb=>wpAny_pure (wpAny_pure ?_)⟩;obtain⟨go',M⟩:=(go.trans g2 go.len).lost q1 q2 q3 q4 q5 q6 hn2 sb;exact⟨c2,as1,.next,go'.le hs.low,rfl,hq⟩
theorem qT(hs:St AA c e as s.heap)(hr:AL A e n){es:List (AV×AV)}{g:Obj}(hl:as.pl[l]? =some a)(hx:c.st[l]? =some (.dict es g))(hn:es.length<=1000)(hm:(a==sysModules)=false)(q:Q (.v (.flist (es.map (·.2)))) c):
  wpAny (model pw AA.w) A (PySem.call (.builtin "dict.values") [.ref a]) (λv s1=>wpAny (model pw AA.w) A (PySem.call (.type "list") [v]) (AI AA e c as s Q) no s1) no s:=by
 have key:∀{K:Type} [DecidableEq K] {knd:KeyKind pw AA.w K} {f:K->AV},DK knd f s.heap as es a->
   wpAny (model pw AA.w) A (PySem.call (.builtin "dict.values") [.ref a]) (λv s1=>wpAny (model pw AA.w) A (PySem.call (.type "list") [v]) (AI AA e c as s Q) no s1) no s:=by
  rintro K _ knd f ⟨kvs,hd,h4,cv⟩;have hk:kvs.length<=1000:=by have:=congrArg List.length h4;rw[List.length_map,List.length_map]at this;exact this▸hn
  refine call_meetsIn PySem.F.slot_dict_values hd.typeIs PySem.F.entry_dict_values (PySem.F.args_dict_values_1 _) (meets_dict_values knd a hm) ⟨⟨kvs,hd⟩,?_⟩;have g1:=hs.push {cls:= .type "dict_values",data:= .fields #[.ref a]} s.toks;obtain⟨m1,lo1⟩:=g1.st.locs;obtain⟨o,es',ep,ho,hrest⟩:=hd;have hne:a≠e.locals:=λq=>hs.loff (q▸List.mem_of_getElem? hl);have hv:s.heap.objs.size≠e.locals:=λq=>by obtain⟨m,lo⟩:=hs.locs;obtain⟨o',_,_,h5,_⟩:=lo.ns;exact Nat.ne_of_lt (Heap.lt_size h5) q.symm
  have nv:(s.heap.objs.size,({cls:= .type "dict_values",data:= .fields #[.ref a]}:Obj))∈pT (s.heap.push {cls:= .type "dict_values",data:= .fields #[.ref a]}) e.locals:=JW.mpr ⟨Heap.get?_push_size _ rfl,hv⟩;have na:(a,o)∈pT (s.heap.push {cls:= .type "dict_values",data:= .fields #[.ref a]}) e.locals:=JW.mpr ⟨Heap.get?_push_of_some _ ho,hne⟩;refine BI (kdl_list_valuesP (knd:=knd) (kvs:=kvs) (o:=o) (v:=s.heap.objs.size) hr.quiet lo1.fr (WP _ _) nv na ⟨es',ep,hrest⟩ (Nat.le_trans hk (by decide)) λB cc h' tk F' N' hB htk=>?_);have htk':s.toks<=tk:=htk;obtain⟨g2,hB1,hB2⟩:=g1.st.made lo1 F' N' (by show(s.heap.push _).objs.size<=B;rw[Heap.size_push];exact hB _ nv) tk htk;have g:=g1.trans g2 (Nat.le_refl _);exact .ofGo (a:= .flist _) g ⟨B,kvs.map (·.2),rfl,hB2,⟨_,hB1⟩,g.cvs hs cv⟩ q
 exact(hs.at hl hx).2.elim key key
theorem En(hb:IP o=true)(hl:(p.endLine==p'.line)=true)
  (h:wpAny (model pw AA.w) A (eval o e) (λov s1=>∀pl,wpAny (model pw AA.w) A (getMethod ov m pl) (λr s2=>JD (model pw AA.w) s2.heap r.1/\wpAny (model pw AA.w) A (PySem.call r.1 r.2) P no s2) no s1) no s):
  wpAny (model pw AA.w) A (eval (.Call (.Attribute o m p) [] [] p') e) P no s:=by
 rw[arm_eval_Call,OR hb];refine wpAny_bind (wpAny_mono h (λov s1 h1=>?_) λ_ _ x=>x);refine wpAny_bind (wpAny_standAt ?_);have hform:methodCallForm (([]:List Expr).length+([]:List Keyword).length) (backTo p' (starEach [] e)) (backToKw p' (keywordEach [] e))=true:=rfl;have hpos:methodCallPos true o e p p'=pure p':=by unfold methodCallPos;exact if_pos hl
 unfold methodCall;refine(Eq.symm hform)▸?_;refine wpAny_bind (wpAny_holding (wpAny_mono (h1 _) (λr s2 k=>?_) λ_ _ x=>x));refine wpAny_bind (wpAny_of_eq hpos ?_);refine RP (es:=[]) rfl ?_;show wpAny _ _ (spliced []) _ _ _;exact wpAny_pure ⟨k.1,(List.append_nil r.2).symm▸k.2⟩
end Mine.Internal
end
section
open PySem PySem.Calls PyProof.Rows PySem.W Builtin Builtin.ObjectAttr
namespace Mine.Internal
variable{prog:Program}{w:World}{A:Around}{E:Value->Shared->Prop}{h:Heap}{g:Array GenState}{d:Drawn}{t:Nat}{os:OsState}
variable{nm q:Str}{C N x:Addr}{bs:List Value}{sn:List Str}{sub:List Value}{ab:Bool}{col:Option Bool}{dd:Option Addr}{k0 k1 k2 k3 k5:Option Value}{newId:String}
 {mN mA:Str->Option Value}{name:Str}
theorem SF:typeLookup (.type "function") "__set__"=pure none:=by rw[typeLookup_type,builtinLookup_eq_fast];kernel_rfl
theorem MineV.Internal:typeLookup (.type "function") "__delete__"=pure none:=by rw[typeLookup_type,builtinLookup_eq_fast];kernel_rfl
set_option tactic.hygienic true in
theorem eC{f:Addr}{of:Obj}{tk:Tok}{y:Option Value}{Q:Fin->Shared->Prop}
  (hC:h.get? C=some (excClassObj nm q C N bs [.type "object"] true sn sub ab col dd k0 k1 k2 k3 k5 newId))(hn:h.Ns N mN)(hng:mN "__getattr__"=none)(hna:mN name=some (.ref f))(hfo:h.get? f=some of)(hfc:of.cls= .type "function")
  (hB:typeLookup (.type "object") name=pure y)(hg:(["__module__","__name__","__qualname__","__doc__","__annotations__"]:List Str).contains name=false){o:Obj}{dx:Addr}(hx:h.get? x=some o)(hc:o.cls= .ref C)(hnc:∀c,o.data≠ .cls c)(hdx:o.dict=some dx)(hns:h.Ns1 dx mA)(hv:mA name=none)
  (hq:Q (.done (.ret (.ref h.objs.size))) ⟨h.push {cls:= .type "method",data:= .fields #[.ref f,.ref x]},g,d,t,os⟩):
  wpAny (model prog w) A (Builtin.«proto.getattr_hooked» ⟨[.ref x,.str name tk],[]⟩) Q E ⟨h,g,d,t,os⟩:=by
 have hTf:(⟨h,g,d,t,os⟩:Shared).TypeIs (.ref f) "function":=⟨_,hfo,hfc⟩;have hlk:=F.ks_slot_function_get.lookup;unfold Builtin.«proto.getattr_hooked»
 repeat (first|(with_reducible refine wpAny_loadPart_at hx ?_;rw[hc])|(with_reducible refine wpAny_typeLookup_exc hC hn F.mro_object hB ?_;refine(Eq.symm hna)▸?_)|wp_step)
 refine wpAny_of_eq SF ?_;simp only[Option.isSome_none,Bool.false_eq_true,if_false];refine wpAny_bind (wpAny_specialOf hTf MineV.Internal ?_);refine wpAny_pure ?_;simp only[Option.isSome_none,Bool.false_eq_true,if_false];refine wpAny_pure ?_;dsimp only;unfold ownThenClass inOwnDict ObjectAttr.ownDict
 repeat (first|(with_reducible refine wpAny_loadPart_at hx ?_;rw[hc])|wp_step)
 split
 .rename_i c hcd;exact absurd hcd (hnc c)
 have fin:wpAny (model prog w) A (do copiedAttributeGuard name (Value.ref x);byTheClass (some (Value.ref f)) (some (Value.builtin "function.__get__"))) (λa s'=>wpAny (model prog w) A (match a with
   |Found.value v=>ret v
   |Found.missing=>do missingOrHook (Value.ref x) (Value.str name tk) name (<-typeLookup (Value.ref C) (Str.ofString "__getattr__"))
   |Found.bind g a=>do bindWithHook g a (Value.ref x) (Value.ref C) (Value.str name tk) (<-typeLookup (Value.ref C) (Str.ofString "__getattr__"))) Q E s') E ⟨h,g,d,t,os⟩:=by
  unfold copiedAttributeGuard byTheClass;refine(Eq.symm hg)▸?_;simp only[Bool.false_eq_true,if_false];refine wpAny_bind (wpAny_pure (wpAny_bind (wpAny_rule (wpAny_pure ?_))));dsimp only;refine wpAny_bind (wpAny_typeLookup_exc hC hn F.mro_object F.lk_object_getattr ?_);rw[hng];dsimp only;unfold bindWithHook;dsimp only;unfold bindTo;dsimp only;refine wpAny_bind (wpAny_holding (wpAny_call_entry F.ks_slot_function_get hTf F.ks_entry_function_get ?_ (F.ks_getArgs_function _ _ _)))
  repeat (first|wp_step|dsimp only)
  exact⟨_,rfl,wpAny_pure hq⟩
 unfold instanceDict
 repeat (first|(with_reducible refine wpAny_loadPart_at hx ?_;refine(Eq.symm hc)▸?_)|with_reducible refine wpAny_loadPart_at hC ?_|wp_step)
 rw[hdx];refine wpAny_pure ?_;show wpAny _ _ (nsGet dx name) _ _ _;refine wpAny_nsGet hns.ns ?_;rw[hv];exact fin
theorem iI{expr:Bool}{f:Addr}{of:Obj}{y:Option Value}{Q:Value->Shared->Prop}
  (hC:h.get? C=some (excClassObj nm q C N bs [.type "object"] true sn sub ab col dd k0 k1 k2 k3 k5 newId))(hn:h.Ns N mN)(hnga:mN "__getattribute__"=none)(hng:mN "__getattr__"=none)(hna:mN name=some (.ref f))(hfo:h.get? f=some of)(hfc:of.cls= .type "function")
  (hB:typeLookup (.type "object") name=pure y)(hg:(["__module__","__name__","__qualname__","__doc__","__annotations__"]:List Str).contains name=false){o:Obj}{dx:Addr}(hx:h.get? x=some o)(hc:o.cls= .ref C)(hnc:∀c,o.data≠ .cls c)(hdx:o.dict=some dx)(hns:h.Ns1 dx mA)(hv:mA name=none)
  (hq:Q (.ref h.objs.size) ⟨h.push {cls:= .type "method",data:= .fields #[.ref f,.ref x]},g,d,t+1,os⟩):
  wpAny (model prog w) A (getAttr (.ref x) name expr) Q E ⟨h,g,d,t,os⟩:=by
 unfold getAttr getAttrBy
 repeat (first|(with_reducible refine wpAny_loadPart_at hx ?_;rw[hc])|(with_reducible refine wpAny_typeLookup_exc hC hn F.mro_object F.lk_object_ga ?_;rw[hnga])|wp_step)
 show wpAny _ _ ((runValue (.builtin "proto.getattr_hooked" ⟨[.ref x,.str name t],[]⟩)).onRaise (noteIf true (.ref x) (.str name t))) _ _ _;exact wpAny_onRaise (wpAny_runValue (codeAny_builtin F.plainObj_entry_getattr_hooked (eC hC hn hng hna hfo hfc hB hg hx hc hnc hdx hns hv (by show wpAny _ _ (handedOut _) _ _ _;exact wpAny_pure hq))))
theorem UF:typeLookup (.type "method") "__call__"=pure (some (.builtin "method.__call__")):=by rw[typeLookup_type,builtinLookup_eq_fast];kernel_rfl
theorem iJ(a b:Value):argsOk "iter" ⟨[a,b],[]⟩:=by unfold argsOk;kernel_rfl
theorem iK{s:Shared}{b f x:Nat}{u:Value}{Q:Value->Shared->Prop}(hb:s.heap.get? b=some {cls:= .type "method",data:= .fields #[.ref f,.ref x]})
  (hq:Q (.ref s.heap.objs.size) {s with heap:=s.heap.push {cls:= .type "callable_iterator",data:= .fields #[.ref b,u,.bool false]}}):wpAny (model prog w) A (call (.builtin "iter") [.ref b,u]) Q E s:=by
 refine call_function_entry (by decide+kernel) (by decide+kernel) kdk_entry_iter (iJ _ _) ?_;unfold Builtin.«iter»;refine wpAny_bind (m:=someArgs "iter" 1 2 _) (wpAny_of_eq (a:=[Value.ref b,u]) (by first|rfl|kernel_rfl!) ?_);dsimp only;refine wpAny_bind (wpAny_specialOf (T:="method") ⟨_,hb,rfl⟩ UF ?_);simp only[Option.isNone_some,Bool.false_eq_true,if_false];refine wpAny_bind (wpAny_rule (wpAny_bind ?_));exact wpAny_newObj_type (wpAny_pure ⟨_,rfl,hq⟩) (by size_fits)
end Mine.Internal
end
section
open PySem PySem.Calls PyProof.Rows PySem.W
set_option autoImplicit true
namespace Mine.Internal
variable{AA:AP}{n:Nat}{A:Around}{e:Env}{as as1:AH}{s s1 s':Shared}{c c1:AC}{Q:AB}
variable{t o it:Expr}{f m y x:Str}{K:List AV->AC->Prop}{xs ys:List AV}{p p' r q:Pos}{h h':Heap}{i k b a d l sl D N lo0 I g dx j:Nat}{u v ov iv wv av:Value}{z:AV}{lo st:Option Int}{vs us:List Value}{es:List Expr}{ob o1:Obj}{P X:Value->Shared->Prop}{c2 c' c0 c4:AC}{as2 as0 as' as4:AH}{s2 s4 s0:Shared}{fs:List (Str×AV)}{ex:Bool}{M:Model}{T:String}{sc:Scope}{st0:List AO}{pl' fp pl H Hs:List Nat}{L:List Str}{R:Result->Shared->Prop}{wr:List Addr}{G:Array GenState->Array GenState->Prop}{cl:List (Str×Nat)}{op:Operator}{S St':Nat->Heap->Prop}{tk:Tok}{gs:List Comprehension}
theorem DK.getVals{K:Type}[DecidableEq K]{knd:KeyKind pw AA.w K}{f:K->AV}{es:List (AV×AV)}{pl:Sem Bool}{P:Value×List Value->Shared->Prop}(d:DK knd f s.heap as es a)(k:P (.builtin "dict.values",[.ref a]) s):wpAny (model pw AA.w) A (getMethod (.ref a) "values" pl) P no s:=by obtain⟨kvs,hd,_,_⟩:=d;exact getMethod_builtin hd.typeIs F.plainAttrs_dict F.slot_dict_values F.type_dict_values hd.mapOf.noDict k
theorem Rq(T:BH AA)(ih:Ok AA n)(hs:St AA c e as s.heap)(hr:AL A e (n+1))(ht:1<=s.toks)(h:lL (AX n) f p o m p' r c Q):
  wpAny (model pw AA.w) A (eval (.Call (.Name f p) [.Call (.Attribute o m p') [] [] r] [] q) e) (AI AA e c as s Q) no s:=by
 rcases DP h with⟨hf,h⟩|⟨_,h⟩
 .obtain⟨hb,h'⟩:=DT h;obtain⟨hb,hb4⟩:=BG hb;obtain⟨hb,hb3⟩:=BG hb;obtain⟨hb1,hb2⟩:=BG hb;obtain rfl:=eq_of_beq hb4;refine FR T hs hb1 (OM hf) rfl λv s0 g0 cf=>?_;obtain rfl:v= .type "list":=cf;refine dW rfl (En hb2 hb3 (JI ih hr h' g0.st (g0.tk ht) λc1 as1 a s1 v g1 v1 k=>?_));intro pl;obtain⟨es,hx,k1,k2⟩:=AG k;obtain⟨l,hl,hx⟩:=AD hx;obtain⟨y,hy,hx⟩:=AD hx;obtain⟨g,rfl⟩:=MK hx;obtain⟨b,hl,rfl⟩:=(CT hl▸v1:CV _ _ (.loc l) v);have fin:wpAny (model pw AA.w) A (PySem.call (.builtin "dict.values") [.ref b]) (λv s'=>JD (model pw AA.w) s'.heap (.type "list")/\wpAny (model pw AA.w) A (PySem.call (.type "list") [v]) (AI AA e c as s Q) no s') no s1:=
   wpAny_mono (qT g1.st hr hl hy k1 (TX T g1.st hl) k2) (λv s2 q=>⟨IL,wpAny_mono q (λ_ _ x=>AI.after (g0.trans g1 g0.len) x) λ_ _ x=>x⟩) λ_ _ x=>x
  exact(g1.st.at hl hy).2.elim (λd=>d.getVals ⟨EW,fin⟩) λd=>d.getVals ⟨EW,fin⟩
 .exact OX T ih hs hr ht h
theorem Wy(T:BH AA)(W:NH AA)(ih:Ok AA n)(hs:St AA c e as s.heap)(hr:AL A e (n+1))(ht:1<=s.toks){g:Str}{x:Expr}(h:uL (AX n) f p g p' x r c Q):
  wpAny (model pw AA.w) A (eval (.Call (.Name f p) [.Call (.Name g p') [x] [] r] [] q) e) (AI AA e c as s Q) no s:=by
 rcases DP h with⟨hf,h⟩|⟨_,h⟩
 .obtain⟨hb,h⟩:=DT h;refine FR T hs (BG hb).1 (cI (BG hf).1) rfl λv s0 g0 cf=>?_;obtain rfl:v= .builtin "sorted":=cf;have hst:=KJ h;refine dW rfl (FR T g0.st (BG hb).2 (OM (BG hf).2) (Ek hst) λv s00 g00 cf=>?_);obtain rfl:v= .type "set":=cf;have g0':=g0.trans g00 g0.len;refine dW hst (JI ih hr h g00.st (g0'.tk ht) λc1 as1 a s1 v g1 v1 k=>⟨IL,?_⟩);obtain⟨xs,hx,is,k1,k2,k3⟩:=AG k;exact wpAny_mono (W.sset g1.st (hr.le (Nat.succ_le_succ (Nat.zero_le _))) v1 hx k1 k2 k3) (λv s2 q=>⟨EW,wpAny_mono q (λ_ _ x=>AI.after (g0'.trans g1 g0'.len) x) λ_ _ x=>x⟩) λ_ _ x=>x
 .exact OX T ih hs hr ht h
theorem UG{k:Str}{ch:Nat}(h:k.cps.toList=[ch]):k=⟨#[ch]⟩:=congrArg Str.mk (Array.toList_inj.mp h)
theorem iL(h:FI.lookup m=some g):(["__module__","__name__","__qualname__","__doc__","__annotations__"]:List Str).contains m=false:=by rcases(OW h).1 with⟨rfl,_⟩|⟨rfl,_⟩|⟨rfl,_⟩|⟨rfl,_⟩<;>decide+kernel
theorem qU(T:BH AA)(hs:St AA c e as s.heap)(hi:mK s.heap as fs b d FZ)(hf:fs.lookup m=none)(hg:FI.lookup m=some g)
  (k:P (.ref s.heap.objs.size) {s with heap:=s.heap.push {cls:= .type "method",data:= .fields #[.ref g,.ref b]},toks:=s.toks+1}):wpAny (model pw AA.w) A (getAttr (.ref b) m ex) P no s:=by
 obtain⟨dx,mA,i1,i2,i3,i4,⟨ob,hob,hobd⟩,i6,i7⟩:=hi;obtain⟨N,mN,X,n1,n2,n3,n4,n5,n6⟩:=T.cls;obtain⟨nm,q',bs,sn,sub,col,dd,r0,r1,r2,r3,r5,hC⟩:=gP (X.keeps (hs.old T));obtain⟨y,hy⟩:=dN hg;obtain⟨fd,hfd⟩:=(OW hg).2;obtain⟨o,f,cd,oc,fs',t',j1,j2,_⟩:=T.fns g fd (ZG hfd);have hna:mA m=none:=by
  cases q:mA m with
  |none=>rfl
  |some z=>exact absurd hf (i6 m λz=>tE (q.symm.trans z))
 obtain⟨o2,h1,h2,h3,_⟩:=i3;obtain rfl:=sj (hob.symm.trans h1);exact iI hC (X.keeps (hs.old T)).ns n1 n2 (n5 _ _ hg) (hs.old T _ _ j1) j2 hy (iL hg) hob h2 h3 hobd i4 hna k
theorem iM(T:BH AA)(W:NH AA)(ih:Ok AA n)(hs:St AA c e as s.heap)(hr:AL A e (n+1))(ht:1<=s.toks){x:Expr}{k:Str}(h:cK (AX n) f p x k j q c Q):
  wpAny (model pw AA.w) A (eval (.Call (.Name f p) [x,.Constant (.str k) j q] [] r) e) (AI AA e c as s Q) no s:=by
 have uC:∀{F:Nat} {K:AV->AC->Prop},IQ f=true->DB c f=some (.fn F)->AX n (.eval x) c (FH K)->(∀v c1 as1 s1 s2,Go AA e as.pl.length c as s c1 as1 s1->(∃a,CV s1.heap as1 a v/\K a c1)->s2={s1 with toks:=s1.toks+1}->St AA c1 e as1 s2.heap->
   JD (model pw AA.w) s2.heap (.ref F)/\wpAny (model pw AA.w) A (PySem.call (.ref F) [v,.str k s1.toks]) (AI AA e c1 as1 s2 Q) no s2)->wpAny (model pw AA.w) A (eval (.Call (.Name f p) [x,.Constant (.str k) j q] [] r) e) (AI AA e c as s Q) no s:=by
  intro F K hn hf hx kk;have hst:=KJ hx;refine FR T hs hn hf (Lr hst rfl) λv s0 g0 cf=>?_;obtain rfl:v= .ref F:=cf;refine El hst rfl (JI ih hr hx g0.st (g0.tk ht) λc1 as1 a s1 u g1 v1 k1=>?_);have g:=g0.trans g1 g0.len;have gt:=g1.st.toks (s1.toks+1);exact Constant_str (And.imp_right (λk3=>wpAny_mono k3 (λw s3 z=>AI.after (g.trans gt g.len) z) λ_ _ z=>z) (kk u c1 as1 s1 _ g ⟨a,v1,k1⟩ rfl gt.st))
 have room1:AL A e 1:=hr.le (Nat.succ_le_succ (Nat.zero_le _));rcases DP h with⟨hf,h⟩|⟨_,h⟩
 .obtain⟨hn,h⟩:=DT h;refine uC hn (lK hf) h λv c1 as1 s1 s2 g va hs2 gt=>?_;obtain⟨a,va,ka⟩:=va;obtain⟨y,h1,ka⟩:=AG ka;obtain⟨ch,hk,ka⟩:=AG ka;obtain⟨i,k1,k2⟩:=AG ka;obtain⟨t,rfl⟩:=(AU h1▸va:CV _ _ (.str y) v);obtain rfl:=UG (CX hk);subst hs2;exact⟨(JJ T gt (a:=35) rfl).keeps,W.index gt room1 (g.tk ht) (Nat.lt_succ_self _) k1 k2⟩
 rcases DP h with⟨hf,h⟩|⟨_,h⟩
 .obtain⟨hn,h⟩:=DT h;obtain⟨hn,hl⟩:=BG hn;obtain⟨l1,l2⟩:=hr.link (hs.scope▸hl);refine uC hn (lK hf) h λv c1 as1 s1 s2 g va hs2 gt=>?_;obtain⟨a,va,ka⟩:=va;obtain⟨y,h1,ka⟩:=AG ka;obtain⟨ch,hk,ka⟩:=AG ka;obtain⟨t,rfl⟩:=(AU h1▸va:CV _ _ (.str y) v);obtain rfl:=UG (CX hk);subst hs2;exact⟨(JJ T gt (a:=212) rfl).keeps,W.lacked gt room1 l1 l2 (g.tk ht) (Nat.lt_succ_self _) ka⟩
 rcases DP h with⟨hf,h⟩|⟨_,h⟩
 .obtain⟨y,hx,h⟩:=AG h;obtain⟨hb,h'⟩:=DT h;obtain⟨hb,he⟩:=BG hb;obtain⟨hb1,hb2⟩:=BG hb;obtain rfl:k=⟨#[]⟩:=congrArg Str.mk (Array.toList_inj.mp (List.isEmpty_iff.mp he));obtain rfl:=JS hx;refine FR T hs hb1 (cI hf) rfl λv s0 g0 cf=>?_;obtain rfl:v= .builtin "iter":=cf;refine El rfl rfl ?_;rw[arm_eval_Attribute,OR hb2];refine wpAny_bind (JI ih hr h' g0.st (g0.tk ht) λc1 as1 a s1 u g1 v1 k1=>?_);obtain⟨l,hl,k1⟩:=AG k1;obtain⟨pp,hi,k1⟩:=AG k1;obtain⟨k0,k5⟩:=DT k1;obtain⟨gg,k3,k4⟩:=AG k5;obtain⟨l',b,e1,rfl,hb',f1,f2,ik⟩:=OQ g1.st v1 hi;obtain rfl:=sj (((congrArg GF e1).symm.trans hl:some l'=some l));refine wpAny_bind (wpAny_standAt (wpAny_bind (wpAny_holding (qU T g1.st (eq_of_beq (BG k0).1▸ik) (Option.isNone_iff_eq_none.mp (BG k0).2) k3 ?_))));refine wpAny_bind (wpAny_letTemporaryGo (wpAny_pure ?_));refine Constant_str ⟨EW,?_⟩;refine iK (Heap.get?_push_size _ rfl) ?_;have g01:=g0.trans g1 g0.len;have gm:=g1.st.push {cls:= .type "method",data:= .fields #[.ref gg,.ref b]} (s1.toks+1);have gc:=gm.st.toks (s1.toks+1+1);have offb:=g1.st.offNew (Nat.le_refl _);have gp:=gc.st.placed (o:= .citer l' gg) {cls:= .type "callable_iterator",data:= .fields #[.ref s1.heap.objs.size,.str ⟨#[]⟩ (s1.toks+1),.bool false]} (λ_=>⟨s1.heap.objs.size,b,s1.toks+1,Heap.get?_push_size _ rfl,⟨λq=>?_,offb.2⟩,Heap.get?_push_of_some _ (Heap.get?_push_size _ rfl),AH.up hb'⟩) (s1.toks+1+1)
  .exact .ofGo (a:= .loc c1.st.length) (((g01.trans gm g01.len).trans gc g01.len).trans gp g01.len) ⟨_,g1.st.len▸AH.last,rfl⟩ k4
  .exact(HV q).elim offb.1 λq=>Nat.succ_ne_self s1.heap.objs.size ((Heap.size_push ..).symm.trans (AR q).symm)
 .exact OX T ih hs hr ht h
theorem Lu(T:BH AA)(W:NH AA)(ih:Ok AA n)(hs:St AA c e as s.heap)(hr:AL A e (n+1))(ht:1<=s.toks){bs:List Expr}(h:cN (AX n) f p bs c Q):
  wpAny (model pw AA.w) A (eval (.Call (.Name f p) bs [] q) e) (AI AA e c as s Q) no s:=by
 have G:IF (AX n) f p bs c Q->wpAny (model pw AA.w) A (eval (.Call (.Name f p) bs [] q) e) (AI AA e c as s Q) no s:=OX T ih hs hr ht;rcases DR h with⟨x,h1,h⟩|⟨_,h⟩
 .rw[CX h1]at G⊢;rcases DR h with⟨t,h2,h⟩|⟨_,h⟩
  .rcases DR h with⟨y,h3,h⟩|⟨_,h⟩
   .rw[cL h2,CX h3];exact Wy T W ih hs hr ht h
   .exact G h
  rcases DR h with⟨t,h2,h⟩|⟨_,h⟩
  .obtain⟨u,h3,h2⟩:=AD h2;obtain⟨h4,h2⟩:=AS h2;obtain⟨a,h5,rfl⟩:=AZ h2;rw[TJ h3,JS h5,List.isEmpty_iff.mp (BG h4).1,List.isEmpty_iff.mp (BG h4).2];exact Rq T ih hs hr ht h
  .exact G h
 rcases DR h with⟨x,h1,h⟩|⟨_,h⟩
 .rcases DR h with⟨k,h2,h⟩|⟨_,h⟩
  .rw[NN h1,Ck h2];exact iM T W ih hs hr ht h
  .exact G h
 .exact G h
noncomputable def xN:Pos:=Stmt.FunctionDef.elim (motive_2:=λ_=>Pos) OJ (by kernel_rfl) λ_ _ _ _ _ _ _ _ _ p=>p
theorem eD:OJ= .FunctionDef BD.name BD.params BD.body [] none [] BD.scope none BD.name xN:=by kernel_rfl
theorem eE:BD.params.defaults=[]/\BD.params.kw_defaults=[]/\∀e,annTrees BD.params none e=[]:=⟨by kernel_rfl,by kernel_rfl,λe=>by kernel_rfl⟩
inductive Lv(AA:AP)(e:Env)(c:AC)(as:AH)(s:Shared)(c3:AC)(f:Flow)(s':Shared):Prop
 |mk (e1:f= .next) (as':AH) (g:Go AA e as.pl.length c as s c3 as' s'):Lv AA e c as s c3 f s'
theorem Lw(T:BH AA)(hs:St AA c e as s.heap){cd:Nat}{mg:Str->Option Value}(hcode:e.code= .ref cd)(C:CodeHd AA.toHeap cd BO)(hg:AA.toHeap.Ns mainGlobals mg)(hB:AA.toHeap.BuiltinsAt mg BO)
  (hx:c.st[0]? =some .tab)(hf:IE c.fr BD.scope.names []=some cl){c3:AC}(hb:HS ((c.setAt 0 .dead).add (.clos cl)) BD.name (.loc c.st.length)=some c3):
  wpAny (model pw AA.w) A (exec OJ e) (Lv AA e c as s c3) no s:=by
 rw[eD];obtain⟨i1,i2,i3⟩:=eE;refine nestDef_K i1 i2 (i3 e) ?_;obtain⟨P,hl,rfl,hP⟩:=hs.objs _ _ hx;obtain⟨cs,hcl,hlk⟩:=NU hs hf;have hBs:s.heap.BuiltinsAt mg BO:=by obtain⟨bm,o,b1,b2,b3,b4,b5,b6⟩:=hB;exact⟨bm,o,b1,b2,b3,b4,hs.old T _ _ b5,b6⟩
 refine BI (makeFunction_K (ps:= #[]) hcl hs.glb (hg.at' λo e1=>hs.old T _ _ e1) hcode (C.keeps (hs.old T)) hP trivial rfl (by decide) hBs λc' ctv doc h' tk hk hge hlt hrec htb htk=>?_);obtain⟨K2,oc,vs,t,e2,hoc,hd,hv⟩:=hrec;obtain rfl:=PySem.Value.ref.inj e2;have g1:=hs.turnedS (s':={s with heap:=h',toks:=tk}) (o:= .dead) hl (λb ob hb e1=>hk b ob hb e1) ⟨_,htb⟩ (λ_=>⟨_,htb⟩) (Sh.heap s h' tk htk) ⟨_,htb⟩;have offc:=hs.offNew hge;have gp:=g1.st.placed (o:= .clos cl) (fnMade BD.name (qualnameIn e BD.name BD.name) BD.params BD.body BD.scope cs doc ((mg "__name__").getD .none) c' ctv)
  (λ_=>⟨_,_,c',Heap.get?_push_size _ rfl,rfl,⟨rfl,rfl,rfl,rfl,rfl,rfl,rfl,rfl⟩,⟨oc,vs,t,⟨λq=>?_,offc.2⟩,Heap.get?_push_of_some _ hoc,hd,hv⟩,λx l e1=>(hlk x l e1).imp λ_ h=>h.imp_left AH.up⟩) tk
 .have g:=g1.trans gp g1.len;exact EK gp.st (a:= .loc c.st.length) ⟨_,hs.len▸AH.last,rfl⟩ hb λs2 g2=>⟨rfl,_,g.trans g2 g.len⟩
 .rcases HV (show c'∈as.pl++[h'.objs.size]from q)with q|q
  .exact offc.1 q
  .exact Nat.ne_of_lt hlt (AR q)
inductive Rr(A:AY->AC->AB->Prop)(body:List Stmt)(c:AC)(Q:AB):Prop
 |mk (s1 s2 s3:Stmt) (r:List Stmt) (e:body=s1::s2::s3::r) (h:A (.exec s1) c (VY λx c1=>x= .next/\A (.exec s2) c1 (VY λy c2=>y= .next/\c2.st[0]? =some .tab/\on (IE c2.fr BD.scope.names []) λcl=>
   on (HS ((c2.setAt 0 .dead).add (.clos cl)) BD.name (.loc c2.st.length)) λc3=>A (.execs r) c3 Q))):Rr A body c Q
theorem Eo{A:AY->AC->AB->Prop}{body:List Stmt}(h:Kg A body c Q):Rr A body c Q:=by obtain⟨hlen,h⟩:=DT h;obtain⟨s1,r1,rfl,l1⟩:=TC (Nat.eq_of_beq_eq_true hlen);obtain⟨s2,r2,rfl,l2⟩:=TC l1;obtain⟨s3,r3,rfl,_⟩:=TC l2;exact⟨s1,s2,s3,r3,rfl,h⟩
theorem xO(T:BH AA)(ih:Ok AA n):wX AA n:=by
 intro A e as s c us xs Q fd c' hs hr ht cv hfd hb h;obtain⟨s1,s2,s3,r3,e1,h⟩:=Eo h;have h3:s3=OJ:=congrArg (λl=>l.getD 2 default) (e1.symm.trans (congrArg FD.body (sj (hfd.symm.trans (show DD 169=some (KF (DA 17))from rfl)))));obtain⟨o,f,cd,mg,t1,t2,t3,t4,t5,t6⟩:=T.lex;refine OT T hs hr.call (LL T hs hfd) (IG hfd) (acl:=[]) (λx l q=>BJ q) cv hb (K:=λx c'=>match x with
  | .ret v=>Q (.v v) ⟨c.fr,c'.st,c.lo⟩
  | .next=>Q (.v .none) ⟨c.fr,c'.st,c.lo⟩
  |_=>False) (λE as1 s1 ec st1 htk hr1=>?_) λc2 as2 s2 af v g q cv=>?_
 .have hcode:E.code= .ref cd:=(ec o f (hs.old T _ _ t1) t2).trans t3;have ht1:1<=s1.toks:=Nat.le_trans ht htk;rw[e1,h3];refine wpAny_execs_cons (wpAny_mono (ih.S _ _ _ h _ _ _ _ st1 hr1 ht1) (λf s2 y=>CP.rec (λc2 as2 a g2 cf q=>?_) y) λ_ _ x=>x);obtain⟨rfl,h⟩:=q;obtain rfl:=cf;refine wpAny_execs_cons (wpAny_mono (ih.S _ _ _ h _ _ _ _ g2.st hr1 (g2.tk ht1)) (λf s3 y=>CP.rec (λc3 as3 a g3 cf q=>?_) y) λ_ _ x=>x);obtain⟨rfl,hx,h⟩:=q;obtain⟨cl,hf,h⟩:=AG h;obtain⟨c4,hbn,h⟩:=AG h;obtain rfl:=cf;have g3':=g2.trans g3 (Nat.le_of_eq g2.lo.symm);refine wpAny_execs_cons (wpAny_mono (Lw T g3.st hcode t4 t5 t6 hx hf hbn) (λf s4 y=>Lv.rec (λe1 as4 g4=>?_) y) λ_ _ x=>x);subst e1;have g4':=g3'.trans g4 g3'.len;exact wpAny_mono (ih.Ss _ _ _ h _ _ _ _ g4.st hr1 (g4'.tk ht1)) (λf s5 y=>CP.rec (λc5 as5 a g5 cf q=>⟨c5,as5,a,g4'.trans g5 (Nat.le_of_eq g4'.lo.symm),cf,q⟩) y) λ_ _ x=>x
 .cases af with
  |ret z=>exact .ofGo g cv q
  |next=>exact .ofGo (a:= .none) g cv q
  |_=>exact q.elim
end Mine.Internal
end
section
open PySem PySem.Calls PyProof.Rows PySem.W
set_option autoImplicit true
namespace Mine.Internal
variable{h h' h1:Heap}{vs:List Value}{m:Str->Option Value}{Hs:List Nat}{k k' l b f x j i:Nat}{as':AH}{o:AO}{xs:List AV}{es:List (AV×AV)}{v u:Value}{s2:Shared}{c':AC}{p:Pos}{t:Tok}{K:AV->AC->Prop}{op:Operator}{z:AV}
theorem RQ:Manifest.owners.lookup (String.ofList ['r','o','t','a','r','e','t','i','_','e','l','b','a','l','l','a','c'].reverse)=some Manifest.sig_callable_iterator:=by kernel_rfl
theorem KS:Slot "callable_iterator" "__iter__" "callable_iterator.__iter__":=
 .of (owner:="callable_iterator") (n:="__iter__") (by rw[typeLookup_type,builtinLookup_eq_fast];kernel_rfl) (by decide+kernel) (by decide+kernel) (by decide+kernel)
  (by first|exact .inl (by decide+kernel)|exact .inr (by decide+kernel)) (by rw[isSubtype_type];kernel_rfl)
theorem SG(a:Value):argsOk "callable_iterator.__iter__" ⟨[a],[]⟩:=by unfold argsOk;rw[signature?_of (id:="callable_iterator.__iter__") (n:=['_','_','r','e','t','i','_','_']) (o:=['r','o','t','a','r','e','t','i','_','e','l','b','a','l','l','a','c']) (by kernel_rfl) RQ];kernel_rfl
theorem HX:Slot "callable_iterator" "__next__" "callable_iterator.__next__":=
 .of (owner:="callable_iterator") (n:="__next__") (by rw[typeLookup_type,builtinLookup_eq_fast];kernel_rfl) (by decide+kernel) (by decide+kernel) (by decide+kernel)
  (by first|exact .inl (by decide+kernel)|exact .inr (by decide+kernel)) (by rw[isSubtype_type];kernel_rfl)
theorem QX:entryFor table "callable_iterator.__next__"=some Builtin.«callable_iterator.__next__»:=entryFor_of_tree (by kernel_rfl)
theorem SH(a:Value):argsOk "callable_iterator.__next__" ⟨[a],[]⟩:=by unfold argsOk;rw[signature?_of (id:="callable_iterator.__next__") (n:=['_','_','t','x','e','n','_','_']) (o:=['r','o','t','a','r','e','t','i','_','e','l','b','a','l','l','a','c']) (by kernel_rfl) RQ];kernel_rfl
theorem QY:entryFor table "callable_iterator.__iter__"=some Builtin.«dict_keyiterator.__iter__»:=
 entryFor_alias (id':="dict_keyiterator.__iter__") (by kernel_rfl) (by first|rfl|decide+kernel|(unfold String.splitOn;simp+decide [String.splitOnAux])) (by decide+kernel) (by kernel_rfl)
variable{w:World}{A:Around}{E:Value->Shared->Prop}{s:Shared}
structure UH(h:Heap)(a b f x:Nat)(t:Tok):Prop where
 it:h.get? a=some {cls:= .type "callable_iterator",data:= .fields #[.ref b,.str ⟨#[]⟩ t,.bool false]}
 me:h.get? b=some {cls:= .type "method",data:= .fields #[.ref f,.ref x]}
 fn:∃o fd,h.get? f=some o/\o.data= .func fd
theorem UH.typeIs{a:Nat}(h:UH s.heap a b f x t):s.TypeIs (.ref a) "callable_iterator":=⟨_,h.it,rfl⟩
theorem aE{a:Nat}{Q:Value->Shared->Prop}(hit:UH s.heap a b f x t)(h:Q (.ref a) s):wpAny (model prog w) A (pyIter (.ref a)) Q E s:=by refine wpAny_pyIter_slot hit.typeIs KS (wpAny_call_entry KS hit.typeIs QY ?_ (SG _));show wpAny _ _ (ret (.ref a)) _ _ s;exact wpAny_pure ⟨_,rfl,"callable_iterator",_,hit.typeIs,HX.lookup,h⟩
theorem SI(f:Value)(ps:List Value):callBorrowed f ps=(call f ps).keep [borrowed]:=by
 show Sem.call _ _ _ _ _=Sem.call _ _ _ _ _;congr 1;funext r;cases r with
 |ok fl=>cases fl<;>rfl
 |error e=>rfl
theorem xP{o:Obj}{fd:FuncData}{Q:Value->Shared->Prop}(hb:s.heap.get? b=some {cls:= .type "method",data:= .fields #[.ref f,.ref x]})(hf:s.heap.get? f=some o)(hd:o.data= .func fd)
  (h:codeAny (model prog w) A (.call (.ref f) ⟨[.ref x],[]⟩) (λr s'=>match r with| .ok (.ret v)=>Q v s'| .ok _=>False| .error e=>E e s') s):wpAny (model prog w) A (callOutOfASlot (.ref b)) Q E s:=by
 unfold callOutOfASlot;refine wpAny_bind ?_;unfold borrowsExactly;refine wpAny_bind (wpAny_load hb ?_);refine wpAny_bind (wpAny_load hf ?_);rw[hd];refine wpAny_pure ?_;show wpAny _ _ (callBorrowed (.ref b) []) _ _ _;rw[SI];exact wpAny_keep (wpAny_call (ks_codeAny_call_bound hb h))
theorem aF{a:Nat}{Q:Option Value->Shared->Prop}(hh:A.handled=none)(hit:UH s.heap a b f x t)
  (h:codeAny (model prog w) A.in1 (.call (.ref f) ⟨[.ref x],[]⟩) (λr s'=>match r with
   | .ok (.ret v)=>∃ch u b' f' x' t',v= .str ch u/\UH s'.heap a b' f' x' t'/\(ch≠⟨#[]⟩->Q (some (.str ch u)) s')/\(ch=⟨#[]⟩->∀h',Heap.ExtBut a s'.heap h'->(∃o,h'.get? a=some o)->Q none {s' with heap:=h'})
   | .ok _=>False
   | .error e=>False) s):wpAny (model prog w) A (pyNext (.ref a)) Q E s:=by
 unfold pyNext;refine wpAny_bind (wpAny_attempt (wpAny_callSpecial?_slot (name:=Str.ofString "__next__") hit.typeIs HX (wpAny_call_entry HX hit.typeIs QX ?_ (SH _))));unfold Builtin.«callable_iterator.__next__»;refine wpAny_bind ?_;unfold slotArgs;refine wpAny_pure ?_;refine wpAny_bind (wpAny_field hit.it rfl (x:= .bool false) rfl ?_);show wpAny _ _ (field (.ref a) 0>>=_) _ _ _;refine wpAny_bind (wpAny_field hit.it rfl (x:= .ref b) rfl ?_);obtain⟨o,fd,hf,hd⟩:=hit.fn;refine wpAny_bind (wpAny_attempt (xP hit.me hf hd (codeAny_mono h λr s1 hr=>?_)));cases r with
 |error e=>exact hr.elim
 |ok fl=>
  cases fl with
  |ret v=>
   obtain⟨ch,u,b,f,x,t,rfl,hit1,k1,k2⟩:=hr;dsimp only;refine wpAny_bind (wpAny_field hit1.it rfl (x:= .bool false) rfl ?_);show wpAny _ _ (field (.ref a) 1>>=_) _ _ _;refine wpAny_bind (wpAny_field hit1.it rfl (x:= .str ⟨#[]⟩ t) rfl ?_);refine wpAny_bind (wpAny_holding (wpAny_eqBool_str ?_));by_cases q:(⟨#[]⟩:Str)=ch
   .rw[decide_eq_true q,if_neg (by decide)];obtain⟨o1,fd1,hf1,hd1⟩:=hit1.fn;refine wpAny_bind (wpAny_rule (wpAny_bind ?_));show wpAny _ _ (field (.ref a) 0>>=_) _ _ _;refine wpAny_bind (wpAny_field hit1.it rfl (x:= .ref b) rfl ?_);have lets:∀{Q:Unit->Shared->Prop} {E:Value->Shared->Prop} {who:String} {busy:Code->Bool},Q () s1->wpAny (model prog w) A.in1 (slotLetsGo who (.ref b) busy) Q E s1:=λhq=>by unfold slotLetsGo;refine wpAny_bind ?_;unfold borrowsExactly;refine wpAny_bind (wpAny_load hit1.me ?_);refine wpAny_bind (wpAny_load hf1 ?_);rw[hd1];exact wpAny_pure (wpAny_pure hq)
    refine wpAny_bind (lets ?_);refine wpAny_bind (wpAny_setField hit1.it rfl (by exact Nat.succ_pos _) ?_);refine wpAny_bind (wpAny_setField (Heap.get?_update_self _ hit1.it rfl) rfl (by exact Nat.le_add_right _ _) ?_);refine wpAny_setField (Heap.get?_update_self _ (Heap.get?_update_self _ hit1.it rfl) rfl) rfl (by exact Nat.le_refl _) ?_;show wpAny _ _ (newExc (.type "StopIteration") []>>=_) _ _ _;refine wpAny_bind ?_;simp only[newExc,newTuple];refine wpAny_bind (wpAny_newObj_type ?_ (by size_fits));refine wpAny_bind (m:=firstArgMember _ _) (wpAny_of_eq (a:=Value.none) (by first|rfl|(simp only[firstArgMember];rfl)) ?_);refine wpAny_newObj_type ?_ (by size_fits);simp only[raiseNew];refine wpAny_bind (wpAny_handled ?_);rw[show A.in1.handled=none from hh];refine wpAny_bind (wpAny_pure (wpAny_throw ?_));refine wpAny_bind (wpAny_isInstance (T:="StopIteration") (b:=true) ⟨_,Heap.get?_push_size _ rfl,rfl⟩ isSubtype_stop ?_);refine wpAny_pure (k2 q.symm _ (((((Heap.SameBut.update ..).trans (Heap.SameBut.update ..)).trans (Heap.SameBut.update ..)).extBut.push _).push _) ⟨_,Heap.get?_push_of_some _ (Heap.get?_push_of_some _ (Heap.get?_update_self _ (Heap.get?_update_self _ (Heap.get?_update_self _ hit1.it rfl) rfl) rfl))⟩)
   .rw[decide_eq_false q,if_pos (by decide)];exact wpAny_pure ⟨_,rfl,wpAny_pure (k1 λz=>q z.symm)⟩
  |_=>exact hr.elim
end Mine.Internal
end
section
open PySem PySem.Calls PyProof.Rows PySem.W
set_option autoImplicit true
namespace Mine.Internal
variable{AA:AP}{n:Nat}{A:Around}{e:Env}{as as1:AH}{s s1 s':Shared}{c c1:AC}{Q:AB}
variable{t o it:Expr}{f m y x:Str}{K:List AV->AC->Prop}{xs ys:List AV}{p p' r q:Pos}{h h':Heap}{i k b a d l sl D N lo0 I g dx j:Nat}{u v ov iv wv av:Value}{z:AV}{lo st:Option Int}{vs us:List Value}{es:List Expr}{ob o1:Obj}{P X:Value->Shared->Prop}{c2 c' c0 c4:AC}{as2 as0 as' as4:AH}{s2 s4 s0:Shared}{fs:List (Str×AV)}{ex:Bool}{M:Model}{T:String}{sc:Scope}{st0:List AO}{pl' fp pl H Hs:List Nat}{L:List Str}{R:Result->Shared->Prop}{wr:List Addr}{G:Array GenState->Array GenState->Prop}{cl:List (Str×Nat)}{op:Operator}{S St':Nat->Heap->Prop}{tk:Tok}{gs:List Comprehension}
inductive xQ(AA:AP)(e:Env)(c2:AC)(as2:AH)(s:Shared)(l sl g:Nat)(K:List Nat->AC->Prop)(v:Value)(s':Shared):Prop
 |mk (c3:AC) (as3:AH) (ch:List Nat) (g3:Go AA e as2.pl.length c2 as2 s ⟨c2.fr,c3.st,c2.lo⟩ as3 s') (cv:CV s'.heap as3 (.str ch) v) (hx:c3.at l=some (.citer sl g)) (q:K ch c3):xQ AA e c2 as2 s l sl g K v s'
theorem iN(T:BH AA){fd:FD}(hg:DD g=some fd)(st:St AA c2 e as2 s2.heap)(hl:as2.pl[l]? =some I)(hx:c2.at l=some (.citer sl g)):∃bb x tt,UH s2.heap I bb g x tt/\as2.pl[sl]? =some x:=by obtain⟨bb,x,tt,e2,e3,e4,e5⟩:=st.at hl hx;obtain⟨o,f,h1,h2,_⟩:=LL T st hg;exact⟨bb,x,tt,⟨e2,e4,o,f,h1,h2⟩,e5⟩
theorem UI{I:Value}{w:World}{P:Unit->Shared->Prop}{E:Value->Shared->Prop}(h:P () s):wpAny (model pw w) A (letOwnedTupleGo (.Name x p) I v) P E s:=wpAny_pure h
theorem iO(T:BH AA)(ih:Ok AA n)(hr:AL A e (n+1)){fd:FD}(st:St AA c2 e as2 s.heap)(ht:1<=s.toks)(hI:as2.pl[l]? =some I)(hx:c2.at l=some (.citer sl g))(hg:DD g=some fd){K:List Nat->AC->Prop}
  (k1:DS fd [] [.loc sl] c2.st c2.st.length=some c')(k2:AX n (.execs fd.body) c' (VY λx c''=>match x with
   | .ret (.str ch)=>c''.at l=some (.citer sl g)/\K ch c''
   |_=>False)){N:Shared->Prop}{S:Value->Shared->Prop}
  (kS:∀ch c3 as3 s3 v,Go AA e as2.pl.length c2 as2 s ⟨c2.fr,c3.st,c2.lo⟩ as3 s3->CV s3.heap as3 (.str ch) v->c3.at l=some (.citer sl g)->K ch c3->ch≠[]->S v s3)
  (kN:∀c3 as3 s3 h',Go AA e as2.pl.length c2 as2 s ⟨c2.fr,c3.st,c2.lo⟩ as3 s3->c3.at l=some (.citer sl g)->K [] c3->Heap.ExtBut I s3.heap h'->(∃o,h'.get? I=some o)->N {s3 with heap:=h'}):
  wpAny (model pw AA.w) A (pyNext (.ref I)) (λr s2=>match r with
   |none=>N s2
   |some v=>S v s2) no s:=by
 obtain⟨bb,x,tt,hit,hxl⟩:=iN T hg st hI hx;have hrc:LK A.in1 n:=⟨show A.depth<1000 from oD hr.depth,λenv lk=>⟨show A.depth+1+2*n+50<=990 from oD hr.depth,show A.units+1+3+20*n+100<=9000 from oD hr.units,hr.quiet,TY lk⟩⟩;refine aF hr.quiet hit ?_;have key:∀v s',xQ AA e c2 as2 s l sl g K v s'->∃ch u b' f' x' t',v= .str ch u/\UH s'.heap I b' f' x' t'/\(ch≠⟨#[]⟩->S (.str ch u) s')/\(ch=⟨#[]⟩->∀h',Heap.ExtBut I s'.heap h'->(∃o,h'.get? I=some o)->N {s' with heap:=h'}):=by rintro v s' ⟨c3,as3,ch,g3,⟨u,rfl⟩,hx3,q⟩;obtain⟨b3,x3,t3,hit3,_⟩:=iN T hg g3.st (g3.evo.get (EC hI) hI) hx3;exact⟨_,u,b3,g,x3,t3,rfl,hit3,λhne=>kS ch c3 as3 s' _ g3 ⟨u,rfl⟩ hx3 q λe1=>hne (by rw[e1]),λhe h' hk hal=>kN c3 as3 s' h' g3 hx3 ((show ch=[]from congrArg (λz:Str=>z.cps.toList) he)▸q) hk hal⟩
 refine codeAny_mono (dI (acl:=[]) T st hrc (LL T st hg) (IG hg) (λx l q=>BJ q) (vs:=[.loc sl]) (us:=[.ref x]) ⟨_,_,rfl,⟨x,hxl,rfl⟩,rfl⟩ k1
  (λE as3 s3 _ st3 htk hr3=>ih.Ss _ _ _ k2 _ _ _ _ st3 hr3 (Nat.le_trans ht htk)) (P:=xQ AA e c2 as2 s l sl g K) λc3 as3 s3 af v g3 q cv=>?_) λr s' hr'=>?_
 .cases af with
  |ret z=>
   cases z with
   |str ch=>exact⟨c3,as3,ch,g3,cv,q.1,q.2⟩
   |_=>exact q.elim
  |_=>exact q.elim
 .cases r with
  |error x=>exact hr'.elim
  |ok f=>cases f with
   |ret v=>exact key _ _ hr'
   |_=>exact hr'
theorem iP(T:BH AA)(ih:Ok AA n)(hr:AL A e (n+1)){b o:List Stmt}(hn:∃y p,t= .Name y p)(h:pQ (AX n) t b o c1 l sl g Q)(ht:1<=s1.toks)(hs1:St AA c1 e as1 s1.heap)(hI:as1.pl[l]? =some I)(k:∀f s',CP AA e c1 as1 s1 Q f s'->R (.ok f) s'):
  codeAny (model pw AA.w) A (.forLoop t (.ref I) b o e) R s1:=by
 obtain⟨y,p,rfl⟩:=hn;obtain⟨Inv,m0,i0,i1⟩:=h;have no':∀{x:Value} {s:Shared} {E:Value->Shared->Prop},no x s->E x s:=λx=>x.elim;have hl1:=hs1.low;refine codeAny_forLoop_any (QV AA e c1 as1 s1 Inv) ?_ m0 ⟨_,as1.pl,i0,⟨by refine hs1.len▸?_;exact hs1.rel (Nat.le_refl _),.refl (Nat.le_refl _),.refl s1⟩⟩;rintro m s ⟨c2,pl,inv,tu⟩;obtain⟨lo2,hx2,h⟩:=i1 m c2 inv;have lo2':c2.lo=as1.pl.length:=by rw[lo2,hs1.len]
 have hI2:pl[l]? =some I:=tu.evo.get (EC hI) hI;obtain⟨fd,hq,h⟩:=AG h;obtain⟨c',k1,k2⟩:=AG h;have ht2:1<=s.toks:=Nat.le_trans ht tu.sh.tk;refine wpAny_mono (iO T ih hr tu.st ht2 hI2 hx2 hq k1 k2 (N:=λs3=>wpAny (model pw AA.w) A (execs o e) (λf s4=>R (.ok f) s4) (notedBy (model pw AA.w) A e λe s'=>R (.error e) s') s3)
  (S:=λv s3=>wpAny (model pw AA.w) A (letOwnedTupleGo (.Name y p) (.ref I) v) (λ_ s'=>wpAny (model pw AA.w) A (assign (.Name y p) e v) (λ_ GJ=>wpAny (model pw AA.w) A (execs b e) (λf IK=>match f with
     | .next| .cont=>∃m',m'<m/\QV AA e c1 as1 s1 Inv m' IK
     | .brk=>R (.ok .next) IK
     | .ret v=>R (.ok (.ret v)) IK) (notedBy (model pw AA.w) A e λe s'=>R (.error e) s') GJ) (notedBy (model pw AA.w) A e λe s'=>R (.error e) s') s') (notedBy (model pw AA.w) A e λe s'=>R (.error e) s') s3)
  (λch c3 as3 s3 v g3 cv hx3 q hne=>?_) (λc3 as3 s3 h' g3 hx3 q hk hal=>?_)) (λr s3 hr3=>?_) λ_ _ x=>no' x
 .rcases DP q with⟨q0,_⟩|⟨_,q⟩
  .exact absurd (List.isEmpty_iff.mp q0) hne
  obtain⟨c4,b1,b2⟩:=AG q;obtain⟨tu3,e3⟩:=tu.step g3 tu.evo.kle;refine UI ?_;refine(wpAny_mono (LM g3.st hr cv b1 (f:=λ_ GJ=>_) λs5 g5=>?_) (λ_ _ x=>x) λ_ _ x=>no' x);have g35:=g3.trans g5 g3.len;have lo4:c4.lo=as1.pl.length:=by rw[g35.lo];exact lo2'
  obtain⟨tu5,e5⟩:=tu.step g35 tu.evo.kle;refine wpAny_mono (ih.Ss _ _ _ b2 _ _ _ _ g5.st (hr.le (Nat.le_succ _)) (Nat.le_trans ht tu5.sh.tk)) (λf s6 y=>CP.rec (λc6 as6 y g6 cf q=>?_) y) λ_ _ x=>no' x;obtain⟨tu6,e6⟩:=tu5.step (as':=as6) (by rw[<-e5];exact g6) (by rw[lo4];exact Nat.le_refl _);have lo6:c6.lo=as1.pl.length:=by rw[g6.lo];exact lo4
  have next:ON Inv (λm'=>m'<m) c6->∃m',m'<m/\QV AA e c1 as1 s1 Inv m' s6:=λx=>ON.rec (λk L m' ok hm inv=>⟨m',hm,_,_,inv,tu6.trim lo6 ok⟩) x;obtain⟨go,M6⟩:=tu6.out hl1;rw[e6]at cf;cases y with
  |next=>cases cf;exact next q
  |cont=>cases cf;exact next q
  |brk=>cases cf;exact k _ _ ⟨_,_,.next,go.le hl1,rfl,q⟩
  |ret z=>obtain⟨v,rfl,cv⟩:=cf;exact k _ _ ⟨_,_,.ret z,go.le hl1,⟨v,rfl,CV.mono M6 _ _ cv⟩,q⟩
 .have hI3:as3.pl[l]? =some I:=g3.evo.get (EC hI2) hI2;have gd:=g3.st.turnedS (s':={s3 with heap:=h'}) (o:= .dead) hI3 (λb ob hb e1=>hk b ob hb e1) hal (λ_=>hal) (Sh.heap s3 h' s3.toks) ((g3.st.at hI3 hx3).elim λb q2=>q2.elim λx q2=>q2.elim λt q2=>g3.st.tabx.of q2.1 (.inl λz=>nomatch z) λb o e1 e2=>hk b o e2 e1);have g:=g3.trans gd g3.len;obtain⟨tu4,e4⟩:=tu.step g tu.evo.kle;obtain⟨go,_⟩:=tu4.out hl1;have e4':as3=⟨as3.pl,[]++as1.hid⟩:=e4;exact wpAny_mono (ih.Ss _ _ _ q _ _ _ _ go.st (hr.le (Nat.le_succ _)) (go.tk ht)) (λf s4 x=>k f s4 (CP.after hl1 go x)) λ_ _ x=>no' x
 .cases r with
  |none=>exact hr3
  |some v=>exact hr3
structure All(AA:AP)(n:Nat):Prop where
 ok:Ok AA n
 O:Vh AA n
 M:Wv AA n
 I:Io AA n
 K:Mine.Internal AA n
theorem Rs(T:BH AA)(W:NH AA)(ih:All AA n):B5 AA (n+1):=by
 intro x c Q h A e as s hs hr ht;rcases DR (show lV (AX n) x c Q from h)with⟨t,h1,h⟩|⟨_,h⟩
 .obtain⟨h2,h⟩:=IO h;obtain⟨h3,h⟩:=IO h;obtain⟨v,h4,h⟩:=AG h;rw[FA h1];exact CL T hs h2 h3 h4 h
 rcases DR h with⟨t,h1,h⟩|⟨_,h⟩
 .rw[lG h1];exact gQ hs h
 rcases DR h with⟨t,h1,h⟩|⟨_,h⟩
 .obtain⟨h2,h⟩:=DT h;rw[TJ h1,List.isEmpty_iff.mp h2];rcases DR h with⟨u,h3,h⟩|⟨_,h⟩
  .rw[JS h3];exact Ea T ih.ok ih.M hs hr ht h
  .obtain⟨u,h3,h⟩:=AG h;rw[FA h3];exact Lu T W ih.ok hs hr ht h
 rcases DR h with⟨t,h1,h⟩|⟨_,h⟩
 .rw[lH h1];rcases DR h with⟨u,h3,h⟩|⟨_,h⟩
  .rw[pN h3];exact Lb ih.ok ih.O hs hr ht h
  .exact VZ ih.ok T hs hr ht h
 rcases DR h with⟨t,h1,h⟩|⟨_,h⟩
 .rw[Bx h1];exact Wj ih.ok hs hr ht (λhs ha hb h _ q=>Kp hs ha hb h q) h
 rcases DR h with⟨t,h1,h⟩|⟨_,h⟩
 .rw[JS h1];exact Rg T ih.ok hs hr ht h
 rcases DR h with⟨t,h1,h⟩|⟨_,h⟩
 .obtain⟨op,h2,h⟩:=AG h;obtain⟨r,h3,h⟩:=AG h;obtain⟨h4,h⟩:=IO h;rw[ZA h1,CX h2,CX h3];exact wH T ih.ok hs hr ht h4 h
 rcases DR h with⟨t,h1,h⟩|⟨_,h⟩
 .rw[ML h1];exact Lc ih.ok hs hr ht h
 rcases DR h with⟨t,h1,h⟩|⟨_,h⟩
 .rw[tV h1];exact Re ih.ok hs hr ht h
 rcases DR h with⟨t,h1,h⟩|⟨_,h⟩
 .rw[Ju h1];exact Ks ih.ok hs hr ht h
 rcases DR h with⟨t,h1,h⟩|⟨_,h⟩
 .obtain⟨op,x,p⟩:=t;rw[tS h1];cases op with
  |USub=>exact Ra ih.ok hs hr ht h
  |_=>exact h.elim
 rcases DR h with⟨t,h1,h⟩|⟨_,h⟩
 .rw[tT h1];exact Rf ih.ok hs hr ht h
 .obtain⟨t,h1,h⟩:=AG h;obtain⟨g,h2,h⟩:=AG h;rw[tU h1,GG h2];exact XD T ih.ok ih.I ih.K hs hr ht h
theorem Ep(T:BH AA)(ih:All AA n)(ih':∀m,m+1=n->All AA m)(hs:St AA c e as s.heap)(hr:AL A e (n+1))(ht:1<=s.toks){v:Expr}(h:WO (AX n) t v c Q):wpAny (model pw AA.w) A (exec (.Assign [t] v p) e) (CP AA e c as s Q) no s:=by
 rcases DR h with⟨u,h1,h⟩|⟨_,h⟩
 .obtain⟨h2,h⟩:=DT h;rw[FA h1];rcases bY h2 with h2|h2
  .obtain⟨z,hz⟩:=Option.isSome_iff_exists.mp h2;obtain rfl:=tU hz;cases n with
   |zero=>exact h.elim
   |succ m=>have ih2:=ih' m rfl;obtain⟨g,h2,h3⟩:=AG (show lS (AX m) z.1 z.2.1 z.2.2.1 c _ from h);rw[GG h2];exact eB T ih2.ok ih2.I ih2.K hs (hr.le (Nat.le_succ _)) ht h3
  .exact cU ih.ok hs hr ht (CY ((Bool.not_eq_true' _).mp h2) _ _) h
 rcases DR h with⟨u,h1,h⟩|⟨_,h⟩
 .rw[lH h1];exact hM ih.ok hs hr ht h
 rcases DR h with⟨u,h1,h⟩|⟨_,h⟩
 .rw[JS h1];exact dR T ih.ok hs hr ht h
 .obtain⟨u,h1,h⟩:=AG h;obtain⟨u2,h2,h⟩:=AG h;obtain rfl:=ML h1;obtain rfl:=ML h2;exact ZQ ih.ok hs hr ht h
theorem Rt(T:BH AA)(ih:All AA n)(ih':∀m,m+1=n->All AA m):B7 AA (n+1):=by
 intro x c Q h A e as s hs hr ht;rcases DR (show mE (AX n) x c Q from h)with⟨t,h1,h⟩|⟨_,h⟩
 .obtain⟨u,h2,h⟩:=AG h;rw[Ca h1,CX h2];exact Ep T ih ih' hs hr ht h
 rcases DR h with⟨t,h1,h⟩|⟨_,h⟩
 .rw[Cb h1];rcases DR h with⟨u,h2,h⟩|⟨_,h⟩
  .rw[FA h2];exact wZ ih.ok hs hr ht h
  .obtain⟨u,h2,h⟩:=AG h;rw[JS h2];exact xC T ih.ok hs hr ht h
 rcases DR h with⟨t,h1,h⟩|⟨_,h⟩
 .obtain⟨h2,h⟩:=IO h;rw[tZ h1];exact Lm ih.ok hs hr ht h2 h
 rcases DR h with⟨t,h1,h⟩|⟨_,h⟩
 .obtain⟨v,h2,h⟩:=AG h;rw[Bz h1,h2];exact Cw ih.ok hs hr ht h
 rcases DR h with⟨t,h1,h⟩|⟨_,h⟩
 .rw[Cf h1];exact E7 ih.ok hs hr ht h
 rcases DR h with⟨t,h1,h⟩|⟨_,h⟩
 .obtain⟨h2,h⟩:=IO h;rw[Cd h1];refine Ww T ih.ok hs hr ht h2 (λl s0 g c1 as1 s1 v q1 q2 q3 q4 q5 q6=>?_) h;obtain⟨I,hI,rfl⟩:=q6;have hg:∃fd,DD g=some fd:=pQ.rec (λInv m0 i0 i1=>Vf.rec (λfd e _=>⟨fd,e⟩) (AG (i1 m0 _ i0).2.2)) q2;obtain⟨fd,hg⟩:=hg;obtain⟨bb,x,tt,hit,_⟩:=iN T hg q5 hI q3;exact aE hit (iP T ih.ok hr (ZW q1 rfl) q2 q4 q5 hI λf s' z=>z)
 rcases DR h with⟨t,h1,h⟩|⟨_,h⟩
 .rw[pO h1];exact Ls ih.ok hs hr ht h
 .obtain⟨t,h1,h⟩:=AG h;rw[uA h1];exact Qr hs h
theorem Ly(ih:All AA n):Qo AA (n+1):=by
 intro x c Q h A e as s hs hr ht;cases x with
 |nil=>exact wpAny_execs_nil ⟨c,as,.next,Go.refl hs hs.low,rfl,h⟩
 |cons=>exact Kr ih.ok hs hr ht h
theorem Ru(T:BH AA)(W:NH AA):∀n,All AA n:=by
 have key:∀n,All AA n/\∀m,m+1=n->All AA m:=by
  intro n;induction n with
  |zero=>exact⟨⟨⟨λ_ _ _ h=>h.elim,λ_ _ _ h=>h.elim,λ_ _ _ h=>h.elim,λ_ _ _ h=>h.elim,λ_ _ _ h=>h.elim,λ_ _ _ _ h=>h.elim⟩,λ_ _ _ h=>h.elim,λ_ _ _ _ _ h=>h.elim,λ_ _ _ h=>h.elim,λ_ _ _ _ h=>h.elim⟩,λm h=>nomatch h⟩
  |succ n ih=>obtain⟨ih,ih'⟩:=ih;refine⟨⟨⟨Rs T W ih,Qy T ih.ok,F0 ih.ok,Rt T ih ih',Ly ih,Ri T W ih.ok (xO T ih.ok)⟩,Wp ih.ok,Ll T ih.ok,Wx ih.ok ih.I,Rp T ih.ok ih.I ih.K⟩,λm h=>by cases h;exact ih⟩
 exactλn=>(key n).1
end Mine.Internal
end
section
open PySem PySem.Calls PySem.W PyProof.Rows
namespace Mine.Internal
noncomputable section
noncomputable def kS(s:String)(t:Nat):Value:= .str (Str.ofString s) t
noncomputable def kI(i:Int):Value:= .int i 0
noncomputable def kO(c:String)(d:Data):Obj:=⟨.type c,none,d,#[]⟩
noncomputable def kF(l:List Value):Data:= .fields ⟨l⟩
noncomputable def kT(l:List Value):Obj:=kO "tuple" (.seq ⟨l⟩ 0)
noncomputable def Vj:List Str->Nat->List Value
 |[],_=>[]
 |x::r,t=> .str x t::Vj r (t+1)
noncomputable def eF(nm qn:Str)(t line argc fl n:Nat)(b:Bool)(v1 v2 v3:Value)(u:Nat):Obj:=
 kO "code" (kF [.str nm t,.str qn (t+1),kS "/claim/cut.py" (t+2),kI line,kI argc,kI 0,kI 0,kI fl,.ref n,.bool b,kI 181,.ref (n+1),.none,v1,v2,v3,kI u,kI line,kS "/claim/cut.py" (u+1)])
noncomputable def Ph(d:FD)(qn:Str)(g:Nat)(m c:Value):Data:= .func {name:=d.name,qualname:=qn,params:=d.params,body:= .stmts d.body,scope:=d.scope,globals:=g,closure:=[],defaults:= .none,kwdefaults:= .none,pyModule:=m,code:=c}
noncomputable def aG(d:FD)(qn:Str)(n t line argc fl:Nat)(m:Value):Option (List Str×List Str)->List Obj
 |some (vs,fs)=>[kT [],⟨.none,none,kF [],#[]⟩,kT (Vj vs (t+3)),kT (Vj fs (t+3+vs.length)),⟨.none,none,Ph d qn 0 .none .none,#[]⟩,
   eF d.name qn t line argc fl n true (.ref (n+2)) (.ref (n+3)) (.ref (n+4)) (t+3+vs.length+fs.length),kO "function" (Ph d qn 3 m (.ref (n+5)))]
 |none=>[kT [],⟨.none,none,kF [],#[]⟩,⟨.none,none,Ph d qn 0 .none .none,#[]⟩,
   eF d.name qn t line argc fl n true .none .none (.ref (n+2)) (t+3),kO "function" (Ph d qn 3 m (.ref (n+3)))]
noncomputable def kE(P:Params)(x:Str)(t:Nat)(v:Value):DictEntry:=⟨PyData.keyHash P x,.str x t,v⟩
noncomputable def xR(e:DictEntry)(o:Obj):Obj:=match o with
 |⟨c,d,.dict es n,s⟩=>⟨c,d,.dict (es.push e) (n+1),s⟩
 |o=>o
noncomputable def xS(P:Params)(m:Str)(t:Nat)(o:Obj):Obj:=match o with
 |⟨c,d,.dict es n,s⟩=>⟨c,d,.dict ⟨kE P "__name__" 165 (.str m t)::es.toList.tail⟩ n,s⟩
 |o=>o
noncomputable def Rv(line col cd:Nat)(o:Obj):Obj:=match o with
 |⟨c,d,.fields es,s⟩=>⟨c,d,.fields ⟨es.toList++[kI line,kI col,.ref cd]⟩,s⟩
 |o=>o
noncomputable def iQ:BT->Nat->List Obj->BT
 |T,_,[]=>T
 |T,n,o::r=>iQ (T.ins n o) (n+1) r
noncomputable def FS(P:Params)(T:BT)(d:FD)(n t line argc fl:Nat)(m:Value)(vs:Option (List Str×List Str)):BT:=
 let l:=aG d d.name n t line argc fl m vs
 let u:=t+5+(match vs with|some (a,b)=>a.length+b.length|none=>0)
 ((iQ T n l).set 3 (xR (kE P d.name u (.ref (n+l.length-1))))).set 12 (Rv line 0 (n+l.length-2))
noncomputable def RR:Value:=kS "cpy313.operator" 187
noncomputable def Rw:Value:=kS "cpy313.locale" 226
noncomputable def UJ:Value:=kS "cpy313.netrc" 239
noncomputable def XE:Value:=kS "cpy313.stringprep" 299
noncomputable def HC:Value:=kS "law_tp0043_01" 2334
noncomputable def Rx(P:Params):BT:=iQ .nil 0 [boot_o_0 P,boot_o_1 P,boot_o_2 P,boot_o_3 P,boot_o_4 P,boot_o_5 P,boot_o_6 P,boot_o_7 P,boot_o_8 P,boot_o_9 P,boot_o_10 P]
noncomputable def T0(P:Params):BT:=iQ (Rx P) 11 [kT [],⟨.none,none,kF [],#[]⟩,
 kO "code" (kF [kS "<module>" 182,kS "<module>" 183,kS "/claim/cut.py" 184,kI 1,kI 0,kI 0,kI 0,kI 0,.ref 11,.bool false,kI 181,.ref 12,.none,.none,.none,.none,kI 185,kI 1,kS "/claim/cut.py" 186]),
 ⟨.type "frame",none,.plain,#[some (.ref 13),some (.ref 3),some (.ref 3),none,some (kS "__main__" 164),none,some (.ref 0)]⟩]
noncomputable def T1(P:Params):BT:=(T0 P).set 3 (xS P "cpy313.operator" 187)
noncomputable def fd(i:Nat):FD:=KF (DA i)
noncomputable def fm(i:Nat):FD:=KF (KY i)
noncomputable def T2(P:Params):BT:=FS P (T1 P) (fd 1) 15 189 2 2 3 RR (some (["a","b","count","i"],[]))
noncomputable def T3(P:Params):BT:=FS P (T2 P) (fd 2) 22 199 8 2 3 RR (some (["a","b"],[]))
noncomputable def T4(P:Params):BT:=FS P (T3 P) (fd 3) 29 207 10 2 3 RR (some (["a","b","i","j"],[]))
noncomputable def T5(P:Params):BT:=FS P (T4 P) (fd 4) 36 217 16 3 3 RR (some (["a","b","c"],[]))
noncomputable def T6(P:Params):BT:=(T5 P).set 3 (xS P "cpy313.locale" 226)
noncomputable def T7(P:Params):BT:=(T6 P).set 3 (xR (kE P "CHAR_MAX" 229 (.int 127 228)))
noncomputable def T8(P:Params):BT:=FS P (T7 P) (fd 7) 43 230 20 1 35 Rw (some (["grouping","last_interval","interval"],[]))
noncomputable def T9(P:Params):BT:=(T8 P).set 3 (xS P "cpy313.netrc" 239)
noncomputable def nC(P:Params):List DictEntry:=[kE P "__firstlineno__" 252 (.int 33 251),kE P "__init__" 260 (.ref 63),kE P "_read_char" 268 (.ref 70),kE P "get_token" 278 (.ref 77),kE P "push_token" 286 (.ref 84),kE P "__static_attributes__" 291 (.ref 85)]
noncomputable def Wz(P:Params):BT:=((iQ (T9 P) 50 ([kT [],kO "builtin_function_or_method" (kF [.builtin "type.__prepare__",.type "type"]),
  kO "dict" (.dict ⟨kE P "__module__" 248 UJ::kE P "__qualname__" 250 (kS "_netrclex" 249)::nC P⟩ 8),kT [],⟨.none,none,kF [kI 35,kI 4,.ref 62,kI 41,kI 4,.ref 69,kI 47,kI 4,.ref 76,kI 74,kI 4,.ref 83],#[]⟩,
  kO "code" (kF [kS "_netrclex" 243,kS "_netrclex" 244,kS "/claim/cut.py" 245,kI 33,kI 0,kI 0,kI 0,kI 0,.ref 53,.bool false,kI 181,.ref 54,.none,.none,.none,.none,kI 246,kI 33,kS "/claim/cut.py" 247]),
  ⟨.type "frame",none,.plain,#[some (.ref 55),some (.ref 3),some (.ref 52),none,some UJ,none,some (.ref 0)]⟩]++
  aG (fm 0) "_netrclex.__init__" 57 253 35 2 3 UJ (some (["self","fp"],[]))++aG (fm 1) "_netrclex._read_char" 64 261 41 1 3 UJ (some (["self","ch"],[]))++
  aG (fm 2) "_netrclex.get_token" 71 269 47 1 3 UJ (some (["self","token","fiter","ch"],[]))++aG (fm 3) "_netrclex.push_token" 78 279 74 2 3 UJ (some (["self","token"],[]))++
  [kT (Vj ["instream","lineno","pushback","whitespace"] 287),kO "dict" (.dict ⟨kE P "__module__" 248 UJ::(nC P++[kE P "__dict__" 293 (.ref 88),kE P "__weakref__" 295 (.ref 89),kE P "__doc__" 296 .none])⟩ 4),
   ⟨.type "type",none,.cls {name:="_netrclex",bases:=[.type "object"],mro:=[.ref 87,.type "object"],ns:=86,qualname:="_netrclex"},#[none,none,some (kS "_netrclex" 241),some (kS "_netrclex" 249),some (.builtin "object.__new__"),some (.bool true)]⟩,
   kO "getset_descriptor" (kF [kS "__dict__" 292,.ref 87,.builtin "function.__dict__",.builtin "function.__dict__#set"]),kO "getset_descriptor" (kF [kS "__weakref__" 294,.ref 87,.builtin "ExceptionGroup.__weakref__",.none]),
   kO "super" (kF [.ref 87,.ref 87,.ref 87]),kO "builtin_function_or_method" (kF [.builtin "object.__init_subclass__",.ref 87])])).set 3 (xR (kE P "_netrclex" 298 (.ref 87)))).set 12 (Rv 33 0 55)
noncomputable def Xa(P:Params):BT:=(Wz P).set 3 (xS P "cpy313.stringprep" 299)
noncomputable def xT:List Nat->Nat->List Value
 |[],_=>[]
 |i::r,t=> .int i t::xT r (t+1)
noncomputable def C6:List Value:=xT [173,847,6150,6155,6156,6157,8203,8204,8205,8288,65279] 301
noncomputable def C7:List Value:=xT [65024,65025,65026,65027,65028,65029,65030,65031,65032,65033,65034,65035,65036,65037,65038,65039] 317
noncomputable def Iq(n:Nat):List Obj:=[kT [],kO "StopIteration" (kF [.ref n,.none,.none,.none,.bool false,.none])]
noncomputable def nE:List (Nat×Nat):=[(65024,317),(65025,318),(65026,319),(65027,320),(65028,321),(65029,322),(6150,303),(65030,323),(65031,324),(65032,325),(65033,326),(6155,304),(6156,305),(6157,306),(8203,307),(8204,308),(8205,309),
 (65034,327),(65035,328),(65036,329),(65037,330),(65038,331),(65039,332),(173,301),(847,302),(8288,310),(65279,311)]
noncomputable def C8(P:Params):Obj:=kO "set" (.set ⟨nE.map λx=>((x.1:Int),.int x.1 x.2)⟩ 29 ⟨127,#[0,1,2,3,4,5,6,7,8,9,10,11,12,13,14,15,16,17,18,19,20,21,22,45,79,96,127],#[],0,!P.followText "set-order",2,true⟩)
noncomputable def Xb(P:Params):BT:=(iQ (Xa P) 92 ([kO "list" (.seq ⟨C6⟩ 0),kO "range" (kF [.int 65024 312,.int 65040 313,.int 1 314]),kO "list" (.seq ⟨C7⟩ 18),kO "range_iterator" (kF [kI 65040,kI 0,kI 1])]++Iq 96++
 [kO "list" (.seq ⟨C6++C7⟩ 0),C8 P,kO "list_iterator" (kF [.none,kI 27])]++Iq 101)).set 3 (xR (kE P "b1_set" 360 (.ref 99)))
noncomputable def Ry(P:Params):BT:=FS P (Xb P) (fd 12) 103 361 78 1 3 XE (some (["code"],[]))
noncomputable def nF(s:Stmt):List (Option Expr)×List Expr:=((tX s).bind λt=>(cD t.2.1).map λd=>(d.1,d.2.1)).getD ([],[])
noncomputable def Rz(k:Option Expr)(v:Expr):Int×Str:=((k.bind cE).bind λa=>(cE v).bind λb=>(Pw a.1).bind λi=>(Cg b.1).map λs=>(i,s)).getD default
noncomputable def F1:List (Int×Str):=List.zipWith Rz (nF (DA 13)).1 (nF (DA 13)).2
noncomputable def QZ(i:Nat):List (Int×Str):=(F1.drop (17*i)).take 17
noncomputable def SJ:List (List (Int×Str)):=(List.range 37).map λi=>QZ (i+1)
noncomputable def dO(es:List DictEntry)(ep:Nat):Obj:=kO "dict" (.dict ⟨es⟩ ep)
noncomputable def aH(t:Nat)(r:Int×Str):DictEntry:=⟨hashInt r.1,.int r.1 t,.str r.2 (t+1)⟩
noncomputable def BA(st:Nat):Nat->List (Int×Str)->List DictEntry
 |_,[]=>[]
 |t,r::l=>aH t r::BA st (t+st) l
noncomputable def aJ(k:Nat):List (List (Int×Str))->List Obj
 |[]=>[]
 |l::c=>dO (BA 3 k l) l.length::aJ (k+51) c
noncomputable def qV:List DictEntry:=BA 3 368 (QZ 0)++BA 3 419 SJ.flatten++BA 2 2306 (QZ 38)
noncomputable def xU:List Obj:=dO qV qV.length::(aJ 419 SJ++[dO (BA 2 2306 (QZ 38)) (QZ 38).length])
noncomputable def TB(P:Params):BT:=iQ (Ry P) 110 xU
noncomputable def Vk(P:Params):BT:=(TB P).set 3 (xR (kE P "b3_exceptions" 2318 (.ref 110)))
noncomputable def Xc(P:Params):BT:=FS P (Vk P) (fd 14) 149 2319 81 1 3 XE (some (["code","r"],[]))
noncomputable def Xd(P:Params):BT:=FS P (Xc P) (fd 15) 156 2327 86 1 3 XE (some (["code"],[]))
noncomputable def Xe(P:Params):BT:=(Xd P).set 3 (xS P "law_tp0043_01" 2334)
noncomputable def Xf(P:Params):BT:=FS P (Xe P) (fd 17) 163 2336 89 1 3 HC (some (["text","stream","_law_piece"],["text","gone"]))
noncomputable def Xg(P:Params):BT:=FS P (Xf P) (fd 18) 170 2347 99 2 3 HC (some (["sign","turn","place","unseen","kinds"],[]))
noncomputable def Xh(P:Params):BT:=FS P (Xg P) (fd 19) 177 2358 110 3 3 HC none
noncomputable def Xi(P:Params):BT:=FS P (Xh P) (fd 20) 182 2364 115 1 3 HC none
noncomputable def Xj(P:Params):BT:=FS P (Xi P) (fd 21) 187 2370 117 1 3 HC (some (["row","told","size"],[]))
noncomputable def Xk(P:Params):BT:=FS P (Xj P) (fd 22) 194 2379 124 1 3 HC (some (["sizes","streets","place","size","after"],[]))
noncomputable def Xl(P:Params):BT:=FS P (Xk P) (fd 23) 201 2390 132 3 3 HC none
noncomputable def Xm(P:Params):BT:=FS P (Xl P) (fd 24) 206 2396 150 2 3 HC (some (["row","sign"],[]))
noncomputable def Xn(P:Params):BT:=FS P (Xm P) (fd 25) 213 2404 156 2 3 HC (some (["streets","gone","marks","spare","one","other","low"],[]))
noncomputable def Xo(P:Params):BT:=FS P (Xn P) (fd 26) 220 2417 165 1 3 HC none
noncomputable def Xp(P:Params):BT:=FS P (Xo P) (fd 27) 225 2423 176 1 3 HC none
noncomputable def Xq(P:Params):BT:=FS P (Xp P) (fd 28) 230 2429 189 2 3 HC none
noncomputable def Lz(P:Params):BT:=FS P (Xq P) (fd 29) 235 2435 196 1 3 HC none
end
end Mine.Internal
end
section
open PySem PySem.Calls PySem.W PyProof.Rows
set_option maxHeartbeats 4000000
namespace Mine.Internal
variable{vs:List Value}{q:Addr}{p:Option Value}{o:Obj}
noncomputable section
noncomputable def LP:List Stmt:=behindTheImports pw
noncomputable def NW:Env:={scope:=pw.main.scope,locals:=mainNs,globals:=mainNs,cells:=[],code:= .ref 13,frame:=some 14}
noncomputable def hC:Code:= .body LP NW
noncomputable def hB:List Frame:=[topFrame ⟨0,0,0,0⟩]
noncomputable def hS(T:Params->BT)(n k:Nat)(w:World)(os:OsState):SharedT:=⟨T w.params,n,{},⟨[]⟩,{},k,os⟩
noncomputable abbrev hP(n:Nat)(S:SharedT)(w:World)(i:Nat)(q:Pos):Option (Flow×SharedT×Code×Pos):=segRunT treeTable pw w 11 (some (.ref 6)) 1 n S (pieceOf (DA i) NW hC q hB)
theorem hR: @segRunT= @Fast.tw10110043849684766642:=Fast.te10110043849684766642
theorem hQ:treeTable=Fast.tw14364793385576792824:=Fast.te14364793385576792824
noncomputable abbrev C9(n:Nat)(S:SharedT)(w:World)(i:Nat)(q:Pos):Option (Flow×SharedT×Code×Pos):=Fast.tw10110043849684766642 Fast.tw14364793385576792824 pw w 11 (some (.ref 6)) 1 n S (pieceOf (DA i) NW hC q hB)
theorem xV(n:Nat)(S:SharedT)(w:World)(i:Nat)(q:Pos):hP n S w i q=C9 n S w i q:=by unfold hP C9;rw[hR,hQ]
theorem p0(w:World)(os:OsState):hP 10 (hS T0 15 187 w os) w 0 ⟨0,0,0,0⟩=some (.next,hS T1 15 189 w os,hC,⟨1,0,1,8⟩):=by kernel_rfl
theorem p1(w:World)(os:OsState):hP 33 (hS T1 15 189 w os) w 1 ⟨1,0,1,8⟩=some (.next,hS T2 22 199 w os,hC,⟨2,0,7,16⟩):=by kernel_rfl
theorem p2(w:World)(os:OsState):hP 31 (hS T2 22 199 w os) w 2 ⟨2,0,7,16⟩=some (.next,hS T3 29 207 w os,hC,⟨8,0,9,15⟩):=by kernel_rfl
theorem p3(w:World)(os:OsState):hP 33 (hS T3 29 207 w os) w 3 ⟨8,0,9,15⟩=some (.next,hS T4 36 217 w os,hC,⟨10,0,15,64⟩):=by kernel_rfl
theorem p4(w:World)(os:OsState):hP 32 (hS T4 36 217 w os) w 4 ⟨10,0,15,64⟩=some (.next,hS T5 43 226 w os,hC,⟨16,0,17,12⟩):=by kernel_rfl
theorem p5(w:World)(os:OsState):hP 10 (hS T5 43 226 w os) w 5 ⟨16,0,17,12⟩=some (.next,hS T6 43 228 w os,hC,⟨18,0,18,8⟩):=by kernel_rfl
theorem p6(w:World)(os:OsState):hP 10 (hS T6 43 228 w os) w 6 ⟨18,0,18,8⟩=some (.next,hS T7 43 230 w os,hC,⟨19,0,19,8⟩):=by kernel_rfl
theorem p7(w:World)(os:OsState):hP 32 (hS T7 43 230 w os) w 7 ⟨19,0,19,8⟩=some (.next,hS T8 50 239 w os,hC,⟨20,0,31,32⟩):=by kernel_rfl
theorem p8(w:World)(os:OsState):hP 10 (hS T8 50 239 w os) w 8 ⟨20,0,31,32⟩=some (.next,hS T9 50 241 w os,hC,⟨32,0,32,8⟩):=by kernel_rfl
theorem p9(w:World)(os:OsState):hP 324 (hS T9 50 241 w os) w 9 ⟨32,0,32,8⟩=some (.next,hS Wz 92 299 w os,hC,⟨33,0,75,35⟩):=by rw[xV];kernel_rfl
theorem F2(w:World)(os:OsState):hP 10 (hS Wz 92 299 w os) w 10 ⟨33,0,75,35⟩=some (.next,hS Xa 92 301 w os,hC,⟨76,0,76,8⟩):=by kernel_rfl
theorem F3(w:World)(os:OsState):hP 30 (hS Xb 103 361 w os) w 12 ⟨77,0,77,6⟩=some (.next,hS Ry 110 368 w os,hC,⟨78,0,79,30⟩):=by kernel_rfl
theorem F4(w:World)(os:OsState):hP 31 (hS Vk 149 2319 w os) w 14 ⟨80,0,80,13⟩=some (.next,hS Xc 156 2327 w os,hC,⟨81,0,85,23⟩):=by kernel_rfl
theorem F5(w:World)(os:OsState):hP 30 (hS Xc 156 2327 w os) w 15 ⟨81,0,85,23⟩=some (.next,hS Xd 163 2334 w os,hC,⟨86,0,87,22⟩):=by kernel_rfl
theorem F8(w:World)(os:OsState):hP 10 (hS Xd 163 2334 w os) w 16 ⟨86,0,87,22⟩=some (.next,hS Xe 163 2336 w os,hC,⟨88,0,88,8⟩):=by kernel_rfl
theorem F9(w:World)(os:OsState):hP 34 (hS Xe 163 2336 w os) w 17 ⟨88,0,88,8⟩=some (.next,hS Xf 170 2347 w os,hC,⟨89,0,98,28⟩):=by kernel_rfl
theorem G0(w:World)(os:OsState):hP 34 (hS Xf 170 2347 w os) w 18 ⟨89,0,98,28⟩=some (.next,hS Xg 177 2358 w os,hC,⟨99,0,109,24⟩):=by kernel_rfl
theorem G3(w:World)(os:OsState):hP 27 (hS Xg 177 2358 w os) w 19 ⟨99,0,109,24⟩=some (.next,hS Xh 182 2364 w os,hC,⟨110,0,114,51⟩):=by kernel_rfl
theorem G4(w:World)(os:OsState):hP 27 (hS Xh 182 2364 w os) w 20 ⟨110,0,114,51⟩=some (.next,hS Xi 187 2370 w os,hC,⟨115,0,116,82⟩):=by kernel_rfl
theorem G6(w:World)(os:OsState):hP 32 (hS Xi 187 2370 w os) w 21 ⟨115,0,116,82⟩=some (.next,hS Xj 194 2379 w os,hC,⟨117,0,123,15⟩):=by kernel_rfl
theorem G7(w:World)(os:OsState):hP 34 (hS Xj 194 2379 w os) w 22 ⟨117,0,123,15⟩=some (.next,hS Xk 201 2390 w os,hC,⟨124,0,131,18⟩):=by kernel_rfl
theorem G8(w:World)(os:OsState):hP 27 (hS Xk 201 2390 w os) w 23 ⟨124,0,131,18⟩=some (.next,hS Xl 206 2396 w os,hC,⟨132,0,149,16⟩):=by kernel_rfl
theorem G9(w:World)(os:OsState):hP 31 (hS Xl 206 2396 w os) w 24 ⟨132,0,149,16⟩=some (.next,hS Xm 213 2404 w os,hC,⟨150,0,155,16⟩):=by kernel_rfl
theorem H0(w:World)(os:OsState):hP 36 (hS Xm 213 2404 w os) w 25 ⟨150,0,155,16⟩=some (.next,hS Xn 220 2417 w os,hC,⟨156,0,164,16⟩):=by kernel_rfl
theorem I0(w:World)(os:OsState):hP 27 (hS Xn 220 2417 w os) w 26 ⟨156,0,164,16⟩=some (.next,hS Xo 225 2423 w os,hC,⟨165,0,175,110⟩):=by kernel_rfl
theorem I1(w:World)(os:OsState):hP 27 (hS Xo 225 2423 w os) w 27 ⟨165,0,175,110⟩=some (.next,hS Xp 230 2429 w os,hC,⟨176,0,188,94⟩):=by kernel_rfl
theorem I2(w:World)(os:OsState):hP 27 (hS Xp 230 2429 w os) w 28 ⟨176,0,188,94⟩=some (.next,hS Xq 235 2435 w os,hC,⟨189,0,195,65⟩):=by kernel_rfl
theorem I3(w:World)(os:OsState):hP 27 (hS Xq 235 2435 w os) w 29 ⟨189,0,195,65⟩=some (.next,hS Lz 240 2441 w os,hC,⟨196,0,225,15⟩):=by kernel_rfl
end
noncomputable section
noncomputable def Er:Pos:=⟨80,16,80,8704⟩
noncomputable abbrev Ma(w:World)(n:Nat)(s:Shared)(t:Thread):Option (Shared×Thread):=segGo treeTable pw w 11 (some (.ref 6)) 1 n s t
noncomputable abbrev hT(c:Sem Fin):Thread:=⟨c,hC,Er,hB⟩
noncomputable def CM{α:Type}(w:World)(n:Nat)(s:Shared)(x:Sem α)(s':Shared)(a:α):Prop:=
 ∀(K:α->Sem Fin) (H:Value->Sem Fin) (gd:Bool->Bool) (lv:List Value->List Value),Ma w n s (hT (x.wrap K H gd lv))=some (s',hT (K a))
theorem xW{w:World}{m:Nat}{s':Shared}{t':Thread}{r:Option (Shared×Thread)}:∀{n:Nat} {s:Shared} {t:Thread},Ma w n s t=some (s',t')->Ma w m s' t'=r->Ma w (n+m) s t=r
 |0,s,t,h,k=>by cases h;rw[Nat.zero_add];exact k
 |n+1,s,t,h,k=>by
  rw[Nat.succ_add];unfold Ma segGo at h⊢;cases he:endAt 1 t with
  |some x=>rw[he]at h;exact BJ h
  |none=>
   rw[he]at h;cases hk:stepOk 11 (some (.ref 6)) t with
   |false=>rw[hk]at h;exact BJ h
   |true=>
    rw[hk]at h;cases hs:step (denote treeTable) pw w s t with
    |halt o z=>rw[hs]at h;exact BJ h
    |go z u=>rw[hs]at h;exact xW h k
section
variable{α β:Type}{w:World}{n m:Nat}{s s' s'':Shared}{x:Sem α}{a:α}{b:β}
theorem CM.pure:CM w 0 s (.pure a) s a:=λ_ _ _ _=>rfl
theorem CM.bind{f:α->Sem β}(h:CM w n s x s' a)(k:CM w m s' (f a) s'' b):CM w (n+m) s (x.bind f) s'' b:=λK H gd lv=>by rw[Sem.bind_eq_wrap,Sem.wrap_wrap];exact xW (h _ _ _ _) (k K H gd lv)
theorem CM.wrap{H':Value->Sem α}{gd' lv'}(h:CM w n s x s' a):CM w n s (x.wrap .pure H' gd' lv') s' a:=λK H gd lv=>by rw[Sem.wrap_wrap];exact h _ _ _ _
theorem CM.onRaise{h':Value->Sem Unit}(h:CM w n s x s' a):CM w n s (x.onRaise h') s' a:=by rw[Sem.onRaise_eq_wrap];exact h.wrap
theorem CM.tryCatch{h':Value->Sem α}(h:CM w n s x s' a):CM w n s (x.tryCatch h') s' a:=by rw[Sem.tryCatch_eq_wrap];exact h.wrap
theorem CM.keep(h:CM w n s x s' a):CM w n s (x.keep vs) s' a:=by rw[Sem.keep_eq_wrap];exact h.wrap
theorem CM.holding(h:CM w n s x s' a):CM w n s (PySem.holding vs x) s' a:=by
 unfold PySem.holding;split
 .exact h
 .exact h.keep
theorem CM.load(h:s.heap.get? q=some o):CM w 1 s (loadPart q p) s o:=λK H gd lv=>by show segGo treeTable pw w 11 (some (.ref 6)) 1 1 s (hT (.load q p λx=>K x))=_;unfold segGo;show(match step (denote treeTable) pw w s (hT (.load q p λx=>K x))with| .go s' t'=>segGo treeTable pw w 11 (some (.ref 6)) 1 0 s' t'| .halt _ _=>none)=_;obtain⟨heap,gens,drawn,toks,os⟩:=s;simp only[step,hT];rw[show heap.get? q=some o from h];rfl
theorem CM.update{f:Obj->Obj}(h:s.heap.get? q=some o)(hq:Nat.ble 11 q=true):CM w 1 s (updatePart q p f) {s with heap:=s.heap.update q f} ():=λK H gd lv=>by
 show segGo treeTable pw w 11 (some (.ref 6)) 1 1 s (hT (.update q p f λx=>K x))=_;unfold segGo;have ok:stepOk 11 (some (.ref 6)) (hT (.update q p f λx=>K x))=true:=by show(_&&(Nat.ble 11 q||q==mainNs||q==cStatics||_))=true;rw[hq];rfl
 rw[ok];show(match step (denote treeTable) pw w s (hT (.update q p f λx=>K x))with| .go s' t'=>segGo treeTable pw w 11 (some (.ref 6)) 1 0 s' t'| .halt _ _=>none)=_;obtain⟨heap,gens,drawn,toks,os⟩:=s;simp only[step,hT];refine(Eq.symm (show heap.get? q=some o from h))▸?_;rfl
theorem CM.alloc:CM w 1 s (PySem.alloc o) {s with heap:=s.heap.push o} s.heap.objs.size:=λ_ _ _ _=>rfl
theorem CM.fresh:CM w 1 s PySem.fresh {s with toks:=s.toks+1} s.toks:=λ_ _ _ _=>rfl
theorem CM.rule{t:String}:CM w 1 s (PySem.rule t) s ():=λ_ _ _ _=>rfl
theorem CM.stand:CM w 1 s (standAt Er) s ():=λ_ _ _ _=>rfl
theorem CM.ask:CM w 1 s PySem.ask s ⟨pw,w.params⟩:=λ_ _ _ _=>rfl
theorem CM.of{n':Nat}(h:CM w n s x s' a)(e:n=n'):CM w n' s x s' a:=e▸h
theorem CM.loop{γ:Type}(I:Nat->Shared)(S:Nat->γ){m:Nat}{f:β->γ->Sem (ForInStep γ)}:∀(l:List β) (j:Nat),(∀i b,l[i]? =some b->CM w m (I (j+i)) (f b (S (j+i))) (I (j+i+1)) (.yield (S (j+i+1))))->
  CM w (l.length*m) (I j) (forIn l (S j) f) (I (j+l.length)) (S (j+l.length))
 |[],j,_=>by rw[List.length_nil,Nat.zero_mul];exact CM.pure
 |b::l,j,h=>by
  rw[List.forIn_cons];have h0:=h 0 b rfl;have:=CM.loop I S l (j+1) λi c hi=>by have:=h (i+1) c hi;rwa[show j+(i+1)=j+1+i by exact(Nat.succ_add _ _).symm]at this
  rw[show j+1+l.length=j+(b::l).length by simp only[List.length_cons];exact Nat.succ_add _ _]at this;exact(CM.bind h0 this).of (by simp only[List.length_cons,Nat.succ_mul,Nat.add_comm])
end
end
end Mine.Internal
end
section
open PySem PySem.Calls PySem.W PyProof.Rows PyProof
set_option maxHeartbeats 4000000
namespace Mine.Internal
variable{t:Tok}{e:DictEntry}{h i:Int}{o:Obj}{v:Value}{st q:Nat}{r:Int×Str}{kk:Sem Value}{P:Params}{T:Params->BT}
noncomputable section
section
variable{α β:Type}{w:World}{n m:Nat}{s s' s'':Shared}{x:Sem α}{a:α}{b:β}
theorem CM.seq{f:α->Sem β}(h:CM w n s x s' a)(k:CM w m s' (f a) s'' b):CM w (n+m) s (x>>=f) s'' b:=CM.bind h k
theorem CM.seq0{f:α->Sem β}(h:CM w 0 s x s a)(k:CM w m s (f a) s'' b):CM w m s (x>>=f) s'' b:=by have:=CM.bind h k;rwa[Nat.zero_add]at this
theorem XF{k:Int}:CM w 0 s (specialOf (.int k t) "__hash__") s (some (.builtin "int.__hash__")):=λK H gd lv=>by kernel_rfl
theorem qW{k:Int}{e:Sem Value}{b:Bool}:CM (w.withFollow "special-get-raises" b) 5 s (callSpecialIfBoundUnlessNone? (.int k t) "__hash__" e) {s with toks:=s.toks+1} (some (.int (rawHash k) s.toks)):=λK H gd lv=>by cases b<;>kernel_rfl
theorem xX{k:Int}:CM w 5 s (pyHash (.int k t)) {s with toks:=s.toks+1} (hashInt k):=by
 unfold pyHash pyHashByItsType;refine .seq0 (a:=()) (λK H gd lv=>rfl) ?_;refine .seq0 XF ?_;show CM w 5 s (if(some (Value.builtin "int.__hash__")==some Value.none)=true then _ else _) _ _;rw[if_neg (by rw[beq_builtin_none];exact Bool.false_ne_true)];refine .seq0 XF ?_;show CM w (5+0) s (callSpecialIfBoundUnlessNone? (.int k t) "__hash__" _>>=_) _ _;refine .seq (s':={s with toks:=s.toks+1}) (a:=some (.int (rawHash k) s.toks)) ?_ ?_
 .rw[<-World.withFollow_self w "special-get-raises"];exact qW
 .have hr:=rawHash_range k;show CM _ 0 _ (if(decide (-(2:Int)^63<=rawHash k)&&decide (rawHash k<2^63))=true then _ else _) _ _;rw[if_pos (by rw[decide_eq_true hr.1,decide_eq_true hr.2];rfl)];exact .pure
noncomputable def PC(es:List DictEntry)(h:Int):Prop:=∀e∈es,e.hash≠h
theorem xY{es:List DictEntry}(f:PC es h):placesWithHash (Array.mk es).size (λi=>(Array.mk es)[i]?.map (·.hash)) h=[]:=by unfold placesWithHash;rw[List.filter_eq_nil_iff];intro i hi q;have q:=eq_of_beq q;obtain⟨e,h1,h2⟩:=AZ q;exact f e (by rw[List.getElem?_toArray]at h1;exact List.mem_of_getElem? h1) h2
theorem xZ{d:Nat}{es:List DictEntry}{ep:Nat}{k:Int}(g:s.heap.get? d=some (dO es ep))(f:PC es h):CM w 1 s (dictFind d (.int k t) h) s none:=by unfold dictFind;refine .holding (.seq (n:=1) (m:=0) (s':=s) (a:=⟨es⟩) (.seq (n:=1) (m:=0) (.load g) .pure) ?_);dsimp only;refine(Eq.symm (xY f))▸?_;exact .pure
noncomputable def hp(l:List Obj):Heap:=⟨⟨l⟩,{}⟩
noncomputable def hs(l:List Obj)(k:Nat)(os:OsState):Shared:=⟨hp l,⟨[]⟩,{},k,os⟩
theorem RA{A B:List Obj}{es:List DictEntry}{ep:Nat}:(hp (A++dO es ep::B)).get? A.length=some (dO es ep):=by unfold Heap.get? hp;simp[dO,kO]
theorem Mb{A B:List Obj}{f:Obj->Obj}:(hp (A++o::B)).update A.length f=hp (A++f o::B):=by
 unfold hp Heap.update;have:(A++o::B).modify A.length f=A++f o::B:=by
  induction A with
  |nil=>rfl
  |cons a A ih=>exact congrArg (a:: ·) ih
 simp[this]
theorem nH{l:List Obj}:(hp l).push o=hp (l++[o]):=by unfold hp Heap.push;simp
variable{A B:List Obj}{es:List DictEntry}{ep k:Nat}{os:OsState}{d:Nat}
theorem eG{p:Option Value}(hd:d=A.length)(h11:11<=d)(hz:es.length<1000):
  CM w 3 (hs (A++dO es ep::B) k os) (updateDictKeys d (·.push e) p) (hs (A++dO (es++[e]) (ep+1)::B) k os) ():=by
 subst hd;unfold updateDictKeys;refine .seq (n:=1) (m:=2) (.load RA) ?_;have eu:(hp (A++dO es ep::B)).update A.length (Obj.mapDictKeys (·.push e))=hp (A++dO (es++[e]) (ep+1)::B):=by rw[Mb];simp[dO,kO,Obj.mapDictKeys]
 have hu:CM w 1 (hs (A++dO es ep::B) k os) (updatePart A.length p (Obj.mapDictKeys (·.push e))) (hs (A++dO (es++[e]) (ep+1)::B) k os) ():=by have:=CM.update (w:=w) (s:=hs (A++dO es ep::B) k os) (p:=p) (f:=Obj.mapDictKeys (·.push e)) RA (Nat.ble_eq_true_of_le h11);rw[show(hs (A++dO es ep::B) k os).heap=hp (A++dO es ep::B)from rfl,eu]at this;exact this
 refine .seq (n:=1) (m:=1) hu ?_;unfold lookBehind;refine .seq (n:=1) (m:=0) (.load RA) ?_;have hq:(dO (es++[e]) (ep+1)).data.pastItsLine=none:=by
  have hl:1000<=sizeLine:=by decide
  show(if(es++[e]).length>sizeLine+1 then _ else _)=_;rw[if_neg (by simp only[List.length_append,List.length_singleton];lia)]
 rw[hq];exact .pure
theorem XG(hd:d=A.length)(f:PC es h):CM w 1 (hs (A++dO es ep::B) k os) (dictFind d (.int i t) h) (hs (A++dO es ep::B) k os) none:=by subst hd;exact xZ RA f
theorem aK(hd:d=A.length)(h11:11<=d)(hz:es.length<1000)(f:PC es (hashInt i)):
  CM w 10 (hs (A++dO es ep::B) k os) (dictSet d (.int i t) v) (hs (A++dO (es++[⟨hashInt i,.int i t,v⟩]) (ep+1)::B) (k+1) os) ():=by
 unfold dictSet;refine .holding (.seq (n:=5) (m:=5) xX ?_);unfold dictSetHashed;refine .holding (.seq (n:=1) (m:=4) (XG hd f) ?_);exact .seq (n:=1) (m:=3) .rule (eG hd h11 hz)
theorem Es(hd:d=A.length)(h11:11<=d)(hz:es.length<1000)(f:PC es h):
  CM w 4 (hs (A++dO es ep::B) k os) (dictPut d h (.int i t) v) (hs (A++dO (es++[⟨h,.int i t,v⟩]) (ep+1)::B) k os) ():=by
 unfold dictPut;exact .seq (n:=1) (m:=3) (XG hd f) (eG hd h11 hz)
noncomputable def Et(r:Int×Str):Sem Value:=mkInt r.1
noncomputable def Eu(r:Int×Str):Sem Value:=do let x<-mkText r.2;standAt Er;pure x
theorem CZ{st:Nat}:∀{t:Nat} {l:List (Int×Str)},(BA st t l).length=l.length
 |_,[]=>rfl
 |_,_::l=>congrArg (· +1) CZ
theorem yA:CM w 1 s (Et r) {s with toks:=s.toks+1} (.int r.1 s.toks):=λ_ _ _ _=>rfl
theorem yB:CM w 2 s (Eu r) {s with toks:=s.toks+1} (.str r.2 s.toks):=λ_ _ _ _=>rfl
end
end
noncomputable section
section
variable{α β:Type}{w:World}{n m:Nat}{s s' s'':Shared}{A B:List Obj}{es:List DictEntry}{ep k:Nat}{os:OsState}{d:Nat}
theorem GQ{st:Nat}:∀{l l':List (Int×Str)} {t:Nat},BA st t (l++l')=BA st t l++BA st (t+st*l.length) l'
 |[],_,_=>rfl
 |r::l,l',t=>by show aH t r::BA st (t+st) (l++l')=aH t r::(BA st (t+st) l++_);simp only[GQ,List.length_cons,Nat.mul_succ,Nat.add_assoc,Nat.add_comm st]
theorem XH{st:Nat}{e:DictEntry}:∀{l:List (Int×Str)} {t:Nat},e∈BA st t l->∃r∈l,e.hash=hashInt r.1
 |r::l,t,h=>by
  rcases AN h with rfl|h
  .exact⟨r,.head _,rfl⟩
  .obtain⟨r',h1,h2⟩:=XH h;exact⟨r',.tail _ h1,h2⟩
noncomputable def LQ(l:List (Int×Str)):Prop:=l.Pairwise λa b=>hashInt a.1≠hashInt b.1
theorem LQ.fresh{t:Nat}{l1:List (Int×Str)}{l2:List (Int×Str)}(h:LQ (l1++r::l2)):PC (BA st t l1) (hashInt r.1):=λe he=>by obtain⟨r',h1,h2⟩:=XH he;rw[h2];exact(List.pairwise_append.mp h).2.2 r' h1 r (.head _)
noncomputable abbrev NC(r:Int×Str):Sem Value×Sem Value:=(Et r,Eu r)
theorem Ev(hd:d=A.length)(h11:11<=d)(hz:es.length<1000)(f:PC es (hashInt r.1)):
  CM w 13 (hs (A++dO es ep::B) k os) (do let kv<-Et r;let vv<-holding [kv] (Eu r);holding [kv,vv] (dictSet d kv vv)) (hs (A++dO (es++[aH k r]) (ep+1)::B) (k+3) os) ():=
 .seq (n:=1) (m:=12) yA (.seq (n:=2) (m:=10) (.holding yB) (.holding (aK hd h11 hz f)))
theorem nJ{l:List (Int×Str)}(hA:11<=A.length)(hl:15<l.length)(hl':l.length<1000)(ap:LQ l):
  CM w (2+l.length*13) (hs A k os) (subDict (l.map NC)) (hs (A++[dO (BA 3 k l) l.length]) (k+3*l.length) os) A.length:=by
 unfold subDict;have ha:CM w 1 (hs A k os) (PySem.alloc {cls:= .type "dict",data:= .dict #[]}) (hs (A++[dO [] 0]) k os) A.length:=by have:=CM.alloc (w:=w) (s:=hs A k os) (o:={cls:= .type "dict",data:= .dict #[]});rw[show(hs A k os).heap=hp A from rfl,nH]at this;exact this
 refine(CM.seq (n:=1) (m:=1+l.length*13) ha ?_).of (by exact(Nat.add_assoc _ _ _).symm);refine .seq (n:=1+l.length*13) (m:=0) (a:=()) (.holding ?_) .pure;rw[List.length_map,if_neg (by exact Nat.not_le_of_lt hl)];refine .seq (n:=1) .rule ?_;refine(CM.seq (n:=l.length*13) (m:=0) (a:=()) (s':=hs (A++[dO (BA 3 k l) l.length]) (k+3*l.length) os) ?_ .pure);have:=CM.loop (w:=w) (m:=13) (λj=>hs (A++[dO (BA 3 k (l.take j)) j]) (k+3*j) os) (λ_=>PUnit.unit) (f:=λx r=>do
   let kv<-x.1;let vv<-holding [kv] x.2;holding [kv,vv] (dictSet A.length kv vv);pure (ForInStep.yield PUnit.unit)) (l.map NC) 0 (λi b hb=>?_)
 .simp only[Nat.zero_add,List.length_map,List.take_length,List.take_zero,Nat.mul_zero,Nat.add_zero]at this;exact this
 .rw[List.getElem?_map]at hb;obtain⟨r,hr,rfl⟩:=AZ hb;obtain⟨hi,rfl⟩:=List.getElem?_eq_some_iff.mp hr;rw[Nat.zero_add,List.take_succ,hr,Option.toList_some,GQ,List.length_take,Nat.min_eq_left (Nat.le_of_lt hi)];have key:=Ev (w:=w) (A:=A) (B:=[]) (es:=BA 3 k (l.take i)) (ep:=i) (k:=k+3*i) (os:=os) (d:=A.length) (r:=l[i]) rfl hA (by rw[CZ,List.length_take];exact Nat.lt_of_le_of_lt (Nat.min_le_right ..) hl') (LQ.fresh (l2:=l.drop (i+1)) (by rw[List.getElem_cons_drop,List.take_append_drop];exact ap));exact .seq (n:=1) (m:=12) yA (.seq (n:=2) (m:=10) (.holding yB) (.seq (n:=10) (m:=0) (.holding (aK rfl hA (by rw[CZ,List.length_take];exact Nat.lt_of_le_of_lt (Nat.min_le_right ..) hl') (LQ.fresh (l2:=l.drop (i+1)) (by rw[List.getElem_cons_drop,List.take_append_drop];exact ap)))) .pure))
end
end
noncomputable section
section
variable{w:World}{n m:Nat}{s s' s'':Shared}{A B:List Obj}{es xs:List DictEntry}{ep xn k:Nat}{os:OsState}{d a:Nat}
theorem LR(g:s.heap.get? q=some (dO es ep)):CM w 1 s (dictEntries q) s ⟨es⟩:= .seq (n:=1) (m:=0) (.load g) .pure
theorem XI(g:s.heap.get? q=some (dO es ep)):CM w 1 s (dictEpoch q) s ep:= .seq (n:=1) (m:=0) (.load g) .pure
theorem iR(g:s.heap.get? q=some (dO es ep)):CM w 1 s (isInstance (.ref q) (.type "dict")) s true:=
 .seq (n:=1) (m:=0) (a:= .type "dict") (.seq (n:=1) (m:=0) (.load g) .pure) λK H gd lv=>by kernel_rfl
theorem aL(g:s.heap.get? q=some (dO es ep)):CM w 1 s (specialOf (.ref q) "__iter__") s (some (.builtin "dict.__iter__")):=
 .seq (n:=1) (m:=0) (a:= .type "dict") (.seq (n:=1) (m:=0) (.load g) .pure) λK H gd lv=>by kernel_rfl
noncomputable def Mc(A B:List Obj)(es xs:List DictEntry)(ep xn k:Nat)(os:OsState):Shared:=hs (A++dO es ep::(B++[dO xs xn])) k os
theorem Sa(hd:d=A.length):(Mc A B es xs ep xn k os).heap.get? d=some (dO es ep):=by subst hd;exact RA
theorem XJ(ha:a=A.length+B.length+1):(Mc A B es xs ep xn k os).heap.get? a=some (dO xs xn):=by have:(hp ((A++dO es ep::B)++dO xs xn::[])).get? (A++dO es ep::B).length=some (dO xs xn):=RA;rw[show(A++dO es ep::B).length=a by simp only[List.length_append,List.length_cons];exact ha.symm]at this;refine this▸?_;show(hp _).get? a=_;simp
theorem qX(hd:d=A.length)(ha:a=A.length+B.length+1)(h11:11<=d)(he:es≠[])(hz:es.length+xs.length<1000)(hk:∀e∈xs,∃i t,e.key= .int i t)(hf:∀i e,xs[i]? =some e->PC (es++xs.take i) e.hash):
  CM w (5+xs.length*6) (Mc A B es xs ep xn k os) (mergeMapping d (.ref a) false) (Mc A B (es++xs) xs (ep+xs.length) xn k os) ():=by
 unfold mergeMapping;rw[show 5+xs.length*6=1+(1+(1+(1+(1+(xs.length*6+0)))))by simp+arith];refine CM.seq (iR (XJ ha)) ?_;dsimp only;rw[if_pos rfl];refine CM.seq (aL (XJ ha)) ?_;rw[show(some (Value.builtin "dict.__iter__")==some (Value.builtin "dict.__iter__"))=true from beq_self_eq_true _];refine CM.seq0 .pure ?_;dsimp only;have hs1:(a==sysModules)=false:=beq_eq_false_iff_ne.mpr (by show a≠1;lia);rw[hs1,if_neg Bool.false_ne_true];refine CM.seq (LR (Sa hd)) ?_;have he1:(Array.mk es).isEmpty=false:=by cases es with
  |nil=>exact absurd rfl he
  |cons _ _=>rfl
 rw[he1,if_neg Bool.false_ne_true];refine CM.seq (LR (XJ ha)) ?_;refine CM.seq (XI (XJ ha)) ?_;refine CM.seq (a:=PUnit.unit) (s':=Mc A B (es++xs) xs (ep+xs.length) xn k os) ?_ .pure;have:=CM.loop (w:=w) (m:=6) (λj=>Mc A B (es++xs.take j) xs (ep+j) xn k os) (λ_=>PUnit.unit) (f:=λi _=>do
   let some e:=(<-dictEntries a)[i]? |unsupported "dict.changed-during-merge"
   holding [e.key,e.val] do
    if false then
     if(<-dictFind d e.key e.hash).isSome then PySem.rule "dict.merge.duplicate-key";raiseNew (<-newExc (.type "KeyError") [e.key])
    dictPut d e.hash e.key e.val
   if(<-dictEpoch a)!=xn then unsupported "dict.changed-during-merge"
   pure (ForInStep.yield PUnit.unit)) (List.range xs.length) 0 (λi b hb=>?_)
 .simp only[Nat.zero_add,List.length_range,List.take_length,List.take_zero,Nat.add_zero,List.append_nil]at this;exact this
 .obtain⟨hi,rfl⟩:=List.getElem?_eq_some_iff.mp hb;simp only[List.length_range]at hi;rw[List.getElem_range,Nat.zero_add];have hx:xs[i]? =some xs[i]:=List.getElem?_eq_getElem hi;obtain⟨z,t,hz1⟩:=hk xs[i] (List.getElem_mem hi);refine .seq (n:=1) (m:=5) (LR (XJ ha)) ?_;rw[List.getElem?_toArray,hx];refine .seq (n:=4) (m:=1) (a:=()) (s':=Mc A B (es++xs.take (i+1)) xs (ep+(i+1)) xn k os) (.holding ?_) ?_
  .rw[List.take_add_one,hx,Option.toList_some,<-List.append_assoc,hz1];have:=Es (w:=w) (A:=A) (B:=B++[dO xs xn]) (es:=es++xs.take i) (ep:=ep+i) (k:=k) (os:=os) (d:=d) (i:=z) (t:=t) (v:=xs[i].val) hd h11 (by rw[List.length_append,List.length_take];exact Nat.lt_of_le_of_lt (Nat.add_le_add_left (Nat.min_le_right ..) _) hz) (hf i _ hx);rw[show(⟨xs[i].hash,.int z t,xs[i].val⟩:DictEntry)=xs[i]by exact hz1▸rfl]at this;exact this
  .refine .seq (n:=1) (m:=0) (XI (XJ ha)) ?_;rw[show(xn !=xn)=false by simp];exact .pure
end
end
noncomputable section
noncomputable abbrev tF:=Option Addr×List (Sem Value×Sem Value)
noncomputable abbrev Sb:=Option (Sem Value)×Sem Value
noncomputable def Xr:{p:(Sb->tF->Sem (ForInStep tF))×(tF->Sem Value)// ∀items,dictDisplay items=(forIn items ((none,[]):tF) p.1)>>=p.2}:=⟨(_,_),λ_=>rfl⟩
noncomputable def dF:=Xr.1.1
noncomputable def dG:=Xr.1.2
theorem Sc(items:List Sb):dictDisplay items=(forIn items ((none,[]):tF) dF)>>=dG:=Xr.2 items
noncomputable def Vl:{fl:List (Sem Value×Sem Value)->Option Addr->Sem (Option Addr)//(∀k v m run,dF (some k,v) (m,run)=if((run++[(k,v)]).length==17)=true then fl (run++[(k,v)]) m>>= λx=>pure (.yield (x,[]))else pure (.yield (m,run++[(k,v)])))/\
  ∀m run,dG (m,run)=fl run m>>= λr=>match r with|some d=>pure (.ref d)|none=>newDict}:=⟨_,λ_ _ _ _=>rfl,λ_ _=>rfl⟩
noncomputable def fl:=Vl.1
theorem Ew{l:List (Sem Value×Sem Value)}(h:l.isEmpty=false):fl l none=(subDict l>>= λa=>pure (some a)):=by show(if l.isEmpty=true then _ else _)=_;rw[if_neg (by rw[h];exact Bool.false_ne_true)]
theorem Ex{l:List (Sem Value×Sem Value)}{d:Addr}(h:l.isEmpty=false):∃g:Addr->Value->Sem Unit,fl l (some d)=(holding [.ref d] (subDict l)>>= λsub=>((holding [.ref d,.ref sub] (mergeMapping d (.ref sub) false)).onRaise (g sub))>>= λ_=>pure (some d)):=by refine⟨λ_ x=>holding [.ref d,x] (runValue (.builtin "proto.let_go" {}))>>= λ_=>pure (),?_⟩;show(if l.isEmpty=true then _ else _)=_;rw[if_neg (by rw[h];exact Bool.false_ne_true)]
noncomputable abbrev aM(r:Int×Str):Sb:=(some (Et r),Eu r)
section
variable{w:World}{n m:Nat}{s s' s'':Shared}{A B:List Obj}{es xs:List DictEntry}{ep xn k:Nat}{os:OsState}{d a:Nat}{l:List (Int×Str)}
noncomputable def HP(xs:List DictEntry):Prop:=xs.Pairwise λa b=>a.hash≠b.hash
theorem HP.fresh{i:Nat}(h:HP (es++xs))(hi:xs[i]? =some e):PC (es++xs.take i) e.hash:=λx hx=>by
 obtain⟨hl,rfl⟩:=List.getElem?_eq_some_iff.mp hi;have e1:es++xs=(es++xs.take i)++xs[i]::xs.drop (i+1):=by simp only[List.append_assoc,List.getElem_cons_drop,List.take_append_drop]
 unfold HP at h;simp only[e1]at h;exact(List.pairwise_append.mp h).2.2 x hx _ (.head _)
theorem HP.apart{st:Nat}:∀{l:List (Int×Str)} {t:Nat},HP (BA st t l)->LQ l
 |[],_,_=> .nil
 |r::l,t,h=>by
  obtain⟨h1,h2⟩:=List.pairwise_cons.mp h;refine .cons (λb hb=>?_) (HP.apart h2);have:∀{l:List (Int×Str)} {t:Nat},b∈l->∃e∈BA st t l,e.hash=hashInt b.1:=by
   intro l;induction l with
   |nil=>intro t h;exact absurd h (List.not_mem_nil)
   |cons c l ih=>
    intro t h;rcases AN h with rfl|h
    .exact⟨_,.head _,rfl⟩
    .obtain⟨e,h1,h2⟩:=ih (t:=t+st) h;exact⟨e,.tail _ h1,h2⟩
  obtain⟨e,he,hh⟩:=this (t:=t+st) hb;exact hh▸h1 e he
theorem HP.right(h:HP (es++xs)):HP xs:=(List.pairwise_append.mp h).2.1
theorem XK{st:Nat}{e:DictEntry}:∀{l:List (Int×Str)} {t:Nat},e∈BA st t l->∃i t,e.key= .int i t
 |r::l,t,h=>by
  rcases AN h with rfl|h
  .exact⟨_,_,rfl⟩
  .exact XK h
theorem nK(h:l≠[]):(l.map NC).isEmpty=false:=by cases l with
 |nil=>exact absurd rfl h
 |cons _ _=>rfl
theorem Ey(hA:11<=A.length)(hl:15<l.length)(hl':l.length<1000)(h:HP (BA 3 k l)):
  CM w (2+l.length*13+0) (hs A k os) (fl (l.map NC) none) (hs (A++[dO (BA 3 k l) l.length]) (k+3*l.length) os) (some A.length):=by
 rw[Ew (nK (by rintro rfl;simp at hl))];exact .seq (nJ hA hl hl' h.apart) .pure
noncomputable def Z(A:List Obj)(es:List DictEntry)(B:List Obj)(k:Nat)(os:OsState):Shared:=hs (A++dO es es.length::B) k os
theorem nL{u v:Nat}(hA:11<=A.length)(he:es≠[])(hx:es.length+l.length<1000)(h:HP (es++BA st k l))(hl:l≠[])
  (hsub:CM w u (Z A es B k os) (subDict (l.map NC)) (hs (A++dO es es.length::(B++[dO (BA st k l) l.length])) v os) (A.length+B.length+1)):
  CM w (u+((5+l.length*6)+0)) (Z A es B k os) (fl (l.map NC) (some A.length)) (Z A (es++BA st k l) (B++[dO (BA st k l) l.length]) v os) (some A.length):=by
 obtain⟨g,hg⟩:=Ex (d:=A.length) (nK hl);rw[hg];refine .seq (.holding hsub) (.seq (a:=()) (.onRaise (.holding ?_)) .pure);have:=qX (w:=w) (A:=A) (B:=B) (es:=es) (xs:=BA st k l) (ep:=es.length) (xn:=l.length) (k:=v) (os:=os) (d:=A.length) (a:=A.length+B.length+1) rfl rfl hA he (by rw[CZ];exact hx)
  (λe q=>XK q) (λi e q=>h.fresh q)
 rw[CZ]at this;unfold Z;rw[List.length_append,CZ];exact this
theorem Ez(hA:11<=A.length)(he:es≠[])(hl:15<l.length)(hx:es.length+l.length<1000)(h:HP (es++BA 3 k l)):
  CM w (2+l.length*13+((5+l.length*6)+0)) (Z A es B k os) (fl (l.map NC) (some A.length)) (Z A (es++BA 3 k l) (B++[dO (BA 3 k l) l.length]) (k+3*l.length) os) (some A.length):=by
 refine nL hA he hx h (by rintro rfl;simp at hl) ?_;have:=nJ (w:=w) (A:=A++dO es es.length::B) (k:=k) (os:=os) (l:=l) (by rw[List.length_append];exact Nat.le_add_right_of_le hA) hl (by exact Nat.le_trans (Nat.le_add_left _ _) hx) h.right.apart;rw[List.append_assoc,List.cons_append]at this;rw[show A.length+B.length+1=(A++dO es es.length::B).length by simp only[List.length_append,List.length_cons];rfl];exact this
end
end
noncomputable section
section
variable{w:World}{n n2:Nat}{s s' s'':Shared}{A B:List Obj}{es xs:List DictEntry}{k:Nat}{os:OsState}{d a:Nat}{l last:List (Int×Str)}{m m':Option Addr}{rest:List Sb}{z:tF}
theorem Md{v:Sem Value}{run:List (Sem Value×Sem Value)}(h:run.length≠16):dF (some kk,v) (m,run)=pure (.yield (m,run++[(kk,v)])):=by rw[Vl.2.1,if_neg (by rw[List.length_append,List.length_singleton];simp[h])]
theorem Fa{v:Sem Value}{run:List (Sem Value×Sem Value)}(h:run.length=16):dF (some kk,v) (m,run)=fl (run++[(kk,v)]) m>>= λx=>pure (.yield (x,[])):=by rw[Vl.2.1,if_pos (by simp only[List.length_append,List.length_singleton,h];rfl)];rfl
theorem acc:∀(l:List (Int×Str)) (run:List (Sem Value×Sem Value)),run.length+l.length<17->forIn (l.map aM++rest) ((m,run):tF) dF=forIn rest ((m,run++l.map NC):tF) dF
 |[],run,_=>by rw[List.map_nil,List.map_nil,List.append_nil];rfl
 |r::l,run,h=>by simp only[List.length_cons]at h;rw[List.map_cons,List.cons_append,List.forIn_cons,Md (by lia)];show forIn (l.map aM++rest) ((m,run++[NC r]):tF) dF=_;rw[acc l _ (by rw[List.length_append,List.length_singleton];exact oD h),List.append_assoc];rfl
theorem eH(hl:l.length=17)(h:CM w n s (fl (l.map NC) m) s' m')(q:CM w n2 s' (forIn rest ((m',[]):tF) dF) s'' z):CM w (n+0+n2) s (forIn (l.map aM++rest) ((m,[]):tF) dF) s'' z:=by
 obtain⟨l',r,rfl⟩:∃l' r,l=l'++[r]:=by
  have hne:l≠[]:=by rintro rfl;exact nI Nat.ctorIdx hl
  exact⟨l.dropLast,l.getLast hne,(List.dropLast_concat_getLast hne).symm⟩
 simp only[List.length_append,List.length_singleton]at hl;rw[List.map_append,List.append_assoc,acc l' [] (by simp only[List.length_nil];exact Nat.add_le_add_left (Nat.le_of_eq hl) _),List.map_singleton,List.cons_append,List.nil_append,List.nil_append,List.forIn_cons,Fa (by rw[List.length_map];exact Nat.succ.inj hl)];rw[List.map_append,List.map_singleton]at h;exact .bind (.bind h .pure) q
theorem XL(hA:11<=A.length)(hlast:last.length<17):∀(c:List (List (Int×Str))) (es:List DictEntry) (B:List Obj) (k:Nat),(∀l∈c,l.length=17)->es≠[]->es.length+c.flatten.length<1000->HP (es++BA 3 k c.flatten)->
  CM w (c.length*330) (Z A es B k os) (forIn (c.flatten.map aM++last.map aM) ((some A.length,[]):tF) dF) (Z A (es++BA 3 k c.flatten) (B++aJ k c) (k+51*c.length) os) (some A.length,last.map NC)
 |[],es,B,k,_,_,_,_=>by have:=acc (m:=some A.length) (rest:=[]) last [] (by simpa using hlast);rw[List.append_nil]at this;rw[List.flatten_nil,List.map_nil,List.nil_append,this];simp only[BA,aJ,List.append_nil,List.length_nil,Nat.mul_zero,Nat.add_zero,Nat.zero_mul,List.nil_append];exact .pure
 |l::c,es,B,k,hc,he,hx,h=>by have hl:=hc l (.head _);simp only[List.flatten_cons,List.length_append]at hx;simp only[List.flatten_cons,GQ,<-List.append_assoc]at h;have h1:HP (es++BA 3 k l):=(List.pairwise_append.mp h).1;have r1:=Ez (w:=w) (A:=A) (es:=es) (B:=B) (k:=k) (os:=os) hA he (by exact Nat.le_trans (Nat.le_add_left _ _) (Nat.le_of_eq hl.symm)) (by exact oD hx) h1;have r2:=XL hA hlast c (es++BA 3 k l) (B++[dO (BA 3 k l) l.length]) (k+3*l.length) (λx hx=>hc x (.tail _ hx)) (by simp[he]) (by rw[List.length_append,CZ];exact oD hx) h;have r3:=eH hl r1 r2;simp only[List.flatten_cons,List.map_append,List.append_assoc (l.map aM),GQ,<-List.append_assoc es,List.length_cons];rw[hl]at r3⊢;rw[show B++aJ k (l::c)=B++[dO (BA 3 k l) 17]++aJ (k+3*17) c by simp only[aJ,hl,List.append_assoc];rfl,show k+51*(c.length+1)=k+3*17+51*c.length by simp+arith];rw[show(c.length+1)*330=2+17*13+(5+17*6+0)+0+c.length*330 by simp+arith];exact r3
noncomputable def vals:Nat->List (Int×Str)->List (Value×Value)
 |_,[]=>[]
 |t,r::l=>(.int r.1 t,.str r.2 (t+1))::vals (t+2) l
theorem XM:∀(l:List (Int×Str)) (k:Nat),CM w (l.length*3) (hs A k os) (evalPairs (l.map NC)) (hs A (k+2*l.length) os) (vals k l)
 |[],k=> .pure
 |r::l,k=>by have:=XM l (k+2);simp only[List.length_cons,show k+2*(l.length+1)=k+2+2*l.length by simp+arith,show(l.length+1)*3=1+(2+(l.length*3+0))by simp+arith];unfold evalPairs List.map;exact .seq (s':=hs A (k+1) os) yA (.seq (s':=hs A (k+2) os) (.holding yB) (.seq (.holding this) .pure))
theorem yC{l:List (Int×Str)}:∀{k i:Nat} {b:Value×Value},(vals k l)[i]? =some b->∃r,l[i]? =some r/\b=(.int r.1 (k+2*i),.str r.2 (k+2*i+1)):=by
 induction l with
 |nil=>intro k i b h;exact nomatch (show none=some b from h)
 |cons r l ih=>
  intro k i b h;cases i with
  |zero=>exact⟨r,rfl,(Option.some.inj h).symm⟩
  |succ i=>obtain⟨r',h1,h2⟩:=ih (k:=k+2) (i:=i) (b:=b) h;exact⟨r',h1,by rw[h2,show k+2+2*i=k+2*(i+1)by exact Nat.add_right_comm _ _ _]⟩
theorem RS:∀{l:List (Int×Str)} {k:Nat},(vals k l).length=l.length
 |[],_=>rfl
 |_::_,_=>congrArg (· +1) RS
theorem yD(hA:11<=A.length)(hl:l.length<=15)(ap:LQ l):
  CM w (1+(l.length*3+l.length*10)) (hs A k os) (subDict (l.map NC)) (hs (A++[dO (BA 2 k l) l.length]) (k+2*l.length+l.length) os) A.length:=by
 unfold subDict;have ha:CM w 1 (hs A k os) (PySem.alloc {cls:= .type "dict",data:= .dict #[]}) (hs (A++[dO [] 0]) k os) A.length:=by have:=CM.alloc (w:=w) (s:=hs A k os) (o:={cls:= .type "dict",data:= .dict #[]});rw[show(hs A k os).heap=hp A from rfl,nH]at this;exact this
 refine(CM.seq (n:=1) (m:=l.length*3+l.length*10) ha ?_);refine(CM.seq (n:=l.length*3+l.length*10) (m:=0) (a:=()) (.holding ?_) .pure);rw[List.length_map,if_pos hl];refine .seq (XM l k) (.holding ?_);refine(CM.seq (n:=l.length*10) (m:=0) (a:=PUnit.unit) (s':=hs (A++[dO (BA 2 k l) l.length]) (k+2*l.length+l.length) os) ?_ .pure);have:=CM.loop (w:=w) (m:=10) (λj=>hs (A++[dO (BA 2 k (l.take j)) j]) (k+2*l.length+j) os) (λ_=>PUnit.unit) (f:=λx r=>do
   dictSet A.length x.1 x.2;pure (ForInStep.yield PUnit.unit)) (vals k l) 0 (λi b hb=>?_)
 .simp only[Nat.zero_add,RS,List.take_length,List.take_zero,Nat.add_zero]at this;exact this
 .obtain⟨r,hr,rfl⟩:=yC hb;obtain⟨hi,rfl⟩:=List.getElem?_eq_some_iff.mp hr;rw[Nat.zero_add,List.take_add_one,hr,Option.toList_some,GQ,List.length_take,Nat.min_eq_left (Nat.le_of_lt hi)];exact .seq (n:=10) (m:=0) (aK rfl hA (by rw[CZ,List.length_take];lia) (LQ.fresh (l2:=l.drop (i+1)) (by rw[List.getElem_cons_drop,List.take_append_drop];exact ap))) .pure
end
end
noncomputable section
noncomputable def Fb:List Sb:=(evalEachOpt (nF (DA 13)).1 NW).zip ((evalEach (nF (DA 13)).2 NW).map λv=>do let x<-v;standAt Er;pure x)
theorem Fc:Fb=((QZ 0).map aM++(SJ.flatten.map aM++(QZ 38).map aM)):=by kernel_rfl
noncomputable def Se:List Int->Bool
 |[]=>true
 |[_]=>true
 |a::b::l=>decide (a<b)&&Se (b::l)
theorem iS:∀{l:List Int} {a:Int},Se (a::l)=true->∀b∈l,a<b
 |c::l,a,h,b,hb=>by
  obtain⟨h1,h2⟩:=BG h;have h1:=of_decide_eq_true h1;rcases AN hb with rfl|hb
  .exact h1
  .exact Int.lt_trans h1 (iS h2 b hb)
theorem yE:∀{l:List DictEntry},Se (l.map (·.hash))=true->HP l
 |[],_=> .nil
 |[a],_=>List.pairwise_singleton _ a
 |a::b::l,h=> .cons (λx hx=>Int.ne_of_lt (iS h x.hash (List.mem_map_of_mem hx))) (yE (BG h).2)
theorem Xs:HP qV:=yE (by kernel_rfl)
theorem Xu:∀l∈SJ,l.length=17:=λl hl=>by
 have:SJ.all (λl=>l.length==17)=true:=by kernel_rfl
 exact eq_of_beq (CW this l hl)
theorem Fd:(QZ 0).length=17:=by kernel_rfl
theorem Ir:(QZ 38).length=4:=by kernel_rfl
theorem Sf:SJ.flatten.length=629:=by kernel_rfl
theorem Xv:SJ.length=37:=by kernel_rfl
variable{w:World}{A:List Obj}{os:OsState}
theorem Fe{B:List Obj}{es:List DictEntry}(hA:11<=A.length)(he:es≠[])(hx:es.length+4<1000)(h:HP (es++BA 2 2306 (QZ 38))):
  CM w 82 (Z A es B 2306 os) (fl ((QZ 38).map NC) (some A.length)) (Z A (es++BA 2 2306 (QZ 38)) (B++[dO (BA 2 2306 (QZ 38)) (QZ 38).length]) 2318 os) (some A.length):=by
 have h4:=Ir;have:=yD (w:=w) (A:=A++dO es es.length::B) (k:=2306) (os:=os) (l:=QZ 38) (by rw[List.length_append];exact Nat.le_add_right_of_le hA) (by exact oB h4) h.right.apart;rw[List.append_assoc,List.cons_append,h4]at this;have q:=nL (w:=w) (u:=1+(4*3+4*10)) (v:=2318) (st:=2) (k:=2306) (os:=os) (B:=B) hA he (by exact hx) h (by intro q;replace h4:=q▸h4;exact nI Nat.ctorIdx h4) (by rw[h4,show A.length+B.length+1=(A++dO es es.length::B).length by simp only[List.length_append,List.length_cons];rfl];exact this)
 rw[h4]at q⊢;exact q
theorem eJ(hA:11<=A.length):CM w 12515 (hs A 368 os) (dictDisplay Fb) (Z A qV (aJ 419 SJ++[dO (BA 2 2306 (QZ 38)) (QZ 38).length]) 2318 os) (.ref A.length):=by
 have h:=Xs;unfold qV at h⊢;have h1:HP (BA 3 368 (QZ 0)++BA 3 419 SJ.flatten):=(List.pairwise_append.mp h).1;have h0:HP (BA 3 368 (QZ 0)):=(List.pairwise_append.mp h1).1;have l0:(BA 3 368 (QZ 0)).length=17:=by rfl
 have n0:BA 3 368 (QZ 0)≠[]:=by intro q;rw[q]at l0;exact nI Nat.ctorIdx l0
 rw[Sc,Fc];have r0:=Ey (w:=w) (A:=A) (k:=368) (os:=os) (l:=QZ 0) hA (by rw[Fd];decide) (by rw[Fd];decide) h0;have r1:=XL (w:=w) (A:=A) (os:=os) (last:=QZ 38) hA (by rw[Ir];decide) SJ (BA 3 368 (QZ 0)) [] 419 Xu n0 (by rw[l0,Sf];decide) h1;have r2:=Fe (w:=w) (A:=A) (os:=os) (B:=aJ 419 SJ) (es:=BA 3 368 (QZ 0)++BA 3 419 SJ.flatten) hA (by decide) (by simp only[List.length_append,l0,CZ,Sf];decide) h;unfold Z at r1;rw[l0,Xv,List.nil_append]at r1;replace r0:=Fd▸r0;have r3:=eH Fd r0 r1;refine CM.seq (n:=12433) (m:=82) r3 ?_;rw[show dG (some A.length,(QZ 38).map NC)=fl ((QZ 38).map NC) (some A.length)>>= λr=>match r with|some d=>pure (.ref d)|none=>newDict from Vl.2.2 _ _];exact CM.seq (n:=82) (m:=0) r2 .pure
noncomputable def Xw:List Expr×Expr×Pos:=(tX (DA 13)).getD default
noncomputable def UK(v:Value):Sem Flow:=swappedStores Xw.1 Xw.2.1 NW>>= λsw=>assignStores NW v sw ((assignEach Xw.1 NW).map (·.2))
theorem Sg(s:Shared):Ma w 2 s (pieceOf (DA 13) NW hC ⟨78,0,79,30⟩ hB)=some (s,hT ((dictDisplay Fb>>=UK).wrap doneF deadEnd id id)):=by kernel_rfl
noncomputable def Vm(P:Params):List Obj:=(Ry P).list 110
theorem UL:(Vm P).length=110:=by unfold Vm BT.list;rfl
theorem yF{n k:Nat}:(hS T n k w os).abs=hs ((T w.params).list n) k os:=rfl
theorem Xx:(TB P).list 149=Vm P++xU:=by kernel_rfl
theorem Si:Ma w 12515 (hS Ry 110 368 w os).abs (hT ((dictDisplay Fb>>=UK).wrap doneF deadEnd id id))=some ((hS TB 149 2318 w os).abs,hT ((UK (.ref 110)).wrap doneF deadEnd id id)):=by rw[Sem.bind_eq_wrap',Sem.wrap_wrap,yF,yF,Xx];have:=eJ (w:=w) (A:=Vm w.params) (os:=os) (by rw[UL];decide) (λv=>(UK v).wrap doneF deadEnd id id) deadEnd id id;rw[UL]at this;exact this
theorem Sj:segRunT treeTable pw w 11 (some (.ref 6)) 1 8 (hS TB 149 2318 w os) (hT ((UK (.ref 110)).wrap doneF deadEnd id id))=some (.next,hS Vk 149 2319 w os,hC,⟨80,0,80,13⟩):=by kernel_rfl
theorem I4(w:World)(os:OsState):segRun treeTable pw w 11 (some (.ref 6)) 1 12525 (hS Ry 110 368 w os).abs (pieceOf (DA 13) NW hC ⟨78,0,79,30⟩ hB)=some (.next,(hS Vk 149 2319 w os).abs,hC,⟨80,0,80,13⟩):=
 seg_go (n:=2) (N:=12523) (Sg _) (seg_go (n:=12515) (N:=8) Si (segRun_of Sj))
end
noncomputable section
noncomputable def Me(w:World):Prop:=∀os,hP 999 (hS Xa 92 301 w os) w 11 ⟨76,0,76,8⟩=some (.next,hS Xb 103 361 w os,hC,⟨77,0,77,6⟩)
theorem Xy(w:World):Me ((w.withFollow "set-order" false).withFollow "special-get-raises" false):=λos=>by rw[xV];kernel_rfl
theorem Xz(w:World):Me ((w.withFollow "set-order" true).withFollow "special-get-raises" false):=λos=>by rw[xV];kernel_rfl
theorem Yb(w:World):Me ((w.withFollow "set-order" false).withFollow "special-get-raises" true):=λos=>by rw[xV];kernel_rfl
theorem Yc(w:World):Me ((w.withFollow "set-order" true).withFollow "special-get-raises" true):=λos=>by rw[xV];kernel_rfl
theorem I5(w:World):Me w:=byRow2 "special-get-raises" (byRow2 "set-order" (P:=λw=>Me (w.withFollow "special-get-raises" false)) Xy Xz) (byRow2 "set-order" (P:=λw=>Me (w.withFollow "special-get-raises" true)) Yb Yc) w
noncomputable abbrev Ff(w:World)(n:Nat)(s:Shared)(t:Thread):Option Shared:=topRun treeTable pw w 11 (some (.ref 6)) n s t
theorem line{w:World}{i n N:Nat}{s s' r:Shared}{q q':Pos}(e:LP.drop i=DA i::LP.drop (i+1))
  (h:segRun treeTable pw w 11 (some (.ref 6)) 1 n s (pieceOf (DA i) NW hC q hB)=some (.next,s',hC,q'))(k:Ff w N s' (restOf (LP.drop (i+1)) NW hC q' hB)=some r):
  Ff w (n+N) s (restOf (LP.drop i) NW hC q hB)=some r:=by
 rw[e];exact piece_cons h k
theorem DU(i:Nat)(h:i<30):LP.drop i=DA i::LP.drop (i+1):=by
 have e:LP=pw.main.body:=by kernel_rfl
 have l:pw.main.body.length=30:=by kernel_rfl
 rw[e];have hl:i<pw.main.body.length:=by rw[l];exact h
 rw[List.drop_eq_getElem_cons hl];unfold DA;rw[List.getD_eq_getElem?_getD,List.getElem?_eq_getElem hl];rfl
noncomputable def hN:Nat:=12+(1+(10+(33+(31+(33+(32+(10+(10+(32+(10+(324+(10+(999+(30+(12525+(31+(30+(10+(34+(34+(27+(27+(32+(34+(27+(31+(36+(27+(27+(27+(27+2)))))))))))))))))))))))))))))))
theorem pre(w:World)(os:OsState):topGo treeTable pw w 11 (some (.ref 6)) 12 ⟨boot_heap w.params,⟨[]⟩,boot_drawn,boot_toks,os⟩ (topStub pw)=some ((hS T0 15 187 w os).abs,⟨denote treeTable hC,hC,⟨0,0,0,0⟩,hB⟩):=by kernel_rfl
theorem block(w:World)(os:OsState):segRun treeTable pw w 11 (some (.ref 6)) 1 1 (hS T0 15 187 w os).abs (blockOf LP NW hC ⟨0,0,0,0⟩ hB)=some (.next,(hS T0 15 187 w os).abs,hC,⟨0,0,0,0⟩):=by kernel_rfl
theorem Yd(w:World)(os:OsState):Ff w 2 (hS Lz 240 2441 w os).abs (restOf (LP.drop 30) NW hC ⟨196,0,225,15⟩ hB)=some (hS Lz 240 2441 w os).abs:=by
 have e:LP.drop 30=[]:=by kernel_rfl
 rw[e];exact piece_nil (by kernel_rfl)
theorem Fg(w:World)(os:OsState):Ff w hN ⟨boot_heap w.params,⟨[]⟩,boot_drawn,boot_toks,os⟩ (topStub pw)=some (hS Lz 240 2441 w os).abs:=
 go_top (pre w os)<|piece_block (block w os)<|
 line (DU 0 (by decide)) (segRun_of (p0 w os))<|line (DU 1 (by decide)) (segRun_of (p1 w os))<|line (DU 2 (by decide)) (segRun_of (p2 w os))<|line (DU 3 (by decide)) (segRun_of (p3 w os))<|
 line (DU 4 (by decide)) (segRun_of (p4 w os))<|line (DU 5 (by decide)) (segRun_of (p5 w os))<|line (DU 6 (by decide)) (segRun_of (p6 w os))<|line (DU 7 (by decide)) (segRun_of (p7 w os))<|
 line (DU 8 (by decide)) (segRun_of (p8 w os))<|line (DU 9 (by decide)) (segRun_of (p9 w os))<|line (DU 10 (by decide)) (segRun_of (F2 w os))<|line (DU 11 (by decide)) (segRun_of (I5 w os))<|
 line (DU 12 (by decide)) (segRun_of (F3 w os))<|line (DU 13 (by decide)) (I4 w os)<|line (DU 14 (by decide)) (segRun_of (F4 w os))<|line (DU 15 (by decide)) (segRun_of (F5 w os))<|
 line (DU 16 (by decide)) (segRun_of (F8 w os))<|line (DU 17 (by decide)) (segRun_of (F9 w os))<|line (DU 18 (by decide)) (segRun_of (G0 w os))<|line (DU 19 (by decide)) (segRun_of (G3 w os))<|
 line (DU 20 (by decide)) (segRun_of (G4 w os))<|line (DU 21 (by decide)) (segRun_of (G6 w os))<|line (DU 22 (by decide)) (segRun_of (G7 w os))<|line (DU 23 (by decide)) (segRun_of (G8 w os))<|
 line (DU 24 (by decide)) (segRun_of (G9 w os))<|line (DU 25 (by decide)) (segRun_of (H0 w os))<|line (DU 26 (by decide)) (segRun_of (I0 w os))<|line (DU 27 (by decide)) (segRun_of (I1 w os))<|
 line (DU 28 (by decide)) (segRun_of (I2 w os))<|line (DU 29 (by decide)) (segRun_of (I3 w os))<|Yd w os
end
noncomputable section
noncomputable def qv:Program:=view pw [29]
noncomputable def lz:List Str:=["countOf","getitem","indexOf","setitem","CHAR_MAX","_grouping_intervals","_netrclex","b1_set","in_table_b1","b3_exceptions","map_table_b3","in_table_c11","_law_lexer","_law_spelled","_law_written","_law_prepared","_law_told","_law_streets","_law_moved","_law_lacked","_law_marks","_law_parts","_law_orders","_law_ways"]
noncomputable def H1(P:Params):Heap:=absHeap (Lz P) 240 {}
theorem Iu:∀w:World,(fencedOpening treeTable pw w 40000).map (λs=>(s.heap,s.gens,s.drawn,s.toks))=some (boot_heap w.params,Array.mk [],boot_drawn,boot_toks):=
 boot_open (by kernel_rfl) (by decide+kernel) (λs=>by kernel_rfl)
theorem Mf{n k:Nat}{w:World}{os:OsState}:(hS T n k w os).abs=⟨absHeap (T w.params) n {},⟨[]⟩,{},k,os⟩:=rfl
noncomputable abbrev S1(w:World)(os:OsState):Shared:=⟨H1 w.params,⟨[]⟩,{},2441,os⟩
theorem Iv(w:World)(os:OsState):topRun treeTable pw w 11 (some (.ref 6)) hN ⟨boot_heap w.params,⟨[]⟩,boot_drawn,boot_toks,os⟩ (topStub pw)=some (S1 w os):=by have:=Fg w os;simp only[Mf]at this;exact this
theorem Iw(w:World):((boot_heap w.params).isNs mainGlobals&&(Array.mk ([]:List GenState)).size==0,(boot_heap w.params).objs.size,(boot_heap w.params).nsMap mainGlobals "__annotations__")=(true,11,some (.ref 6)):=by kernel_rfl
theorem Sk(w:World):(staticsOk (importedModules pw.main.body) (boot_heap w.params) (H1 w.params))=true:=by kernel_rfl
theorem Sl(w:World):namesBound pw (H1 w.params)=true:=by kernel_rfl
theorem Sm(w:World):laidKept (boot_heap w.params) (H1 w.params)=true:=by kernel_rfl
theorem Sn(w:World)(os:OsState):gensDone (S1 w os)=true:=by kernel_rfl
end
noncomputable section
variable(w:World)(os:OsState)
theorem Ye:seen ((recsOf qv).map (·.name)) (ownsOf qv) [] {S1 w os with gens:= #[]}=expectedOf qv:=by kernel_rfl
theorem Yg:(S1 w os).heap.bltView=bltViewBooted:=by kernel_rfl
theorem So:(S1 w os).heap.keysOk (looseW qv lz) ((recsOf qv).map (·.name)) ((litsOf qv).map (·.1)) ((clssOf qv (looseW qv lz)).map (·.name))=true:=by kernel_rfl
theorem Sp:(S1 w os).heap.accountedOkI (importedModules pw.main.body)=true:=by kernel_rfl
theorem Sq:(S1 w os).heap.isNs mainGlobals=true:=by kernel_rfl
theorem Sr:(S1 w os).heap.isNs builtinsNs=true:=by kernel_rfl
theorem Su:tablesOk qv (S1 w os).heap=true:=by kernel_rfl
theorem Yh:tabsOk qv (S1 w os)=true:=by kernel_rfl
theorem Yi:pinSeenD qv (drecsOf qv) (S1 w os)=pinGoodD (drecsOf qv):=by kernel_rfl
theorem Yj:plainSeenE qv (looseW qv lz) (S1 w os)=plainGoodE qv (looseW qv lz):=by kernel_rfl
theorem Yk:plainSeenD qv lz (S1 w os)=plainGoodD qv lz:=by kernel_rfl
theorem Yl:wideSeen qv (S1 w os)=wideGood qv:=by kernel_rfl
theorem Ym:clsSeenW qv lz (S1 w os)=clsGoodW qv lz:=by kernel_rfl
end
end Mine.Internal
end
section
open PySem PySem.Calls PySem.W PyProof.Rows PyProof
set_option maxHeartbeats 400000
namespace Mine.Internal
variable{a t n:Nat}{u:Option Value}{d:FD}{qn x:Str}{m:Value}
noncomputable section
theorem yG(w:World)(os:OsState):openSeen qv lz (importedModules pw.main.body) (λ_=>true) true (S1 w os)=openGood qv lz:=by unfold openSeen openGood;rw[Ye,Yg,Yh,Yi,Yj,Yk,Yl,Ym,So,Sp,Sq,Sr,Su];rfl
theorem Ix(w:World):(λos=>((staticsOk (importedModules pw.main.body) (boot_heap w.params) (H1 w.params)&&namesBound pw (H1 w.params)&&gensDone (S1 w os)&&laidKept (boot_heap w.params) (H1 w.params)),
  openSeen qv lz (importedModules pw.main.body) (λ_=>true) true (S1 w os),(S1 w os).heap))=λ_=>(true,openGood qv lz,H1 w.params):=by
 funext os;rw[Sk,Sl,Sm,Sn,yG];rfl
theorem left:LeftO pw qv lz (λ_=>true) (λs=>s.heap) (λw=>H1 w.params) 40000:=
 LeftO.of_pieces (p:=pw) (q:=qv) (loose:=lz) (Xt:=λ_=>true) (Yf:=λs=>s.heap) (Ya:=λw=>H1 w.params) (N:=40000) (g0:=true) (H₀:=boot_heap) (H₁:=H1) (gs₀:=⟨[]⟩) (gs₁:=⟨[]⟩) (d₀:=boot_drawn) (d₁:={}) (k₀:=boot_toks) (k₁:=2441) (m₀:=11) (ann:=some (.ref 6)) (M:=hN) Iu Iw Iv (by decide+kernel) Ix
end
noncomputable section
noncomputable def Iy:Obj:=⟨.none,none,.freed,#[]⟩
noncomputable def Tx(P:Params):BT:=(Lz P).set 164 λ_=>Iy
noncomputable def h0(w:World):AP:=⟨absHeap (Tx w.params) 240 {},w⟩
variable(w:World)
theorem nM:(h0 w).toHeap.isNs mainGlobals=true:=by kernel_rfl
theorem Iz:(h0 w).toHeap.isNs builtinsNs=true:=by kernel_rfl
theorem Ja:(h0 w).toHeap.isNs cStatics=true:=by kernel_rfl
theorem Mg:(h0 w).toHeap.isNs 86=true:=by kernel_rfl
theorem Sv:(h0 w).toHeap.nsMap cStatics "sys.recursionlimit"=none:=by kernel_rfl
theorem Mh:(h0 w).toHeap.get? 1=some (boot_o_1 w.params):=by kernel_rfl
theorem iT:(h0 w).toHeap.get? 164=none:=by kernel_rfl
noncomputable def yH(a:Nat):Option Value->Bool
 |some (.ref b)=>Nat.beq a b
 |_=>false
noncomputable def yI(i:Int):Option Value->Bool
 |some (.int j _)=>i==j
 |_=>false
noncomputable def yJ(x:String):Option Value->Bool
 |some (.builtin y)=>x==y
 |_=>false
noncomputable def yK(x:String):Option Value->Bool
 |some (.type y)=>x==y
 |_=>false
noncomputable def I6(v:AV)(u z:Option Value):Bool:=match v with
 | .fn a=>yH a u
 | .int i=>yI i u
 | .blt x=>u.isNone&&yJ x z
 | .typ x=>u.isNone&&yK x z
 |_=>false
theorem qY(h:yH a u=true):u=some (.ref a):=by
 cases u with
 |none=>exact ME h
 |some v=>cases v<;>first|(rw[Nat.eq_of_beq_eq_true (show Nat.beq a _=true from h)])|exact ME h
theorem qZ{a:Int}(h:yI a u=true):∃t,u=some (.int a t):=by
 cases u with
 |none=>exact ME h
 |some v=>cases v<;>first|(obtain rfl:=eq_of_beq h;exact⟨_,rfl⟩)|exact ME h
theorem rA{a:String}(h:yJ a u=true):u=some (.builtin a):=by
 cases u with
 |none=>exact ME h
 |some v=>cases v<;>first|(obtain rfl:=eq_of_beq h;rfl)|exact ME h
theorem rB{a:String}(h:yK a u=true):u=some (.type a):=by
 cases u with
 |none=>exact ME h
 |some v=>cases v<;>first|(obtain rfl:=eq_of_beq h;rfl)|exact ME h
theorem Mi:JA.all (λp=>I6 p.2 ((h0 w).toHeap.nsMap mainGlobals p.1) ((h0 w).toHeap.nsMap builtinsNs p.1))=true:=by kernel_rfl
theorem Yn:(h0 w).toHeap.get? 99=some (C8 w.params):=by kernel_rfl
theorem Sw:(h0 w).toHeap.get? 110=some (dO qV qV.length):=by kernel_rfl
noncomputable abbrev OH(a:Nat)(d:FD):Prop:=cT (h0 w).toHeap a d
theorem Sx{cd:Nat}{nm:Str}{line argc fl u:Nat}{v1 v2 v3:Value}(g1:(h0 w).toHeap.get? a=some (kO "function" (Ph d qn 3 m (.ref cd))))(g2:(h0 w).toHeap.get? cd=some (eF nm qn t line argc fl n true v1 v2 v3 u))(hc:NT cd):OH w a d:=
 ⟨_,_,cd,_,_,t+1,g1,rfl,rfl,⟨rfl,rfl,rfl,rfl,rfl,rfl⟩,rfl,rfl,g2,rfl,rfl⟩
theorem GX{line argc fl:Nat}{vs fs:List Str}(g1:(h0 w).toHeap.get? (n+6)=(aG d qn n t line argc fl m (some (vs,fs)))[6]?)(g2:(h0 w).toHeap.get? (n+5)=(aG d qn n t line argc fl m (some (vs,fs)))[5]?)(hc:NT (n+5)):OH w (n+6) d:=Sx w g1 g2 hc
theorem UM{line argc fl:Nat}(g1:(h0 w).toHeap.get? (n+4)=(aG d qn n t line argc fl m none)[4]?)(g2:(h0 w).toHeap.get? (n+3)=(aG d qn n t line argc fl m none)[3]?)(hc:NT (n+3)):OH w (n+4) d:=Sx w g1 g2 hc
theorem I7:OH w 21 (fd 1):=GX w (n:=15) (qn:=(fd 1).name) (t:=189) (line:=2) (argc:=2) (fl:=3) (m:=RR) (vs:=["a","b","count","i"]) (fs:=[]) (by kernel_rfl) (by kernel_rfl) (by decide)
theorem I8:OH w 28 (fd 2):=GX w (n:=22) (qn:=(fd 2).name) (t:=199) (line:=8) (argc:=2) (fl:=3) (m:=RR) (vs:=["a","b"]) (fs:=[]) (by kernel_rfl) (by kernel_rfl) (by decide)
theorem I9:OH w 35 (fd 3):=GX w (n:=29) (qn:=(fd 3).name) (t:=207) (line:=10) (argc:=2) (fl:=3) (m:=RR) (vs:=["a","b","i","j"]) (fs:=[]) (by kernel_rfl) (by kernel_rfl) (by decide)
theorem J0:OH w 42 (fd 4):=GX w (n:=36) (qn:=(fd 4).name) (t:=217) (line:=16) (argc:=3) (fl:=3) (m:=RR) (vs:=["a","b","c"]) (fs:=[]) (by kernel_rfl) (by kernel_rfl) (by decide)
theorem J1:OH w 49 (fd 7):=GX w (n:=43) (qn:=(fd 7).name) (t:=230) (line:=20) (argc:=1) (fl:=35) (m:=Rw) (vs:=["grouping","last_interval","interval"]) (fs:=[]) (by kernel_rfl) (by kernel_rfl) (by decide)
theorem Yo:OH w 109 (fd 12):=GX w (n:=103) (qn:=(fd 12).name) (t:=361) (line:=78) (argc:=1) (fl:=3) (m:=XE) (vs:=["code"]) (fs:=[]) (by kernel_rfl) (by kernel_rfl) (by decide)
theorem Yp:OH w 155 (fd 14):=GX w (n:=149) (qn:=(fd 14).name) (t:=2319) (line:=81) (argc:=1) (fl:=3) (m:=XE) (vs:=["code","r"]) (fs:=[]) (by kernel_rfl) (by kernel_rfl) (by decide)
theorem Yq:OH w 162 (fd 15):=GX w (n:=156) (qn:=(fd 15).name) (t:=2327) (line:=86) (argc:=1) (fl:=3) (m:=XE) (vs:=["code"]) (fs:=[]) (by kernel_rfl) (by kernel_rfl) (by decide)
theorem Yr:OH w 169 (fd 17):=GX w (n:=163) (qn:=(fd 17).name) (t:=2336) (line:=89) (argc:=1) (fl:=3) (m:=HC) (vs:=["text","stream","_law_piece"]) (fs:=["text","gone"]) (by kernel_rfl) (by kernel_rfl) (by decide)
theorem Ys:OH w 176 (fd 18):=GX w (n:=170) (qn:=(fd 18).name) (t:=2347) (line:=99) (argc:=2) (fl:=3) (m:=HC) (vs:=["sign","turn","place","unseen","kinds"]) (fs:=[]) (by kernel_rfl) (by kernel_rfl) (by decide)
theorem Yt:OH w 181 (fd 19):=UM w (n:=177) (qn:=(fd 19).name) (t:=2358) (line:=110) (argc:=3) (fl:=3) (m:=HC) (by kernel_rfl) (by kernel_rfl) (by decide)
theorem Yu:OH w 186 (fd 20):=UM w (n:=182) (qn:=(fd 20).name) (t:=2364) (line:=115) (argc:=1) (fl:=3) (m:=HC) (by kernel_rfl) (by kernel_rfl) (by decide)
theorem Yv:OH w 193 (fd 21):=GX w (n:=187) (qn:=(fd 21).name) (t:=2370) (line:=117) (argc:=1) (fl:=3) (m:=HC) (vs:=["row","told","size"]) (fs:=[]) (by kernel_rfl) (by kernel_rfl) (by decide)
theorem Yw:OH w 200 (fd 22):=GX w (n:=194) (qn:=(fd 22).name) (t:=2379) (line:=124) (argc:=1) (fl:=3) (m:=HC) (vs:=["sizes","streets","place","size","after"]) (fs:=[]) (by kernel_rfl) (by kernel_rfl) (by decide)
theorem Yx:OH w 205 (fd 23):=UM w (n:=201) (qn:=(fd 23).name) (t:=2390) (line:=132) (argc:=3) (fl:=3) (m:=HC) (by kernel_rfl) (by kernel_rfl) (by decide)
theorem Yy:OH w 212 (fd 24):=GX w (n:=206) (qn:=(fd 24).name) (t:=2396) (line:=150) (argc:=2) (fl:=3) (m:=HC) (vs:=["row","sign"]) (fs:=[]) (by kernel_rfl) (by kernel_rfl) (by decide)
theorem Yz:OH w 219 (fd 25):=GX w (n:=213) (qn:=(fd 25).name) (t:=2404) (line:=156) (argc:=2) (fl:=3) (m:=HC) (vs:=["streets","gone","marks","spare","one","other","low"]) (fs:=[]) (by kernel_rfl) (by kernel_rfl) (by decide)
theorem Za:OH w 224 (fd 26):=UM w (n:=220) (qn:=(fd 26).name) (t:=2417) (line:=165) (argc:=1) (fl:=3) (m:=HC) (by kernel_rfl) (by kernel_rfl) (by decide)
theorem Zb:OH w 229 (fd 27):=UM w (n:=225) (qn:=(fd 27).name) (t:=2423) (line:=176) (argc:=1) (fl:=3) (m:=HC) (by kernel_rfl) (by kernel_rfl) (by decide)
theorem Zc:OH w 234 (fd 28):=UM w (n:=230) (qn:=(fd 28).name) (t:=2429) (line:=189) (argc:=2) (fl:=3) (m:=HC) (by kernel_rfl) (by kernel_rfl) (by decide)
theorem Zd:OH w 239 (fd 29):=UM w (n:=235) (qn:=(fd 29).name) (t:=2435) (line:=196) (argc:=1) (fl:=3) (m:=HC) (by kernel_rfl) (by kernel_rfl) (by decide)
theorem J2:OH w 63 (fm 0):=GX w (n:=57) (qn:="_netrclex.__init__") (t:=253) (line:=35) (argc:=2) (fl:=3) (m:=UJ) (vs:=["self","fp"]) (fs:=[]) (by kernel_rfl) (by kernel_rfl) (by decide)
theorem J3:OH w 70 (fm 1):=GX w (n:=64) (qn:="_netrclex._read_char") (t:=261) (line:=41) (argc:=1) (fl:=3) (m:=UJ) (vs:=["self","ch"]) (fs:=[]) (by kernel_rfl) (by kernel_rfl) (by decide)
theorem J4:OH w 77 (fm 2):=GX w (n:=71) (qn:="_netrclex.get_token") (t:=269) (line:=47) (argc:=1) (fl:=3) (m:=UJ) (vs:=["self","token","fiter","ch"]) (fs:=[]) (by kernel_rfl) (by kernel_rfl) (by decide)
theorem J5:OH w 84 (fm 3):=GX w (n:=78) (qn:="_netrclex.push_token") (t:=279) (line:=74) (argc:=2) (fl:=3) (m:=UJ) (vs:=["self","token"]) (fs:=[]) (by kernel_rfl) (by kernel_rfl) (by decide)
end
noncomputable section
variable(w:World)
theorem PD{α β:Type}[BEq α][LawfulBEq α]{a:α}{b:β}:∀{l:List (α×β)},l.lookup a=some b->(a,b)∈l
 |(k,v)::l,h=>by
  simp only[List.lookup_cons]at h;cases q:a==k with
  |true=>rw[q]at h;cases h;rw[eq_of_beq q];exact .head _
  |false=>rw[q]at h;exact .tail _ (PD h)
theorem yL(a:Nat)(d:FD)(h:cS a=some d):OH w a d:=by
 obtain⟨p,h1,rfl⟩:=AZ h;have all:∀x∈TV,OH w x.1 (KF (if x.2.1 then DA x.2.2 else KY x.2.2)):=by unfold TV TI;simp only[List.cons_append,List.nil_append,List.forall_mem_cons];exact⟨I7 w,I8 w,I9 w,J0 w,Yo w,Yp w,Yq w,Yr w,Ys w,Yt w,Yu w,Yw w,Yx w,Yz w,Za w,Zb w,Zc w,J2 w,J3 w,J4 w,J5 w,Yv w,Yy w,J1 w,Zd w,λ_ h=>nomatch h⟩
 exact all _ (PD h1)
theorem PE{h h':Heap}{a:Addr}{m:Str->Option Value}(x:h.Ns a m)(hk:∀b o,h.get? b=some o->NT b->h'.get? b=some o)(ha:NT a):h'.Ns a m:=let ⟨o,es,ep,e,r⟩:=x;⟨o,es,ep,hk _ _ e ha,r⟩
theorem Fh(x:Str)(v:AV)(h:JA.lookup x=some v)(A:Around)(e:Env)(s:Shared)(Q:Value->Shared->Prop)(hg:e.globals=mainGlobals)(hb:e.builtins=builtinsNs)(hk:∀b o,(h0 w).get? b=some o->NT b->s.heap.get? b=some o)
  (k:∀r,(∀h as,CV h as v r)->Q r s)(M:Model)(E:Value->Shared->Prop):wpAny M A (loadGlobal e x) Q E s:=by
 have hx:=CW (Mi w) _ (PD h);have n3:s.heap.Ns e.globals ((h0 w).toHeap.nsMap mainGlobals):=by rw[hg];exact PE (.of_isNs (nM w)) hk (by decide)
 have n0:s.heap.Ns e.builtins ((h0 w).toHeap.nsMap builtinsNs):=by rw[hb];exact PE (.of_isNs (Iz w)) hk (by decide)
 dsimp only at hx;generalize (h0 w).toHeap.nsMap mainGlobals=m3 at hx n3;generalize (h0 w).toHeap.nsMap builtinsNs=m0 at hx n0;generalize hu:m3 x=u at hx;generalize hz:m0 x=z at hx;cases v with
 |fn a=>obtain rfl:=qY hx;exact loadGlobal_global n3 hu (k _ λ_ _=>rfl)
 |int i=>obtain⟨t,rfl⟩:=qZ hx;exact loadGlobal_global n3 hu (k _ λ_ _=>⟨_,rfl⟩)
 |blt x=>obtain⟨h1,h2⟩:=BG hx;obtain rfl:=Option.isNone_iff_eq_none.mp h1;obtain rfl:=rA h2;exact loadGlobal_builtin n3 hu n0 hz (k _ λ_ _=>rfl)
 |typ x=>obtain⟨h1,h2⟩:=BG hx;obtain rfl:=Option.isNone_iff_eq_none.mp h1;obtain rfl:=rB h2;exact loadGlobal_builtin n3 hu n0 hz (k _ λ_ _=>rfl)
 |_=>exact ME hx
end
noncomputable section
variable(w:World)
noncomputable def SR(e:DictEntry):Prop:=∃r t,e=aH t r
theorem NX{st:Nat}{e:DictEntry}:∀{l:List (Int×Str)} {t:Nat},e∈BA st t l->SR e
 |r::l,t,h=>by
  rcases AN h with rfl|h
  .exact⟨r,t,rfl⟩
  .exact NX h
theorem aN:∀e∈qV,SR e:=λe h=>by
 unfold qV at h;rcases HV h with h|h
 .rcases HV h with h|h<;>exact NX h
 .exact NX h
noncomputable def aO(e:DictEntry):Int:=match e.key with
 | .int i _=>i
 |_=>0
noncomputable def Sy(e:DictEntry):Str:=match e.val with
 | .str x _=>x
 |_=>default
theorem Mj:Se (qV.map aO)=true:=by kernel_rfl
theorem Sz:qV.map (λe=>(aO e,Sy e))=Br:=by kernel_rfl
theorem XN:∀{l:List Int},Se l=true->l.Nodup
 |[],_=> .nil
 |[a],_=>List.pairwise_singleton _ a
 |a::b::l,h=> .cons (λx hx=>Int.ne_of_lt (iS h x hx)) (XN (BG h).2)
theorem eK:∀{l:List DictEntry},(∀e∈l,SR e)->Pairs (intKind pw w) l (l.map λe=>(aO e,e.val))
 |[],_=> .nil
 |e::l,h=>by obtain⟨r,t,rfl⟩:=h e (.head _);exact .cons (by show(r.1==r.1)=true;exact if_pos rfl) rfl (eK λx hx=>h x (.tail _ hx))
theorem eL{i:Int}:∀{l:List DictEntry},(∀e∈l,SR e)->match(l.map λe=>(aO e,Sy e)).lookup i with
  |some x=>∃t,valueAt (l.map λe=>(aO e,e.val)) i=some (.str x t)
  |none=>valueAt (l.map λe=>(aO e,e.val)) i=none
 |[],_=>rfl
 |e::l,h=>by
  have ih:=eL (i:=i) λx hx=>h x (.tail _ hx);obtain⟨r,t,rfl⟩:=h e (.head _);rw[List.map_cons,List.map_cons,List.lookup_cons];unfold valueAt at ih⊢;rw[List.find?_cons];show match(match i==r.1 with|true=>some r.2|false=>_)with|some x=>_|none=>_
  cases q:i==r.1 with
  |true=>have:decide ((aO (aH t r),(aH t r).val).1=i)=true:=decide_eq_true (eq_of_beq q).symm;exact⟨t+1,by rw[this];rfl⟩
  |false=>
   have:decide ((aO (aH t r),(aH t r).val).1=i)=false:=decide_eq_false λz=>by replace q:=(show r.1=i from z)▸q;simp at q
   refine(Eq.symm this)▸?_;exact ih
theorem Ta:∃kvs,(h0 w).toHeap.DictOf (intKind pw w) 110 kvs/\∀i,match Br.lookup i with
  |some x=>∃t,valueAt kvs i=some (.str x t)
  |none=>valueAt kvs i=none:=by
 refine⟨qV.map λe=>(aO e,e.val),⟨_,⟨qV⟩,_,Sw w,⟨rfl,rfl,rfl⟩,rfl,λe he=>?_,eK w aN,?_⟩,λi=>?_⟩
 .obtain⟨r,t,rfl⟩:=aN e (by exact he.1);exact⟨r.1,by show(r.1==r.1)=true;exact if_pos rfl,rfl⟩
 .rw[List.map_map];exact XN Mj
 .refine Sz▸?_;exact eL aN
theorem Tb:∃n,(h0 w).toHeap.SetOf (intKind pw w) 99 (λk=>VW.contains k) n:=by
 refine⟨27,_,_,_,_,Yn w,⟨rfl,rfl,rfl⟩,rfl,λe he=>?_,λk=>?_,by decide,by kernel_rfl,rfl⟩
 .obtain⟨x,hx,rfl⟩:=ID he;have:nE.all (λx=>((x.1:Int)==hashInt x.1))=true:=by kernel_rfl
  exact⟨⟨x.1,by show((x.1:Int)==x.1)=true;exact if_pos rfl,eq_of_beq (CW this x hx)⟩,rfl⟩
 .have c1:VW.all (λk=>nE.any λx=>(x.1:Int)==k)=true:=by kernel_rfl
  have c2:nE.all (λx=>VW.contains (x.1:Int))=true:=by kernel_rfl
  constructor
  .intro h;obtain⟨x,hx,q⟩:=List.any_eq_true.mp (CW c1 k (List.contains_iff_mem.mp h));exact⟨_,List.mem_map.mpr ⟨x,hx,rfl⟩,q⟩
  .rintro⟨e,he,q⟩;obtain⟨x,hx,rfl⟩:=ID he;have:=CW c2 x hx;refine(show(x.1:Int)=k from eq_of_beq q)▸?_;exact this
theorem Tc:(h0 w).toHeap.get? 169=some (kO "function" (Ph (fd 17) (fd 17).name 3 HC (.ref 168))):=by kernel_rfl
theorem Td:(h0 w).toHeap.get? 168=some (eF (fd 17).name (fd 17).name 2336 89 1 3 163 true (.ref 165) (.ref 166) (.ref 167) 2344):=by kernel_rfl
theorem Ze:(h0 w).toHeap.nsMap mainGlobals "__builtins__"=some (.ref 4):=by kernel_rfl
theorem J6:(h0 w).toHeap.get? 4=some ⟨.type "module",some 0,.plain,#[]⟩:=by kernel_rfl
theorem Zf:(h0 w).toHeap.get? 87=some (excClassObj "_netrclex" "_netrclex" 87 86 [.type "object"] [.type "object"] true [] [] false none none none none (some (kS "_netrclex" 241)) (some (kS "_netrclex" 249)) (some (.bool true)) "object.__new__"):=by kernel_rfl
theorem Zg:([("__getattribute__":Str),"__getattr__","__setattr__"]++[("lineno":Str),"instream","whitespace","pushback","read"]).all (λx=>((h0 w).toHeap.nsMap 86 x).isNone)=true:=by kernel_rfl
theorem Zh:FI.all (λp=>(h0 w).toHeap.nsMap 86 p.1==some (.ref p.2))=true:=by kernel_rfl
theorem SS(h:x∈[("__getattribute__":Str),"__getattr__","__setattr__"]++[("lineno":Str),"instream","whitespace","pushback","read"]):(h0 w).toHeap.nsMap 86 x=none:=by have:=CW (Zg w) x h;exact Option.isNone_iff_eq_none.mp this
theorem nN{f:Nat}(h:FI.lookup x=some f):(h0 w).toHeap.nsMap 86 x=some (.ref f):=by have:=CW (Zh w) _ (PD h);dsimp only at this;exact eq_of_beq this
theorem ED:BH (h0 w)where
 glob:=Fh w
 mods:=⟨_,Mh w⟩
 b1:=Tb w
 b3:=Ta w
 fns:=yL w
 lim:=⟨_,.of_isNs (Ja w),Sv w⟩
 ltab:=iT w
 lex:=⟨_,_,168,_,Tc w,rfl,rfl,⟨_,_,_,_,_,_,_,_,_,Td w,rfl,rfl,rfl,rfl,rfl,rfl,rfl,rfl,by decide⟩,.of_isNs (nM w),⟨4,_,Ze w,by decide,by decide,by decide,J6 w,rfl,rfl,rfl⟩⟩
 cls:=⟨86,_,⟨⟨_,_,_,_,_,_,_,_,_,_,_,_,Zf w⟩,.of_isNs (Mg w)⟩,SS w (by decide),SS w (by decide),SS w (by decide),λx h=>SS w (List.mem_append_right _ (List.contains_iff_mem.mp h)),λx f h=>nN w h,nN w (by decide+kernel)⟩
end
end Mine.Internal
end
section
open PySem PySem.Calls PySem.W PyProof.Rows PyProof
set_option maxHeartbeats 1000000
namespace Mine.Internal
variable{R:WRecords}{d:WData}{xs:List WData}{P:Params}{h:Heap}{cl:Str->Option Addr}
noncomputable section
variable{w:World}{s:Shared}
noncomputable abbrev Ml:FD:=KF (DA 29)
theorem Fi(h:WShape.has R d .int=true):∃i,d= .int i:=by cases d<;>first|exact⟨_,rfl⟩|exact Bool.noConfusion ((show WShape.has R _ .int=false by kernel_rfl).symm.trans h)
theorem yM(h:WShape.has [] d (.list .int)=true):∃xs,d= .list xs/\WShape.hasItems [] xs .int=true:=by
 cases d with
 |list xs=>exact⟨xs,rfl,(Bool.or_false _).symm.trans ((show WShape.has [] (.list xs) (.list .int)=(WShape.hasItems [] xs .int||false)by kernel_rfl).symm.trans h)⟩
 |_=>exact Bool.noConfusion ((show WShape.has [] _ (.list .int)=false by kernel_rfl).symm.trans h)
theorem XO{x:WData}(h:WShape.hasItems R (x::xs) .int=true):(∃i,x= .int i)/\WShape.hasItems R xs .int=true:=
 let ⟨h1,h2⟩:=BG ((show WShape.hasItems R (x::xs) .int=(WShape.has R x .int&&WShape.hasItems R xs .int)by kernel_rfl).symm.trans h)
 ⟨Fi h1,h2⟩
theorem nO{args:List WData}(h:WShape.hasAll [] args [.list .int]=true):∃xs,args=[.list xs]/\WShape.hasItems [] xs .int=true:=by
 obtain⟨d,r,rfl,h3,h4⟩:=hasAllW_cons h;obtain⟨xs,rfl,h5⟩:=yM h3;cases r with
 |cons=>exact Bool.noConfusion ((show WShape.hasAll [] (_::_) []=false by kernel_rfl).symm.trans h4)
 |nil=>exact⟨xs,rfl,h5⟩
theorem Fj:∀{vs:List Value},WellAll P h vs xs->WShape.hasItems R xs .int=true->∃ns:List Int,vs.length=ns.length/\xs.length=ns.length/\∀(k:Heap) (as:AH),CVs k as (ns.map .int) vs:=by
 induction xs with
 |nil=>intro vs w q;cases w;exact⟨[],rfl,rfl,λ_ _=>rfl⟩
 |cons x r ih=>
  intro vs w q;cases w with
  |cons h1 h2=>
   obtain⟨⟨i,rfl⟩,q2⟩:=XO q;obtain⟨ns,e1,e2,e3⟩:=ih h2 q2;cases h1 with
   |int i t=>exact⟨i::ns,congrArg (· +1) e1,congrArg (· +1) e2,λk as=>⟨_,_,rfl,⟨t,rfl⟩,e3 k as⟩⟩
set_option tactic.hygienic true in
theorem Fk{args:List WData}{vals:List Value}(hpre:PySem.Challenge.rw_tp0043_01.row.claim.pre args=true)(wl:WellAll P h vals args):
  ∃(p:Nat) (vs:List Value) (ns:List Int),vals=[.ref p]/\h.get? p=some {cls:= .type "list",data:= .seq vs.toArray}/\ns.length<=63/\∀(k:Heap) (as:AH),CVs k as (ns.map .int) vs:=by
 obtain⟨h1,h2⟩:=pre_splitW hpre;obtain⟨xs,rfl,h3⟩:=nO h1;cases wl with
 |cons w1 w2=>
  cases w2
  cases w1 with
  |list g wa=>rename_i a vs;obtain⟨ns,e1,e2,e3⟩:=Fj wa h3;refine⟨a,vs,ns,rfl,g,?_,e3⟩;have h2:WTm.holds [] (.and (.not (.lt (.lit (.int 63)) (.len (.arg 0)))) (.lit (.bool true))) {args:=[.list xs]}=true:=h2;refine e2▸?_;refine Nat.not_lt.mp λq=>?_;have hq:less? (.int 63) (.int (xs.length:Int))=some true:=congrArg some (decide_eq_true (by exact Int.ofNat_lt.mpr q));simp[WTm.holds,WTm.value,hq]at h2
theorem Jb{b:Nat}{o:Obj}(e:(h0 w).get? b=some o):(H1 w.params).get? b=some o:=by
 have e1:(h0 w).toHeap=(H1 w.params).update 164 λ_=>Iy:=absHeap_set (t:=Lz w.params) (o:=vT #[]) (by kernel_rfl);have hb:b≠164:=by rintro rfl;rw[show(h0 w).get? 164=none from iT w]at e;exact BJ e
 replace e:=(Heap.get?_update_ne _ _ _ _ hb)▸e1▸e;exact e
theorem yN(K:∀b o,(H1 w.params).get? b=some o->s.heap.get? b=some o){E:Env}(h1:E.scope=Ml.scope)(h2:E.locals=s.heap.objs.size)(h3:E.globals=mainGlobals)(h4:E.builtins=builtinsNs):
  St (h0 w) ⟨⟨Ml.scope,[],[]⟩,[.tab],0⟩ E ⟨[BO],[]⟩ (s.heap.push {cls:= .type "frame",data:= .dict #[]}):=by
 have up:∀b o,s.heap.get? b=some o->(s.heap.push {cls:= .type "frame",data:= .dict #[]}).get? b=some o:=λ_ _ e1=>Heap.get?_push_of_some _ e1;have t1:(H1 w.params).get? BO=some (vT #[]):=by kernel_rfl
 have k0:∀b o,(h0 w).get? b=some o->s.heap.get? b=some o:=λb o e1=>K b o (Jb e1);have hlt:BO<s.heap.objs.size:=Heap.lt_size (K _ _ t1);have fb:(h0 w).get? s.heap.objs.size=none:=by
  cases q:(h0 w).get? s.heap.objs.size with
  |none=>rfl
  |some o=>exact absurd (Heap.lt_size (k0 _ _ q)) (Nat.lt_irrefl _)
 refine⟨λb o e1 _=>up b o (k0 b o e1),True.intro,⟨#[],up _ _ (K _ _ t1)⟩,rfl,List.nodup_cons.mpr ⟨λh=>(nomatch h),List.nodup_nil⟩,λa ha=>?_,True.intro,λl o e1=>?_,λha=>?_,?_,True.intro,h1,by decide+kernel,h3,h4,λx l e1=>(nomatch e1),
  ⟨_,h2▸Heap.Ns.new ..,λx v e1=>(nomatch e1)⟩,Nat.zero_le _,λa ha=>(nomatch ha)⟩
 .obtain rfl:=AR ha;exact iT w
 .cases l with
  |succ l=>simp at e1
  |zero=>(obtain rfl:=sj e1;clear e1);exact⟨BO,rfl,rfl,up _ _ (K _ _ t1)⟩
 .rw[h2]at ha;exact absurd (AR ha) (Nat.ne_of_gt hlt)
 .rw[h2];exact fb
noncomputable def Mm:Prop:=∀(ns:List Int),ns.length<=63->∀Q:AB,(∀c,Q (.f (.ret (.bool true))) c)->∀c',DS Ml [] [.flist (ns.map .int)] [.tab] 0=some c'->AX 300 (.execs Ml.body) c' Q
theorem yO(K:∀b o,(H1 w.params).get? b=some o->h.get? b=some o):isCodeTable h BO:=by
 have t:(H1 w.params).get? 168=some (eF (fd 17).name (fd 17).name 2336 89 1 3 163 true (.ref 165) (.ref 166) (.ref 167) 2344):=by kernel_rfl
 exact⟨168,_,_,K _ _ t,rfl,rfl,rfl⟩
theorem yP(W:NH (h0 w))(B:Mm)(K:∀b o,(H1 w.params).get? b=some o->s.heap.get? b=some o){p:Nat}{vs:List Value}{ns:List Int}(g:s.heap.get? p=some {cls:= .type "list",data:= .seq vs.toArray})(hn:ns.length<=63)
  (cv:∀(k:Heap) (as:AH),CVs k as (ns.map .int) vs)(hg:s.gens= #[])(ht:1<=s.toks):
  wpAny (model pw w) callerA (PySem.call (.ref 239) [.ref p]) (λv s'=>v= .bool true/\OldK s.heap s'.heap/\s'.os=s.os/\AllBare s'.gens) no s:=by
 have t1:(H1 w.params).get? BO=some (vT #[]):=by kernel_rfl
 have hlt:p≠BO:=by rintro rfl;rw[K _ _ t1]at g;cases g
 have up:∀b o,s.heap.get? b=some o->(s.heap.push {cls:= .type "frame",data:= .dict #[]}).get? b=some o:=λ_ _ e1=>Heap.get?_push_of_some _ e1;have F:LJ s.heap 239 Ml []:=(yL w 239 Ml (by rfl)).is (λb o e1=>K _ _ (Jb e1)) (Ih (a:=239) (by rfl));have hr:LK callerA 300:=⟨by decide,λenv lk=>⟨by show 1+300+1+2*300+50<=990;decide,by show 4+3+20*300+100<=9000;decide,rfl,TY lk⟩⟩;obtain⟨c',hb⟩:∃c',DS Ml [] [.flist (ns.map .int)] [.tab] 0=some c':=⟨_,rfl⟩
 .refine mT (AA:=h0 w) (ED w) (Ru (ED w) W 300).ok hr ht F (by decide+kernel) (λ_=>rfl) (acl:=[]) (st0:=[.tab]) (lo0:=0) (as0:=⟨[BO],[]⟩) (vs:=[.flist (ns.map .int)]) (Q:=λy _=>y= .f (.ret (.bool true)))
   (λE h1 h2 h3 h4 _=>yN K h1 h2 h3 h4) ?_ (Nat.zero_le _) hb (B ns hn _ (λ_=>rfl) c' hb) λE c2 as2 s2 fl af e1 G cf q=>?_
  .refine⟨_,_,rfl,⟨p,vs,rfl,⟨λh=>hlt (AR h),λh=>(nomatch h),True.intro⟩,⟨0,up _ _ g⟩,cv _ _⟩,by rfl⟩
  .obtain rfl:=Mine.Internal.Res.f.inj q;obtain⟨v,rfl,cv⟩:=cf;have same:∀b o,s.heap.get? b=some o->b≠BO->s2.heap.get? b=some o:=λb o e2 e3=>G.evo.same b o (up _ _ e2) (λh=>e3 (AR h)) (by rw[e1];exact Nat.ne_of_lt (Heap.lt_size e2)) True.intro;obtain⟨ws,q⟩:=G.st.tabx;obtain⟨_,d2,gg,d3,_,d5⟩:=G.sh;refine⟨cv,⟨λb o e2=>?_,λb o e2=>?_⟩,d2,?_⟩
   .by_cases e3:b=BO
    .subst e3;rw[K _ _ t1]at e2;(obtain rfl:=sj e2;clear e2);exact .inr (.inl ⟨yO K,rfl,#[],ws,rfl,by rw[q];simp⟩)
    .exact .inl (same b o e2 e3)
   .by_cases e3:b=BO
    .subst e3;exact⟨_,q⟩
    .exact⟨_,same b o e2 e3⟩
   .rw[d3];show AllBare (s.gens++gg);rw[hg];simpa using d5
end
noncomputable section
theorem nP:LeftO pw qv lz (λ_=>true) (λs=>(s.heap,s.toks)) (λw=>(H1 w.params,2441)) 40000:=
 LeftO.of_pieces (p:=pw) (q:=qv) (loose:=lz) (Xt:=λ_=>true) (Yf:=λs=>(s.heap,s.toks)) (Ya:=λw=>(H1 w.params,2441)) (N:=40000) (g0:=true) (H₀:=boot_heap) (H₁:=H1) (gs₀:=⟨[]⟩) (gs₁:=⟨[]⟩) (d₀:=boot_drawn) (d₁:={}) (k₀:=boot_toks) (k₁:=2441) (m₀:=11) (ann:=some (.ref 6)) (M:=hN) Iu Iw Iv (by decide+kernel)
  (λw=>by have:=Ix w;funext os;have h:=congrFun this os;obtain⟨h1,h2⟩:=Prod.mk.inj h;obtain⟨h2,h3⟩:=Prod.mk.inj h2;exact Prod.ext h1 (Prod.ext h2 rfl))
set_option tactic.hygienic true in
theorem yQ{cl:Str->Option Addr}{P:Params}{ord:List DictEntry->List DictEntry}:∀{xs:List WData} {s:Shared} {r:List Value×Shared},WShape.hasItems [] xs .int=true->layAllW [] cl P ord xs s=some r->s.toks<=r.2.toks
 |[],s,r,_,h=>by(obtain rfl:=sj h;clear h);exact Nat.le_refl _
 |x::xs,s,r,q,h=>by
  obtain⟨⟨i,rfl⟩,q2⟩:=XO q;simp only[layAllW,layW]at h;split at h
  .rename_i r' hr;(obtain rfl:=sj h;clear h);exact Nat.le_trans (Nat.le_succ _) (yQ q2 hr)
  .exact BJ h
noncomputable abbrev tG:OpenRow:=PySem.Challenge.rw_tp0043_01.row
set_option tactic.hygienic true in
theorem yR{ord:List DictEntry->List DictEntry}{args:List WData}{s:Shared}{r:List Value×Shared}(hpre:tG.claim.pre args=true)(h:layAllW [] cl P ord args s=some r):s.toks<=r.2.toks:=by
 obtain⟨h1,_⟩:=pre_splitW hpre;obtain⟨xs,rfl,h3⟩:=nO h1;simp only[layAllW,layW]at h;split at h
 .rename_i a ha;split at ha
  .rename_i r' hr;(obtain rfl:=sj ha;clear ha);(obtain rfl:=sj h;clear h);have:=yQ h3 hr;exact this
  .exact BJ ha
 .exact BJ h
end
noncomputable section
theorem Te:chainsOk qv=true:=by kernel_rfl
theorem Mn:(opensWell pw&&(PySem.W.frees tG.toRowW&&tG.within.isEmpty))=true:=by kernel_rfl
theorem Tf:pw.bare:=⟨rfl,rfl,rfl,rfl,rfl,by kernel_rfl⟩
theorem Tg:tG.toRowW.promised:=⟨[.list []],by decide+kernel,by decide+kernel⟩
theorem Zi:∃args,tG.claim.pre args=true/\WData.layableAll args=true:=⟨[.list []],by decide+kernel,by decide+kernel⟩
theorem yS:(defOf qv "law").isSome=true:=by kernel_rfl
noncomputable def dL:DefRec:=((defOf qv "law").get yS).1
noncomputable def kL:List (Str×Expr):=((defOf qv "law").get yS).2
theorem Zj:defOf qv "law"=some (dL,kL):=(Option.some_get yS).symm
theorem Zk:pw.theDef "law"=some (dL.params,dL.body,dL.scope):=by kernel_rfl
theorem J7:kwWritten? dL.params.kwonlyargs dL.params.kw_defaults=some kL:=by kernel_rfl
theorem Th{w:World}(e:h=H1 w.params):h.nsMap mainGlobals "law"=some (.ref 239):=by subst e;kernel_rfl
noncomputable def Jc:{t:List Value->Sem Fin// ∀vs,callStub "law" vs=⟨t vs,.builtin "claim.caller" {},default,[]⟩}:=⟨_,λ_=>rfl⟩
theorem rC(W:∀w,NH (h0 w))(B:Mm)(said:tG.wellSaid=true):tG.Holds:=by
 obtain⟨o1,k5⟩:=BG Mn;obtain⟨k5,k6⟩:=BG k5;obtain⟨hsame,hu,ha,hap,hm⟩:=frees_parts k5;refine⟨said,Tg,⟨Tf,o1,rfl⟩,Zi,λw=>⟨(nP.behind (XP:=λ_ _=>True) (λ_ _=>trivial) Te w).1,λs' hs'=>?_⟩⟩;obtain⟨DE,hf,hg0,s,hT,hz,hgens,hg,G,y⟩:=(nP.behind (XP:=λ_ _=>True) (λ_ _=>trivial) Te w).2 s' hs';obtain⟨y1,y2⟩:=Prod.mk.inj y;refine⟨DE,hf,hg0,s,hT,λn hn=>?_,λx hx=>(nomatch hx),λx hx=>(nomatch hx),?_⟩
 .obtain rfl:n="law":=AR hn;exact pinned_of_view hg G Zj Zk J7
 have hgens:s.gens= #[]:=Array.eq_empty_of_size_eq_zero (beq_iff_eq.mp hgens);have hstub:callStub "law"=λvs=>⟨Jc.1 vs,.builtin "claim.caller" {},default,[]⟩:=funext Jc.2;show tG.claim.CallFrom (callStub "law") w _ _ _ s;rw[hstub];refine ClaimW.callFrom_of_specG (c:=tG.claim) hz hgens λargs hpre hlay ord hord=>?_;obtain⟨⟨vs,BX⟩,hlaid⟩:=Option.isSome_iff_exists.mp (layAllW_isSome (P:=w.params) (ord:=ord) G.has args tG.args s (pre_splitW hpre).1);have keeps:=layAllW_keeps _ _ _ hlaid;have hal:=layAllW_rest _ _ _ hlaid;obtain⟨as,hrd,hin,hold⟩:=reads_layAllW hord _ _ _ hlaid hlay BX.heap (λ_ _ e=>e);have L:Laid [] w s BX args vs as:=⟨⟨ord,hord,hlaid⟩,hrd,hin,hold,keeps,hal.1.trans hgens,hal.2.2.1⟩;obtain⟨p,us,ns,rfl,g,hn,cv⟩:=Fk hpre (well_layAllW hord args s _ hlaid _ λ_ _ e=>e);have K:∀b o,(H1 w.params).get? b=some o->BX.heap.get? b=some o:=λb o e=>keeps b o (by rw[y1];exact e);have ht:1<=BX.toks:=Nat.le_trans (by rw[y2];decide) (yR hpre hlaid);have hend:=yP (W w) B K g hn cv (hal.1.trans hgens) ht;have hi:=ident_freeW hu ha hap;have n3:BX.heap.Ns mainGlobals (s.heap.nsMap mainGlobals):=(Heap.Ns.of_isNs hg).keeps keeps;refine⟨_,BX,hlaid,?_⟩;refine wpAny_bind (wpAny_nsGet n3 ?_);rw[Th y1];refine wpAny_bind (wpAny_mono hend (λv t ⟨e1,e2,e3,e4⟩=>wpAny_pure ?_) λ_ _ x=>x.elim);subst e1;have good:GoodWG tG.claim (classAt s.heap) (ExcName.means s.heap) args BX (.ok (.ret (.bool true))) t:=by
  refine⟨.inl ⟨.bool true,.bool true,[],rfl,λ_=>rfl,.bool true,?_,λ_=>⟨List.nodup_nil,λa ha=>(nomatch ha)⟩⟩,e2,e3,e4⟩;show(WShape.has [] (.bool true) .bool&&WTm.holds [] (.eq .res (.lit (.bool true))) {args:=args,res:=some (.bool true),after:=args})=true;have hs:same (.bool true) (.bool true)=true:=by decide+kernel
  exact Bool.and_eq_true_iff.mpr ⟨by kernel_rfl,(show WTm.holds [] (.eq .res (.lit (.bool true))) {args:=args,res:=some (.bool true),after:=args}=same (.bool true) (.bool true)by kernel_rfl).trans hs⟩
 have z:=good.laid (c:=tG.claim) hsame rfl hi L;exact⟨_,rfl,z.1,z.2.1,z.2.2,λq=>⟨namesKept_of hT hg _ keeps e2.old,noTable rfl q⟩⟩
end
end Mine.Internal
end
section
open PySem PySem.Calls PyProof.Rows PySem.W PyProof
namespace Mine.Internal
section
variable{prog:Program}{w:World}{A:Around}{E:Value->Shared->Prop}{s:Shared}
set_option tactic.hygienic true in
theorem rD{it:Addr}{x:Str}{t:Tok}{i c:Nat}{Q:Value->Shared->Prop}(hit:s.heap.IsStrIter it (strIterType x) x t i)(hx:x.cps[i]? =some c)
  (hQ:∀h',h'.IsStrIter it (strIterType x) x t (i+1)->Heap.SameBut it s.heap h'->Q (.str ⟨#[c]⟩ s.toks) {s with heap:=h',toks:=s.toks+1}):
  wpAny (model prog w) A (Builtin.SmallTypes.nextOf (.ref it)) Q E s:=by
 unfold strIterType at hit hQ;split at hit
 .rename_i q;rw[if_pos q]at hQ;exact wpAny_nextOf_ascii_item hit hx hQ
 .rename_i q;rw[if_neg q]at hQ;exact wpAny_nextOf_wide_item hit hx hQ
theorem rE{e it:Addr}{x:Str}{t:Tok}{i c:Nat}{old:Value}{Q:Option Value->Shared->Prop}(he:IsEnum s.heap e it i old)(hit:s.heap.IsStrIter it (strIterType x) x t i)(hx:x.cps[i]? =some c)(hne:e≠it)
  (hQ:∀h',IsEnumOut h' e it ((i:Int)+1) (.str ⟨#[c]⟩ s.toks) s.heap.objs.size->h'.IsStrIter it (strIterType x) x t (i+1)->h'.get? s.heap.objs.size=some {cls:= .type "tuple",data:= .seq #[.int i (s.toks+1),.str ⟨#[c]⟩ s.toks]}->
   (∀b o,b≠e->b≠it->s.heap.get? b=some o->h'.get? b=some o)->Q (some (.ref s.heap.objs.size)) {s with heap:=h',toks:=s.toks+2}):
  wpAny (model prog w) A (pyNext (.ref e)) Q E s:=by
 have hT:s.TypeIs (.ref e) "enumerate":=⟨_,he,rfl⟩;unfold pyNext;refine wpAny_bind (wpAny_attempt (wpAny_callSpecial?_slot (name:=Str.ofString "__next__") hT F.slot_enumerate_next
  (wpAny_call_entry F.slot_enumerate_next hT F.entry_enumerate_next ?_ (F.args_enumerate_next_1 _))))
 obtain⟨hp,g,d,tk,os⟩:=s;show wpAny _ _ (field (.ref e) 2>>=_) _ _ _;refine wpAny_bind (wpAny_field he rfl (x:= .ref it) rfl (wpAny_bind (rD hit hx λRK Oy gC=>?_)));replace gC:Heap.SameBut it hp RK:=gC;have Bi:IsEnum RK e it i old:=(gC.2 e hne).trans he;show wpAny _ _ (field (.ref e) 3>>=_) _ _ ⟨RK,g,d,tk+1,os⟩;refine wpAny_bind (wpAny_field Bi rfl (x:=rawInt i) rfl ?_);show wpAny _ _ (field (.ref e) 4>>=_) _ _ ⟨RK,g,d,tk+1,os⟩;refine wpAny_bind (wpAny_field Bi rfl (x:= .none) rfl ?_);show wpAny _ _ (mkInt i>>=_) _ _ ⟨RK,g,d,tk+1,os⟩;refine wpAny_bind (wpAny_mkInt ?_);show wpAny _ _ (setField (.ref e) 3 (rawInt ((i:Int)+1))>>=_) _ _ ⟨RK,g,d,tk+2,os⟩;refine wpAny_bind (wpAny_setField_rec Bi (by simp) λgB Bj pJ=>?_);replace pJ:Heap.SameBut e RK gB:=pJ;replace Bj:IsEnum gB e it ((i:Int)+1) old:=Bj;show wpAny _ _ (setField (.ref e) 4 .none>>=_) _ _ ⟨gB,g,d,tk+2,os⟩;refine wpAny_bind (wpAny_setField_rec Bj (by exact Nat.le_add_right _ _) λbX Bk pK=>?_);replace pK:Heap.SameBut e gB bX:=pK;replace Bk:IsEnum bX e it ((i:Int)+1) old:=Bk;show wpAny _ _ (newTuple [.int i (tk+1),.str ⟨#[c]⟩ tk]>>=_) _ _ ⟨bX,g,d,tk+2,os⟩;refine wpAny_bind (wpAny_newTuple ?_);have pL:IsEnum (bX.push {cls:= .type "tuple",data:= .seq #[.int i (tk+1),.str ⟨#[c]⟩ tk]}) e it ((i:Int)+1) old:=Heap.get?_push_of_some _ Bk;generalize Jn:bX.push {cls:= .type "tuple",data:= .seq #[.int i (tk+1),.str ⟨#[c]⟩ tk]}=lA at pL;have hsz:bX.objs.size=hp.objs.size:=by rw[pK.1,pJ.1,gC.1]
 have hel:e<hp.objs.size:=Heap.lt_size he;have Vb:lA.get? hp.objs.size=some {cls:= .type "tuple",data:= .seq #[.int i (tk+1),.str ⟨#[c]⟩ tk]}:=by refine Jn▸hsz▸?_;exact Heap.get?_push_size _ rfl
 have k₁:∀b o,b≠e->RK.get? b=some o->lA.get? b=some o:=λb o hb q=>by refine Jn▸?_;exact Heap.get?_push_of_some _ (pK.extBut b o hb (pJ.extBut b o hb q))
 show wpAny _ _ (Builtin.SmallTypes.ownedTupleIsFree (.ref e)>>=_) _ _ ⟨lA,g,d,tk+2,os⟩;refine(Eq.symm hsz)▸?_;refine wpAny_bind ?_;unfold Builtin.SmallTypes.ownedTupleIsFree;refine wpAny_bind (wpAny_field pL rfl (x:= .none) rfl (wpAny_pure ?_));simp only[if_true];refine wpAny_bind (wpAny_rule ?_);refine wpAny_bind (wpAny_field pL rfl (x:=old) rfl ?_);refine wpAny_bind (wpAny_setField_rec pL (by exact Nat.le_refl _) λHo Bl Bm=>?_);replace Bm:Heap.SameBut e lA Ho:=Bm;replace Bl:IsEnum Ho e it ((i:Int)+1) (.str ⟨#[c]⟩ tk):=Bl;show wpAny _ _ (Builtin.SmallTypes.ownedTupleHandOut (.ref e) (.ref hp.objs.size)>>=_) _ _ ⟨Ho,g,d,tk+2,os⟩;refine wpAny_bind ?_;unfold Builtin.SmallTypes.ownedTupleHandOut;refine wpAny_bind (wpAny_setField_rec Bl (by exact Nat.succ_pos _) λOz Bn Bo=>?_);replace Bo:Heap.SameBut e Ho Oz:=Bo;replace Bn:IsEnumOut Oz e it ((i:Int)+1) (.str ⟨#[c]⟩ tk) hp.objs.size:=Bn;refine wpAny_setField_rec Bn (by simp) λPa Vc Bp=>?_;replace Bp:Heap.SameBut e Oz Pa:=Bp;have Pb:∀b o,b≠e->lA.get? b=some o->Pa.get? b=some o:=λb o hb q=>Bp.extBut b o hb (Bo.extBut b o hb (Bm.extBut b o hb q));refine wpAny_bind (wpAny_letGo (wpAny_pure ⟨_,rfl,wpAny_pure (hQ Pa Vc ?_ (Pb _ _ (Nat.ne_of_gt hel) Vb) λb o h1 h2 q=>Pb b o h1 (k₁ b o h1 (gC.extBut b o h2 q)))⟩));obtain⟨oi,q1,q2⟩:=Oy;exact⟨oi,Pb _ _ hne.symm (k₁ _ _ hne.symm q1),q2⟩
end
end Mine.Internal
end
section
open PySem PySem.Calls PyProof.Rows PySem.W PyProof
set_option autoImplicit true
namespace Mine.Internal
variable{w:World}{n:Nat}{A:Around}{e:Env}{as as1:AH}{s s1 s':Shared}{c c1:AC}{Q:AB}
theorem Mo{y z:Str}{u v:Tok}(h0:(u==0||v==0)=false)(huv:(u==v)=false)(hb:NoneBooked s.heap){P:Value->Shared->Prop}(hq:∀b,(b=true->y=z)->P (.bool b) s):wpAny (model pw w) A (compareOp .Is (.str y u) (.str z v)) P no s:=by
 show wpAny _ A (do return .bool (<-isSame (.str y u) (.str z v))) P no s;by_cases q:y=z
 .exact wpAny_bind (wpAny_isSame_str h0 hb λb=>wpAny_pure (hq b λ_=>q))
 .rw[isSame_str_other y z u v h0 huv (beq_eq_false_iff_ne.mpr q)];exact wpAny_bind (wpAny_pure (wpAny_pure (hq false λz=>nomatch z)))
theorem aP(K:∀b o,(h0 w).get? b=some o->s.heap.get? b=some o):NoneBooked s.heap:=by
 have x:(h0 w).toHeap.nsMap cStatics sharingNotToldKey=none:=by kernel_rfl
 obtain⟨o,es,ep,ho,r⟩:=Heap.Ns.of_isNs (Ja w);exact⟨_,⟨o,es,ep,K _ _ ho,r⟩,x⟩
theorem Mp(hs:St (h0 w) c e as s.heap)(hr:AL A e n){x a b:Expr}{W:Sem Value}(hx:TR x=some (a,b)){i j:Str}{p q:Pos}(ha:a= .Name i p)(hb:b= .Name j q)(oi:(i==("__debug__":Str))=false/\(i==("__classdict__":Str))=false)(oj:(j==("__debug__":Str))=false/\(j==("__classdict__":Str))=false)
  {y z:Nat}{u v:Tok}(li:DB c i=some (.raw (.str ⟨#[y]⟩ u)))(lj:DB c j=some (.raw (.str ⟨#[z]⟩ v)))(h0':(u==0||v==0)=false)(huv:(u==v)=false):
  wpAny (model pw (h0 w).w) A (isTrue x e W) (EJ (h0 w) e c as s λr c'=>r= .t (decide (y=z))/\c'=c) no s:=by
 obtain⟨i',p1,q1,j',p2,q2,r,r',t,e1,rfl⟩:=OP hx;obtain⟨ea,eb⟩:=Prod.mk.inj e1;obtain⟨rfl,_⟩:=PySem.Expr.Name.inj (ha.symm.trans ea);obtain⟨rfl,_⟩:=PySem.Expr.Name.inj (hb.symm.trans eb);have T:=ED w;have ni:RO c i (.raw (.str ⟨#[y]⟩ u)):=⟨oi.1,oi.2,li⟩;have nj:RO c j (.raw (.str ⟨#[z]⟩ v)):=⟨oj.1,oj.2,lj⟩;refine isTrue_or (wpAny_isTrue_Compare1 (Vg T hs ni nj λas2 s2 w1 w2 g v1 v2=>?_) rfl);obtain rfl:w1= .str ⟨#[y]⟩ u:=v1;obtain rfl:w2= .str ⟨#[z]⟩ v:=v2;refine Mo h0' huv (aP (g.st.old T)) λbb hbb=>wpAny_truthy_bool ?_;cases bb with
 |true=>
  have:y=z:=by have:=hbb rfl;cases this;rfl
  exact⟨_,as2,g,by rw[decide_eq_true this],rfl⟩
 |false=>
  refine isTrue_or (wpAny_isTrue_Compare1 (Vg T g.st ni nj λas4 s4 w3 w4 g4 v3 v4=>?_) rfl);obtain rfl:w3= .str ⟨#[y]⟩ u:=v3;obtain rfl:w4= .str ⟨#[z]⟩ v:=v4;have g':=g.trans g4 g.len;have hq:VX (KQ c.st (.str [y])) (KQ c.st (.str [z]))=some (decide (y=z)):=by show some (decide ([y]=[z]))=_;simp
  refine QO T g4.st hr (op:= .Eq) (a:= .str [y]) (b:= .str [z]) (z:=decide (y=z)) ⟨_,rfl⟩ ⟨_,rfl⟩ hq λt ht=>wpAny_truthy_bool ?_;have fin:∀r,r=decide (y=z)->EJ (h0 w) e c as s (λr c'=>r= .t (decide (y=z))/\c'=c) r {s4 with toks:=t}:=λr hr=>by subst hr;exact⟨c,as4,g'.trans (g4.st.toks t ht) g'.len,rfl,rfl⟩
  cases hz:decide (y=z)with
  |true=>have f:=fin true hz.symm;rw[hz]at f;exact f
  |false=>have f:=fin false hz.symm;rw[hz]at f;exact isTrue_or_nil f
end Mine.Internal
end
section
open PySem PySem.Calls PyProof.Rows PySem.W PyProof
set_option autoImplicit true
namespace Mine.Internal
variable{w:World}{n:Nat}{A:Around}{e:Env}{as as1:AH}{s s1 s2 s':Shared}{c c1:AC}{Q:AB}{AA:AP}
variable{st:List AO}{L L0:List (Str×AV)}{lo i y z lo0 b:Nat}{x:List Nat}{u v t:Tok}{P:Flow->Shared->Prop}{X:Value->Shared->Prop}{h:Heap}
noncomputable def XQ:FD:=KF (DA 3)
noncomputable def Zl(s:Stmt):Expr×Expr×List Stmt×List Stmt×Pos:=(Cc s).getD default
noncomputable def SK:=Zl (XQ.body.getD 0 default)
noncomputable def J8(s:Stmt):Expr×Pos:=((Ce s).map λt=>(t.1,t.2.2.2)).getD default
noncomputable def Zm:=J8 (SK.2.2.1.getD 0 default)
noncomputable def Zn(s:Stmt):Pos×Pos:=((Ce s).bind λt=>(one t.2.1).bind λr=>(Jw r).bind λr=>(r.1.bind JT).map λn=>(n.2,r.2)).getD default
noncomputable def D0:=Zn (SK.2.2.1.getD 0 default)
theorem yT:XQ.body=[.For SK.1 SK.2.1 SK.2.2.1 SK.2.2.2.1 SK.2.2.2.2]:=by kernel_rfl
theorem Ti:SK.2.2.1=[.If Zm.1 [.Return (some (.Name "i" D0.1)) D0.2] [] Zm.2]:=by kernel_rfl
theorem Fl:∃p q,TR Zm.1=some (.Name "j" p,.Name "b" q):=⟨⟨12,11,12,12⟩,⟨12,16,12,17⟩,by kernel_rfl⟩
noncomputable abbrev QC(st:List AO)(L:List (Str×AV))(lo:Nat):AC:=⟨⟨XQ.scope,L,[]⟩,st,lo⟩
theorem ST{x:Str}(h:XQ.scope.names.lookup x=some .local):DB (QC st L lo) x=L.lookup x:=by unfold DB;rw[show(QC st L lo).fr.scope.names.lookup x=some .local from h];rfl
theorem Zo:XQ.scope.names.lookup ("b":Str)=some NameKind.local:=by kernel_rfl
theorem Zp:XQ.scope.names.lookup ("i":Str)=some NameKind.local:=by kernel_rfl
theorem Zq:XQ.scope.names.lookup ("j":Str)=some NameKind.local:=by kernel_rfl
noncomputable abbrev tH(i:Nat)(y:Nat)(u:Tok)(L:List (Str×AV)):List (Str×AV):=HW "j" (.raw (.str ⟨#[y]⟩ u)) (HW "i" (.int i) L)
theorem Tj:(tH i y u L).lookup ("j":Str)=some (.raw (.str ⟨#[y]⟩ u)):=by rw[CE,if_pos rfl]
theorem Tk:(tH i y u L).lookup ("i":Str)=some (.int i):=by rw[CE,if_neg (by decide),CE,if_pos rfl]
theorem Jd(h:L.lookup ("b":Str)=some (.raw (.str ⟨#[z]⟩ v))):(tH i y u L).lookup ("b":Str)=some (.raw (.str ⟨#[z]⟩ v)):=by rw[CE,if_neg (by decide),CE,if_neg (by decide),h]
theorem Fm(hs:St (h0 w) (QC st (tH i y u L) lo) e as s.heap)(hr:AL A e n)(hb:L.lookup ("b":Str)=some (.raw (.str ⟨#[z]⟩ v)))(h0':(u==0||v==0)=false)(huv:(u==v)=false):
  wpAny (model pw (h0 w).w) A (execs SK.2.2.1 e) (CP (h0 w) e (QC st (tH i y u L) lo) as s (λr c'=>r= .f (if y=z then .ret (.int i)else .next)/\c'=QC st (tH i y u L) lo)) no s:=by
 rw[Ti];obtain⟨p,q,ht⟩:=Fl;have hnx:∀{s':Shared} {c' as'},Go (h0 w) e as.pl.length (QC st (tH i y u L) lo) as s c' as' s'->c'=QC st (tH i y u L) lo->∀f,f= .next->y≠z->CP (h0 w) e (QC st (tH i y u L) lo) as s (λr c'=>r= .f (if y=z then .ret (.int i)else .next)/\c'=QC st (tH i y u L) lo) f s':=λg hc f hf hyz=>
  ⟨_,_,.next,g.le hs.low,hf,by rw[if_neg hyz],hc⟩
 refine wpAny_execs_cons (wpAny_If (wpAny_mono (Mp hs hr ht rfl rfl (by decide) (by decide) ((ST Zq).trans Tj) ((ST Zo).trans (Jd hb)) h0' huv) (λx s1 ⟨c1,as1,g,e1,e2⟩=>?_) λ_ _ x=>x.elim));subst e2;by_cases hyz:y=z
 .simp only[decide_eq_true hyz]at e1;(obtain rfl:=(Mine.Internal.Res.t.inj e1);clear e1);refine wpAny_execs_cons (wpAny_Return_some (wpAny_mono (CL (ED w) g.st (by decide) (by decide) ((ST Zp).trans Tk) (Q:=λr c'=>r= .v (.int i)/\c'=QC st (tH i y u L) lo) ⟨rfl,rfl⟩) (λv s2 ⟨c2,as2,a,g2,cv,e3,e4⟩=>?_) λ_ _ x=>x.elim));(obtain rfl:=(Mine.Internal.Res.v.inj e3);clear e3);exact⟨c2,as2,.ret (.int i),(g.trans g2 g.len).le hs.low,⟨v,rfl,cv⟩,by rw[if_pos hyz],e4⟩
 .simp only[decide_eq_false hyz]at e1;(obtain rfl:=(Mine.Internal.Res.t.inj e1);clear e1);exact wpAny_execs_nil (wpAny_execs_nil (hnx g rfl _ rfl hyz))
theorem iU(hs1:St AA c1 e as1 s1.heap){Hs:List Nat}(fr:∀b∈Hs,s1.heap.get? b=none)(live:∀b∈Hs,∃o,s2.heap.get? b=some o)(hk:∀a o,s1.heap.get? a=some o->s2.heap.get? a=some o)(sh:Sh s1 s2):
  KU AA e c1 as1 s1 Hs (c1.rel c1.st.length) as1.pl s2:=by
 obtain⟨st2,_⟩:=(hs1.rel (k:=as1.pl.length) (Nat.le_refl _)).shift (H:=Hs++as1.hid) (h':=s2.heap) (λa o e1 _=>hk a o e1) (λa ha=>by
  rcases HV ha with q|q
  .have f:=hs1.freshN (fr a q);refine⟨live a q,f.1,f.2.2,?_,f.2.1⟩;cases z:AA.get? a with
   |none=>rfl
   |some o=>have:=hs1.keep a o z f.2.1;rw[fr a q]at this;exact BJ this
  .obtain⟨⟨o,ho⟩,r⟩:=hs1.hid a q;exact⟨⟨o,hk a o ho⟩,r⟩) (ZR hs1 fr) (hs1.tabx.all hk)
 exact⟨by refine hs1.len▸?_;exact st2,⟨rfl,Nat.le_refl _,λa o e1 _ _ _=>hk a o e1,λa o e1=>⟨o,hk a o e1⟩,λ_ h1 h2=>absurd h1 h2⟩,sh⟩
theorem yU{r:List Nat}:CQ z (y::r)=if y=z then some 0 else(CQ z r).map (· +1):=rfl
theorem yV:CQ z x=none->z∉x:=by
 induction x with
 |nil=>exactλ_ h=>nomatch h
 |cons y r ih=>
  intro h hm;by_cases q:y=z
  .exact tE ((if_pos q).symm.trans h)
  .rcases AN hm with e|hm
   .exact q e.symm
   .exact ih (Option.map_eq_none_iff.mp ((if_neg q).symm.trans h)) hm
theorem Mq:∀{i:Nat},x[i]? =some z->(∀j,j<i->x[j]? ≠some z)->CQ z x=some i:=by
 induction x with
 |nil=>exactλh=>BJ h
 |cons y r ih=>
  intro i h k;cases i with
  |zero=>exact if_pos (sj h)
  |succ i=>exact(if_neg λq=>k 0 (Nat.succ_pos _) (congrArg some q)).trans (congrArg (Option.map (· +1)) (ih h λj hj=>k (j+1) (Nat.succ_lt_succ hj)))
theorem aQ:∀{i:Nat},CQ z x=some i->x[i]? =some z:=by
 induction x with
 |nil=>exactλh=>BJ h
 |cons y r ih=>
  intro i h;rcases KE (yU.symm.trans h)with⟨q,h⟩|⟨_,h⟩
  .exact sj h▸congrArg some q
  .obtain⟨j,h1,rfl⟩:=AZ h;exact ih h1
theorem Mr(h:∀j,j<x.length->x[j]? ≠some z):CQ z x=none:=by
 cases q:CQ z x with
 |none=>rfl
 |some i=>exact absurd (aQ q) (h i (EC (aQ q)))
theorem Ms:∃es k p,SK.1= .Tuple es k p:=⟨_,_,_,show SK.1= .Tuple [.Name "i" ⟨11,8,11,9⟩,.Name "j" ⟨11,11,11,12⟩] 0 ⟨11,8,11,12⟩by kernel_rfl⟩
theorem Fn:LC (QC st L lo) SK.1 (.ftup [.int i,.raw (.str ⟨#[y]⟩ u)])=some (QC st (tH i y u L) lo):=by kernel_rfl
theorem Fo(hr:AL A e n)(hs1:St (h0 w) (QC st L0 lo0) e as1 s1.heap)(hb:L0.lookup ("b":Str)=some (.raw (.str ⟨#[z]⟩ v)))(hv:1<=v)(hv':v<s1.toks)
  {en it:Nat}(hne:en≠it)(fr:∀b∈[en,it],s1.heap.get? b=none)(hk:∀a o,s1.heap.get? a=some o->s2.heap.get? a=some o)(sh:Sh s1 s2)(he:IsEnum s2.heap en it 0 .none)(hi:s2.heap.IsStrIter it (strIterType ⟨x.toArray⟩) ⟨x.toArray⟩ t 0)
  {R:Result->Shared->Prop}(k:∀f s3,CP (h0 w) e (QC st L0 lo0) as1 s1 (λr c'=>∃i,CQ z x=some i/\r= .f (.ret (.int i))/\c'.st=st) f s3->R (.ok f) s3)
  (kn:CQ z x=none->∀c' as' s3,Go (h0 w) e as1.pl.length (QC st L0 lo0) as1 s1 c' as' s3->c'.st=st->c'.fr.scope=XQ.scope->wpAny (model pw (h0 w).w) A (execs SK.2.2.2.1 e) (λf s4=>R (.ok f) s4) (notedBy (model pw (h0 w).w) A e λx s'=>R (.error x) s') s3):
  codeAny (model pw (h0 w).w) A (.forLoop SK.1 (.ref en) SK.2.2.1 SK.2.2.2.1 e) R s2:=by
 have no':∀{x:Value} {s:Shared} {E:Value->Shared->Prop},no x s->E x s:=λx=>x.elim;have hl1:lo0<=as1.pl.length:=hs1.low;have hlen:as1.pl.length=st.length:=hs1.len;refine codeAny_forLoop_any (λm s=>∃i L pl old,i<=x.length/\m=x.length-i/\(∀j,j<i->x[j]? ≠some z)/\L.lookup ("b":Str)=some (.raw (.str ⟨#[z]⟩ v))/\KU (h0 w) e (QC st L0 lo0) as1 s1 [en,it] (QC st L st.length) pl s/\IsEnum s.heap en it i old/\
  s.heap.IsStrIter it (strIterType ⟨x.toArray⟩) ⟨x.toArray⟩ t i) ?_ x.length ⟨0,L0,as1.pl,_,Nat.zero_le _,rfl,λj hj=>absurd hj (Nat.not_lt_zero _),hb,iU hs1 fr (λb hb=>?_) hk sh,he,hi⟩
 .rintro m s ⟨i,L,pl,old,hle,rfl,hno,hL,tu,hen,hit⟩;by_cases hi':i=x.length
  .subst hi';have fin:∀h',Heap.ExtBut it s.heap h'->wpAny (model pw (h0 w).w) A (execs SK.2.2.2.1 e) (λf s4=>R (.ok f) s4) (notedBy (model pw (h0 w).w) A e λx s'=>R (.error x) s') {s with heap:=h'}:=λh' hx=>by
    have hk3:∀b o,b∉[en,it]->s.heap.get? b=some o->h'.get? b=some o:=λb o hb q=>hx b o (λz=>hb (z▸ .tail _ (.head _))) q;have old:∀a∈as1.hid,∃o,h'.get? a=some o:=λa ha=>by obtain⟨⟨o,ho⟩,_⟩:=hs1.hid a ha;obtain⟨⟨o',ho'⟩,_⟩:=tu.st.hid a (List.mem_append_right _ ha);exact⟨o',hk3 a o' (λq=>by replace ho:=(fr a q)▸ho;exact BJ ho) ho'⟩
    obtain⟨st3,_⟩:=tu.st.shift (H:=as1.hid) (h':=h') (λa o e1 h1=>hk3 a o (λq=>h1 (List.mem_append_left _ q)) e1) (λa ha=>⟨old a ha,(tu.st.hid a (List.mem_append_right _ ha)).2⟩) (λa o _ h1 _ q=>h1.2.1 (List.mem_append_right _ q)) (tu.st.tabx.but (hs1.tabx.off fr) hk3);have ev3:QB as1.pl.length e.locals as1.pl s1.heap pl h':=⟨tu.evo.pre,tu.evo.kle,λa o e1 e2 e3 e4=>hk3 a o (λq=>by replace e1:=(fr a q)▸e1;exact BJ e1) (tu.evo.same a o e1 e2 e3 e4),λa o e1=>(let ⟨o',e2⟩:=tu.evo.alive a o e1;⟨o',hk3 a o' (λq=>by replace e1:=(fr a q)▸e1;exact BJ e1) e2⟩),tu.evo.new⟩;have g3:Go (h0 w) e as1.pl.length (QC st L0 lo0) as1 s1 (QC st L lo0) ⟨pl,as1.hid⟩ {s with heap:=h'}:=⟨St.rel (s:={s with heap:=h'}) st3 (Nat.le_trans hl1 tu.evo.kle),ev3,rfl,tu.sh.trans (Sh.heap s h' s.toks),rfl⟩;exact kn (Mr hno) _ _ _ g3 rfl rfl
   unfold strIterType at hit;have hxl:x.length=(⟨x.toArray⟩:Str).cps.size:=by rfl
   split at hit
   .exact wpAny_pyNext_enum_endD (Draws.strAscii (prog:=pw) (w:=(h0 w).w) (A:=A.in1) hr.quiet it ⟨x.toArray⟩ t) hen (hxl▸hit) fin
   .exact wpAny_pyNext_enum_endD (Draws.strWide (prog:=pw) (w:=(h0 w).w) (A:=A.in1) hr.quiet it ⟨x.toArray⟩ t) hen (hxl▸hit) fin
  .have hlt:i<x.length:=by exact Nat.lt_of_le_of_ne hle hi'
   refine rE hen hit (c:=x[i]) (by simp[hlt]) hne λh' hout hit' htup hk'=>?_;have hgo:∀{Q:Unit->Shared->Prop} {E:Value->Shared->Prop} {s':Shared},IsEnumOut s'.heap en it ((i:Int)+1) (.str ⟨#[x[i]]⟩ s.toks) s.heap.objs.size->(∀h'',IsEnum h'' en it ((i:Int)+1) (.str ⟨#[x[i]]⟩ s.toks)->Heap.SameBut en s'.heap h''->Q () {s' with heap:=h''})->
     wpAny (model pw (h0 w).w) A (letOwnedTupleGo SK.1 (.ref en) (.ref s.heap.objs.size)) Q E s':=λa b=>by
    obtain⟨es,k,p,q⟩:=Ms;rw[q];exact wpAny_letOwnedTupleGo_enum a b
   refine hgo hout λh'' hen' hs''=>?_;have hk3:∀b o,b∉[en,it]->s.heap.get? b=some o->h''.get? b=some o:=λb o hb q=>by have b1:b≠en:=λz=>hb (z▸ .head _);exact(hs''.2 b b1).trans (hk' b o b1 (λz=>hb (z▸ .tail _ (.head _))) q)
   have hit2:h''.IsStrIter it (strIterType ⟨x.toArray⟩) ⟨x.toArray⟩ t (i+1):=let ⟨o,q1,q2⟩:=hit';⟨o,(hs''.2 it hne.symm).trans q1,q2⟩;have tu3:KU (h0 w) e (QC st L0 lo0) as1 s1 [en,it] (QC st L st.length) pl {s with heap:=h'',toks:=s.toks+2}:=tu.moved hs1 fr hk3 (Sh.heap s h'' (s.toks+2) (by simp+arith)) λb hb=>by
    rcases AN hb with rfl|hb
    .exact⟨_,hen'⟩
    .obtain rfl:=AR hb;obtain⟨o,ho,_⟩:=hit2;exact⟨o,ho⟩
   have fN:=tu.st.fresh (Nat.le_refl s.heap.objs.size);have cv:CV h'' ⟨pl,[en,it]++as1.hid⟩ (.ftup [.int i,.raw (.str ⟨#[x[i]]⟩ s.toks)]) (.ref s.heap.objs.size):=by
    refine⟨_,[.int i (s.toks+1),.str ⟨#[x[i]]⟩ s.toks],rfl,⟨fN.1,λq=>?_,True.intro⟩,⟨_,(hs''.2 _ (Nat.ne_of_gt (Heap.lt_size hen))).trans htup,rfl,_,rfl⟩,?_⟩
    .obtain⟨⟨o,ho⟩,_⟩:=tu.st.hid _ q;exact absurd (Heap.lt_size ho) (Nat.lt_irrefl _)
    .exact⟨_,_,rfl,⟨_,rfl⟩,_,_,rfl,rfl,rfl⟩
   have tk1:s1.toks<=s.toks:=tu.sh.tk;have tk2:v<s.toks:=Nat.lt_of_lt_of_le hv' tk1;have u0:(s.toks==0||v==0)=false:=by have h1:(s.toks==0)=false:=beq_eq_false_iff_ne.mpr (Nat.ne_of_gt (Nat.zero_lt_of_lt tk2));have h2:(v==0)=false:=beq_eq_false_iff_ne.mpr (Nat.ne_of_gt hv);rw[h1,h2];rfl
   have u1:(s.toks==v)=false:=beq_eq_false_iff_ne.mpr (Nat.ne_of_gt tk2);refine wpAny_mono (LM tu3.st hr cv Fn (f:=λ_ GJ=>_) λs5 g5=>?_) (λ_ _ x=>x) λ_ _ x=>no' x;obtain⟨tu5,e5⟩:=tu3.step g5 tu3.evo.kle;refine wpAny_mono (Fm g5.st hr hL u0 u1) (λf s6 ⟨c4,as4,af,g6,cf,e1,e2⟩=>?_) λ_ _ x=>no' x;obtain⟨tu6,e6⟩:=tu5.step g6 (by show as1.pl.length<=st.length;exact(Nat.le_of_eq hlen));subst e2;by_cases hyz:x[i]=z
   .simp only[if_pos hyz]at e1;(obtain rfl:=(Mine.Internal.Res.f.inj e1);clear e1);obtain⟨vv,rfl,cv'⟩:=cf;obtain⟨go,M6⟩:=tu6.out hl1;rw[e6]at cv';exact k (.ret vv) s6 ⟨_,_,.ret (.int i),go.le hl1,⟨vv,rfl,CV.mono M6 _ _ cv'⟩,i,Mq (by rw[<-hyz];exact List.getElem?_eq_getElem hlt) hno,rfl,rfl⟩
   .simp only[if_neg hyz]at e1;(obtain rfl:=(Mine.Internal.Res.f.inj e1);clear e1);subst cf;have same:∀b∈[en,it],∀o,h''.get? b=some o->s6.heap.get? b=some o:=λb hb o ho=>by obtain⟨_,q2,q3,_,q5⟩:=tu3.st.hid b (List.mem_append_left _ hb);have h5:=g5.evo.same b o ho q2 q3 q5;obtain⟨_,r2,r3,_,r5⟩:=tu5.st.hid b (List.mem_append_left _ hb);exact g6.evo.same b o h5 (by rw[e5];exact r2) r3 r5
    refine⟨x.length-(i+1),by exact Nat.sub_lt_sub_left hlt (Nat.lt_succ_self _),i+1,_,_,_,by exact hlt,rfl,λj hj=>?_,Jd hL,tu6,same en (.head _) _ (by exact hen'),let ⟨o,q1,q2⟩:=hit2;⟨o,same it (.tail _ (.head _)) _ q1,q2⟩⟩;rcases Nat.lt_succ_iff_lt_or_eq.mp hj with h|rfl
    .exact hno j h
    .rw[List.getElem?_eq_getElem hlt];exactλq=>hyz (Option.some.inj q)
 .rcases AN hb with rfl|hb
  .exact⟨_,he⟩
  .obtain rfl:=AR hb;obtain⟨o,ho,_⟩:=hi;exact⟨o,ho⟩
theorem nQ:SK.2.1= .Call (.Name "enumerate" ⟨11,16,11,25⟩) [.Name "a" ⟨11,26,11,27⟩] [] ⟨11,16,11,28⟩:=by kernel_rfl
theorem Zr:XQ.scope.names.lookup ("a":Str)=some NameKind.local:=by kernel_rfl
theorem Tl:XQ.scope.names.lookup ("enumerate":Str)=some NameKind.globalImplicit:=by kernel_rfl
theorem yW(hr:AL A e n)(hs:St (h0 w) (QC st L0 lo0) e as s.heap)(ha:L0.lookup ("a":Str)=some (.str x))(hb:L0.lookup ("b":Str)=some (.raw (.str ⟨#[z]⟩ v)))(hv:1<=v)(hv':v<s.toks)
  (k:∀f s3,CP (h0 w) e (QC st L0 lo0) as s (λr c'=>∃i,CQ z x=some i/\r= .f (.ret (.int i))/\c'.st=st) f s3->P f s3)
  (kn:CQ z x=none->∀c' as' s3,Go (h0 w) e as.pl.length (QC st L0 lo0) as s c' as' s3->c'.st=st->c'.fr.scope=XQ.scope->wpAny (model pw (h0 w).w) A (execs SK.2.2.2.1 e) P (notedBy (model pw (h0 w).w) A e λx s'=>cameBackBy (model pw (h0 w).w) A e X x s') s3):
  wpAny (model pw (h0 w).w) A (execs XQ.body e) P X s:=by
 have T:=ED w;rw[yT];have no':∀{x:Value} {s:Shared} {E:Value->Shared->Prop},no x s->E x s:=λx=>x.elim;refine wpAny_execs_cons (wpAny_For ?_ (GH (by rw[nQ];rfl)));rw[nQ];refine wpAny_mono (FR T hs (F:= .typ "enumerate") (by decide) (by unfold DB;rw[show(QC st L0 lo0).fr.scope.names.lookup ("enumerate":Str)=some .globalImplicit from Tl];show JA.lookup ("enumerate":Str)=some (.typ "enumerate");kernel_rfl) (by rfl) (P:=λx BX=>wpAny (model pw (h0 w).w) A (pyIter x) (λit GJ=>
   codeAny (model pw (h0 w).w) A (.forLoop SK.1 it SK.2.2.1 SK.2.2.2.1 e) (λr s'=>match r with
    | .ok f=>(match f with| .next=>wpAny (model pw (h0 w).w) A (execs [] e) P X s'|f=>P f s')
    | .error x=>cameBackBy (model pw (h0 w).w) A e X x s') GJ) X BX) λv0 s0 g0 cv=>?_) (λ_ _ x=>x) λ_ _ x=>no' x
 subst cv;refine dW rfl (wpAny_mono (CL T g0.st (by decide) (by decide) ((ST Zr).trans ha) (Q:=λr c'=>r= .v (.str x)/\c'=QC st L0 lo0) ⟨rfl,rfl⟩) (λv1 s1 ⟨c1,as1,a,g1,cv1,e3,e4⟩=>?_) λ_ _ x=>x);subst e4;(obtain rfl:=(Mine.Internal.Res.v.inj e3);clear e3);obtain⟨tk,rfl⟩:=cv1;have g:=g0.trans g1 g0.len;refine⟨IL,call_enumerate_str λh' he hi hz hkk=>wpAny_pyIter_enum he ?_⟩;have sh1:Sh s1 {s1 with heap:=h'}:=Sh.heap s1 h' s1.toks;refine Fo hr g1.st hb hv (Nat.lt_of_lt_of_le hv' g.sh.tk) (by exact Nat.succ_ne_self _) (λb hb=>?_) hkk sh1 he hi (λf s3 x=>?_) λh c' as' s3 g3 q1 q2=>?_
 .have:s1.heap.objs.size<=b:=by
   rcases AN hb with q|q
   .exact Nat.le_trans (Nat.le_add_right _ _) (Nat.le_of_eq q.symm)
   .have:=AR q;exact(Nat.le_of_eq this.symm)
  exact(IA.of this).none
 .have x':=CP.after hs.low g x;obtain⟨c2,as2,af,g2,cf,i,q1,q2,q3⟩:=x;(replace q2:=(Mine.Internal.Res.f.inj q2);subst q2);obtain⟨vv,rfl,cvv⟩:=cf;exact k _ _ x'
 .have gg:=g.trans g3 g.len;refine wpAny_mono (kn h c' as' s3 gg q1 q2) (λf s4 q=>?_) λ_ _ x=>x;cases f with
  |next=>exact wpAny_execs_nil q
  |_=>exact q
theorem eM{b:AV}{k:Nat}:DS XQ [] [.str x,b] st k=some (QC st [("a",.str x),("b",b)] k):=by kernel_rfl
theorem eN{ch:Nat}(hs:St (h0 w) c e as s.heap)(hr:AL A e 1)(hu:1<=u)(hu':u<s.toks)(hi:CQ ch x=some i)(q:Q (.v (.int i)) c):
  wpAny (model pw (h0 w).w) A (PySem.call (.ref 35) [.str ⟨x.toArray⟩ t,.str ⟨#[ch]⟩ u]) (AI (h0 w) e c as s Q) no s:=by
 have T:=ED w;refine OT T hs hr.call (LL T hs (a:=35) (fd:=XQ) rfl) (IG (a:=35) rfl) (acl:=[]) (λx l q=>by exact BJ q) (vs:=[.str x,.raw (.str ⟨#[ch]⟩ u)]) (by rw[CVs];exact⟨_,_,rfl,⟨t,rfl⟩,by rw[CVs];exact⟨_,_,rfl,rfl,by rfl⟩⟩) eM
  (K:=λaf c2=>af= .ret (.int i)/\c2.st=c.st) (λE as1 s1 _ st1 htk hr1=>?_) λc2 as2 s2 af v g ⟨k1,k2⟩ cv=>?_
 .refine yW hr1 st1 (x:=x) (z:=ch) (v:=u) rfl rfl hu (Nat.lt_of_lt_of_le hu' htk) (λf s3 ⟨c2,as2,af,g,cf,j,e1,e2,e3⟩=>?_) λh=>by rw[hi]at h;exact tE h
  simp only[hi]at e1;(obtain rfl:=sj e1;clear e1);(obtain rfl:=(Mine.Internal.Res.f.inj e2);clear e2);exact⟨c2,as2,_,g,cf,rfl,e3⟩
 .subst k1;simp only[k2]at g;exact⟨c,as2,_,g,cv,q⟩
noncomputable def yX(h:Heap)(a:Nat):Heap:=h.update a λo=>{o with data:= .freed}
theorem rF(h:Heap)(a:Nat):(yX h a).get? a=none:=by
 cases q:(yX h a).get? a with
 |none=>rfl
 |some o=>obtain⟨e1,e2⟩:=Heap.get?_some_iff.mp q;obtain⟨objs,l⟩:=h;simp only[yX,Heap.update,Array.getElem?_modify,if_true]at e1;obtain⟨o',_,rfl⟩:=AZ e1;exact tJ e2
theorem nR(h:Heap){a:Nat}(q:a≠b):(yX h a).get? b=h.get? b:=Heap.get?_update_other _ _ q
noncomputable def yY(h:Heap):List Nat->Heap
 |[]=>h
 |a::r=>yX (yY h r) a
theorem aR(h:Heap){b:Nat}:∀{l:List Nat},b∈l->(yY h l).get? b=none
 |a::r,q=>by
  by_cases z:a=b
  .subst z;exact rF _ _
  .exact(nR _ z).trans (aR h ((AN q).resolve_left λy=>z y.symm))
theorem UN(h:Heap){b:Nat}:∀{l:List Nat},b∉l->(yY h l).get? b=h.get? b
 |[],_=>rfl
 |a::r,q=>(nR _ λz=>q (by subst z;exact .head _)).trans (UN h λy=>q (.tail _ y))
theorem iV(h:Heap)(l:List Nat):(yY h l).StaysIn h:=λb o q=>by
 by_cases z:b∈l
 .rw[aR h z]at q;exact BJ q
 .rwa[UN h z]at q
noncomputable def rG(h:Heap)(E:Env):Prop:=E.frame=some E.locals/\E.scope.kind= .function/\∃o,h.get? E.locals=some o/\∀vs,o.data≠ .fields vs
theorem rG.of{E:Env}{m:Str->Option Value}(h1:E.frame=some E.locals)(h2:E.scope.kind= .function)(n:h.Ns E.locals m):rG h E:=by obtain⟨o,es,ep,ho,hd,_⟩:=n;exact⟨h1,h2,o,ho,λvs q=>by rw[hd]at q;cases q⟩
theorem XR{h base:Heap}:∀{l:List Env},(∀E∈l,rG h E/\base.get? E.locals=none)->h.FunFrames base l
 |[],_=>trivial
 |E::r,q=>by obtain⟨⟨h1,h2,o,h3,h4⟩,h5⟩:=q E (.head _);exact⟨by rw[h2];decide,⟨_,o,h1,h5,h3,h4⟩,XR λy hy=>q y (.tail _ hy)⟩
section
variable{M:Model}{E:Value->Shared->Prop}
theorem UO{base:Heap}{l:List Env}{x L:Addr}{cls a0 fl:Value}{P:Unit->Shared->Prop}(hkb:base.StaysIn s.heap)(hl:s.heap.FunFrames base l)(ht:s.heap.TracedAtW base x cls a0 fl)
  (h:∀h',base.StaysIn h'->h'.FunFrames base l->h'.TracedAtW base x cls a0 (rawInt L)->s.heap.UpToSlots h'->P () {s with heap:=h'}):wpAny M A (setFlight (.ref x) (some L)) P E s:=by
 obtain⟨ox,vs,T,oT,ts,hx,hc,hd,h1,hn,hne,hT,hdT,h3⟩:=ht;have sz:3<ts.size:=(Array.getElem?_eq_some_iff.mp h3).1;have ot:∀b,b≠T->(s.heap.update T (Obj.mapFields (·.setIfInBounds 3 (rawInt L)))).get? b=s.heap.get? b:=λb hb=>Heap.get?_update_other _ _ (Ne.symm hb);have nr:∀b o,s.heap.get? b=some o->(∀vs,o.data≠ .fields vs)->b≠T:=λb o hb hf q=>by replace hb:=hT▸q▸hb;(replace hb:=sj hb;subst hb);exact hf ts hdT
 unfold setFlight;refine wpAny_bind (wpAny_field hx hd h1 ?_);rw[if_pos (show(Value.ref T !=Value.none)=true from by rfl)];refine wpAny_setField hT hdT sz (h _ (λb o hb=>(ot b λq=>by rw[q,hn]at hb;exact BJ hb).trans (hkb b o hb)) (hl.of_keeps λb o hb hf=>⟨o,(ot b (nr b o hb hf)).trans hb,rfl⟩) ?_ λb o hb hf=>⟨o.slots,(ot b (nr b o hb hf)).trans hb⟩);exact⟨ox,vs,T,_,_,(ot x (Ne.symm hne)).trans hx,hc,hd,h1,hn,hne,Heap.get?_update_self _ hT (Obj.isFreed_of_fields (Obj.data_mapFields hdT _)),Obj.data_mapFields hdT _,by simp[sz]⟩
theorem UP{base:Heap}{env:Env}{outer:List Env}{L x:Addr}{cls:Value}{args:List Value}{P:Unit->Shared->Prop}(hfr:A.frames=some (env::outer))(hf:env.frame=some L)(hkb:base.StaysIn h)(hl:h.FunFrames base (env::outer))(hx:Heap.MadeExcOf h s.heap x cls args)
  (k:∀h' a0,Heap.HeldW base (env::outer) x cls a0 L h'->s.heap.UpToSlots h'->P () {s with heap:=h'}):wpAny M A (noteFrame (.ref x) env) P E s:=by
 obtain⟨t,he,htn,ht⟩:=hx.there;have fresh:base.get? x=none:=by
  cases q:base.get? x with
  |none=>rfl
  |some o=>have:=hkb _ _ q;rw[hx.new]at this;exact BJ this
 unfold noteFrame;simp only[hf];refine wpAny_bind (wpAny_field he rfl (x:= .none) rfl ?_);rw[if_neg (by decide)];refine wpAny_entryW (a0:= .ref t) hfr (hl.of_keeps λb o hb _=>⟨o,hx.keeps b o hb,rfl⟩) hf he (λb o hb=>hx.keeps b o (hkb b o hb)) fresh rfl (show 1<6 by decide) rfl λh' ⟨k1,k2,k3,k4⟩=>k h' _ ⟨k1,fresh,k2,k3⟩ k4
end
noncomputable def rH:FD:=KF (DA 24)
noncomputable def J9:List Stmt:=[.Return (some (.Constant (.bool true) 0 ⟨154,15,154,19⟩)) ⟨154,8,154,19⟩]
noncomputable def Zs:ExceptHandler:= .ExceptHandler (some (.Name "ValueError" ⟨153,11,153,21⟩)) none J9 ⟨153,4,154,19⟩
theorem yZ:rH.body=[.Try [.Expr (.Call (.Name "indexOf" ⟨152,8,152,15⟩) [.Name "row" ⟨152,16,152,19⟩,.Name "sign" ⟨152,21,152,25⟩] [] ⟨152,8,152,26⟩) ⟨152,8,152,26⟩] [Zs] [] [] ⟨151,4,154,19⟩,
 .Return (some (.Constant (.bool false) 0 ⟨155,11,155,16⟩)) ⟨155,4,155,16⟩]:=by kernel_rfl
theorem Fp:SK.2.2.2.1=[.Raise (some (.Call (.Name "ValueError" ⟨15,14,15,24⟩) [.Constant (.str "sequence.index(x): x not in sequence") 0 ⟨15,25,15,63⟩] [] ⟨15,14,15,64⟩)) none ⟨15,8,15,64⟩]:=by kernel_rfl
theorem Tm:(h0 w).toHeap.nsMap mainGlobals "ValueError"=none:=by kernel_rfl
theorem Tn:(h0 w).toHeap.nsMap builtinsNs "ValueError"=some (.type "ValueError"):=by kernel_rfl
theorem nT{E:Env}{p:Pos}{P:Value->Shared->Prop}(hsc:E.scope.kind= .function)(hk:E.kindOf "ValueError"=some .globalImplicit)(hg:E.globals=mainGlobals)(hb:E.builtins=builtinsNs)(K:∀b o,(h0 w).get? b=some o->s.heap.get? b=some o)
  (q:P (.type "ValueError") s):wpAny (model pw w) A (eval (.Name "ValueError" p) E) P X s:=by
 have n3:s.heap.Ns E.globals ((h0 w).toHeap.nsMap mainGlobals):=by rw[hg];exact PE (.of_isNs (nM w)) (λb o q _=>K b o q) (by decide)
 have n0:s.heap.Ns E.builtins ((h0 w).toHeap.nsMap builtinsNs):=by rw[hb];exact PE (.of_isNs (Iz w)) (λb o q _=>K b o q) (by decide)
 exact Name_function_global hsc hk (loadGlobal_builtin n3 Tm n0 Tn q) (by decide)
structure nU(E:Env):Prop where
 kind:E.scope.kind= .function
 ve:E.kindOf "ValueError"=some .globalImplicit
 glb:E.globals=mainGlobals
 blt:E.builtins=builtinsNs
theorem Mt{E2 E1:Env}(hA:A.frames=some [e])(hq:A.handled=none)(o2:nU E2)(o1:nU E1)(f2:rG s.heap E2)(f1:rG s.heap E1)(f0:rG s.heap e)(K:∀b o,(h0 w).get? b=some o->s.heap.get? b=some o)
  (b2:(h0 w).get? E2.locals=none)(b1:(h0 w).get? E1.locals=none)(b0:(h0 w).get? e.locals=none){QF:Flow->Shared->Prop}
  (k:∀h',(∀b o,s.heap.get? b=some o->b∉[E2.locals,E1.locals,e.locals]->h'.get? b=some o)->s.heap.UpToSlots h'->QF (.ret (.bool true)) {s with heap:=h',toks:=s.toks+1}):
  wpAny (model pw w) ((A.deeper E1).deeper E2) (execs SK.2.2.2.1 E2) P (notedBy (model pw w) ((A.deeper E1).deeper E2) E2 λx s'=>cameBackBy (model pw w) ((A.deeper E1).deeper E2) E2 (λx BX=>wpAny (model pw w) ((A.deeper E1).deeper E2) (leaving E2 x)
   (λ_ GJ=>wpAny (model pw w) (A.deeper E1) (noteFrame x E1) (λ_ IK=>wpAny (model pw w) (A.deeper E1) (setFlight x none) (λ_ tD=>wpAny (model pw w) (A.deeper E1) (handleBy x E1 [Zs]) QF X tD) X IK) X GJ)
   (λx GJ=>wpAny (model pw w) (A.deeper E1) (noteFrame x E1) (λ_ IK=>wpAny (model pw w) (A.deeper E1) (setFlight x none) (λ_ tD=>wpAny (model pw w) (A.deeper E1) (handleBy x E1 [Zs]) QF X tD) X IK) X GJ) BX) x s') s:=by
 have fr2:((A.deeper E1).deeper E2).frames=some [E2,E1,e]:=by show(A.frames.map _).map _=_;rw[hA];rfl
 have fr1:(A.deeper E1).frames=some [E1,e]:=by show A.frames.map _=_;rw[hA];rfl
 generalize hb:yY s.heap [E2.locals,E1.locals,e.locals]=base;have st:base.StaysIn s.heap:=hb▸iV _ _;have nb:∀b,b∈[E2.locals,E1.locals,e.locals]->base.get? b=none:=λb q=>hb▸aR _ q;have ob:∀b,b∉[E2.locals,E1.locals,e.locals]->base.get? b=s.heap.get? b:=λb q=>hb▸UN _ q;have Kb:∀b o,(h0 w).get? b=some o->base.get? b=some o:=λb o q=>by
  rw[ob b λz=>?_];exact K b o q;have:(h0 w).get? b=none:=by
   rcases AN z with rfl|z
   .exact b2
   .rcases AN z with rfl|z
    .exact b1
    .rcases AN z with rfl|z
     .exact b0
     .exact absurd z (List.not_mem_nil)
  rw[q]at this;exact tE this
 have ff:s.heap.FunFrames base [E2,E1,e]:=XR λE q=>by
  rcases AN q with rfl|q
  .exact⟨f2,nb _ (.head _)⟩
  .rcases AN q with rfl|q
   .exact⟨f1,nb _ (.tail _ (.head _))⟩
   .rcases AN q with rfl|q
    .exact⟨f0,nb _ (.tail _ (.tail _ (.head _)))⟩
    .exact absurd q (List.not_mem_nil)
 rw[Fp];refine wpAny_execs_cons (Raise_madeB PySem.F.excCall_ValueError PySem.F.excRaise_ValueError hq (nT o2.kind o2.ve o2.glb o2.blt K ⟨rfl,dW rfl (Constant_str ⟨(show 1<=sizeLine by decide),λh1 x hm=>?_⟩)⟩));have hx:Heap.MadeExcOf s.heap h1 x (.type "ValueError") [.str "sequence.index(x): x not in sequence" s.toks]:=⟨hm.keeps,hm.new,hm.there⟩;refine UP (s:={s with heap:=h1,toks:=s.toks+1}) fr2 f2.1 st ff hx λh2 a0 H2 u2=>?_;have u2:s.heap.UpToSlots h2:=(Heap.UpToSlots.of_keeps hm.keeps).trans u2;obtain⟨t1,t2,t3,t4⟩:=H2;have t4':=t4;obtain⟨ox,vs,T,oT,ts,q1,q2,q3,q4,_⟩:=t4';refine wpAny_bind (wpAny_field q1 q3 q4 ?_);rw[if_neg (by simp)];rw[f2.1];refine UO t1 t3 t4 λh3 k1 k2 k3 k4=>?_;have u3:=u2.trans k4;unfold leaving;refine wpAny_bind (wpAny_noteFrame_againW f2.1 k3 ?_);refine wpAny_landsW (L:=E2.locals) ⟨k1,t2,k2,k3⟩ λh4 ⟨m1,m2,⟨_,_,m3⟩,m4⟩ v4=>?_;have u4:=u3.trans v4;refine wpAny_looks_onW fr1 f1.1 ⟨m1,m2,m3,m4⟩ λh5 H5 v5=>?_;have u5:=u4.trans v5;refine wpAny_landsW H5 λh6 F6 v6=>?_;have u6:=u5.trans v6;obtain⟨ob6,q6,c6⟩:=F6.there;refine wpAny_handleBy_builtin (X:="ValueError") (T:="ValueError") (b:=true) PySem.F.isExc_ValueError PySem.F.notTuple_ValueError (by rw[isSubtype_type];kernel_rfl) (nT o1.kind o1.ve o1.glb o1.blt (λb o q=>F6.1 _ _ (Kb _ _ q)) ⟨rfl,⟨_,q6,c6⟩,?_⟩);rw[if_pos rfl];refine lands_againW F6 λh7 F7 v7=>?_;have u7:=u6.trans v7;exact wpAny_execs_cons (wpAny_Return_some (Constant_bool (k h7 (λb o q z=>F7.1 _ _ (by rw[ob b z];exact q)) u7)))
end Mine.Internal
end
section
open PySem PySem.Calls PyProof.Rows PySem.W PyProof
set_option autoImplicit true
namespace Mine.Internal
variable{w:World}{n:Nat}{A:Around}{e:Env}{as as1:AH}{s s1 s2 s3 s':Shared}{c c1 c':AC}{Q:AB}{AA:AP}
variable{x:List Nat}
theorem Go.slots{k:Nat}{as':AH}(g:Go AA e k c as s c' as' s3){Fs:List Nat}(hF:∀b∈Fs,(b=e.locals\/s.heap.get? b=none)/\b∉as'.pl/\AA.get? b=none/\∃m,s3.heap.Ns b m){h':Heap}
  (K:∀b o,s3.heap.get? b=some o->b∉Fs->h'.get? b=some o)(u:s3.heap.UpToSlots h'){t:Nat}(ht:s3.toks<=t):Go AA e k c as s c' as' {s3 with heap:=h',toks:=t}:=by
 obtain⟨x,ev,hh,sh,lo⟩:=g;have ns:∀b∈Fs,∃m,h'.Ns b m:=λb q=>let ⟨m,z⟩:=(hF b q).2.2.2;⟨m,u.ns z⟩;have live:∀b o,s3.heap.get? b=some o->∃o',h'.get? b=some o':=λb o q=>by
  by_cases z:b∈Fs
  .obtain⟨m,o',_,_,y,_⟩:=ns b z;exact⟨o',y⟩
  .exact⟨o,K b o q z⟩
 have M:BR s3.heap as' h' as':=⟨λb o q h1 h2=>⟨K b o q λz=>let ⟨m,y⟩:=(hF b z).2.2.2;h2.ne q y rfl,h1⟩,λ_ _ q=>q⟩;obtain⟨m,hn,hl⟩:=x.loc;refine⟨⟨λb o q q'=>K b o (x.keep b o q q') λz=>?_,x.tab,?_,x.len,x.nodup,x.off,x.ptab,λl o q=>?_,x.loff,x.lbase,x.ltab,x.scope,x.kind,x.glb,x.blt,x.cells,⟨m,u.ns hn,λy v q=>?_⟩,x.low,λa ha=>?_⟩,
  ⟨ev.pre,ev.kle,λa o q h1 h2 h3=>K a o (ev.same a o q h1 h2 h3) λz=>?_,λa o q=>let ⟨o1,q1⟩:=ev.alive a o q;live a o1 q1,ev.new⟩,hh,sh.trans (Sh.heap s3 h' t ht),lo⟩
 .have:=(hF b z).2.2.1;rw[q]at this;exact tE this
 .obtain⟨vs,q⟩:=x.tabx;exact⟨vs,K _ _ q λz=>let ⟨m,y⟩:=(hF _ z).2.2.2;GZ.ne q y rfl⟩
 .obtain⟨a,q1,q2⟩:=x.objs l o q;exact⟨a,q1,CO.mono M (λo' q3=>K a o' q3 λz=>(hF a z).2.1 (List.mem_of_getElem? q1)) q2⟩
 .obtain⟨r,q1,q2⟩:=hl y v q;exact⟨r,q1,CV.mono M _ _ q2⟩
 .obtain⟨⟨o,q1⟩,q2⟩:=x.hid a ha;exact⟨live a o q1,q2⟩
 .rcases(hF a z).1 with y|y
  .exact h2 y
  .rw[q]at y;exact tE y
theorem Fq{z:Nat}(h:CQ z x=none):x.contains z=false:=by
 cases q:x.contains z with
 |false=>rfl
 |true=>exact absurd (List.contains_iff_mem.mp q) (yV h)
theorem Ft{z i:Nat}(h:CQ z x=some i):x.contains z=true:=List.contains_iff_mem.mpr (List.mem_of_getElem? (aQ h))
noncomputable abbrev To(st:List AO)(L:List (Str×AV))(lo:Nat):AC:=⟨⟨rH.scope,L,[]⟩,st,lo⟩
theorem nV{st:List AO}{L:List (Str×AV)}{lo:Nat}{x:Str}(h:rH.scope.names.lookup x=some .local):DB (To st L lo) x=L.lookup x:=by unfold DB;rw[show(To st L lo).fr.scope.names.lookup x=some .local from h];rfl
theorem Mu:rH.scope.names.lookup ("row":Str)=some NameKind.local:=by kernel_rfl
theorem Fu:rH.scope.names.lookup ("sign":Str)=some NameKind.local:=by kernel_rfl
theorem Tp:rH.scope.names.lookup ("indexOf":Str)=some NameKind.globalImplicit:=by kernel_rfl
theorem Tq:rH.scope.names.lookup ("ValueError":Str)=some NameKind.globalImplicit:=by kernel_rfl
theorem Tr:XQ.scope.names.lookup ("ValueError":Str)=some NameKind.globalImplicit:=by kernel_rfl
theorem zA{st:List AO}{b:AV}{k:Nat}:DS rH [] [.str x,b] st k=some (To st [("row",.str x),("sign",b)] k):=by kernel_rfl
theorem nU.of(hs:St (h0 w) c e as s.heap)(h:c.fr.scope.names.lookup ("ValueError":Str)=some .globalImplicit):nU e:=⟨CC hs,(HA hs _).trans h,hs.glb,hs.blt⟩
theorem Mv:FN rH.scope=false:=by kernel_rfl
theorem aS{ch:Nat}{t u:Tok}(hs:St (h0 w) c e as s.heap)(hr:AL A e 1)(hA:A.frames=some [e])(hf:e.frame=some e.locals)(hu:1<=u)(hu':u<s.toks)(q:Q (.v (.bool (!x.contains ch))) c):
  wpAny (model pw (h0 w).w) A (PySem.call (.ref 212) [.str ⟨x.toArray⟩ t,.str ⟨#[ch]⟩ u]) (AI (h0 w) e c as s Q) no s:=by
 have T:=ED w;have fr:=λ(E:Env) h1 h2 h3 h4 (h5:E.cells=[])=>hs.frame (E:=E) (sc:=rH.scope) (acl:=[]) (T:="frame") h1 h2 h3 h4 (by decide+kernel) (λx l q=>by exact BJ q);have M:=(fr {scope:=rH.scope,locals:=s.heap.objs.size,globals:=mainGlobals,cells:=[],qual:="",func:=none,code:= .none,frame:=none,builtins:=builtinsNs} rfl rfl rfl rfl rfl).2;have cv:CVs s.heap as [.str x,.raw (.str ⟨#[ch]⟩ u)] [.str ⟨x.toArray⟩ t,.str ⟨#[ch]⟩ u]:=⟨_,_,rfl,⟨t,rfl⟩,_,_,rfl,rfl,rfl⟩;refine TZ T hr.call (JJ T hs (a:=212) (fd:=rH) rfl) (by decide+kernel) (λq=>by rw[Mv]at q;exact ME q) (λE h1 h2 h3 h4 h5=>(fr E h1 h2 h3 h4 h5).1) (CVs.mono M _ _ cv) (by rw[hs.len];exact zA) λE1 as1 s1 e1 _ hf1 hc1 g1 hr1=>?_;have hr2:LK (A.deeper E1) 0:=⟨by have:=hr.depth;show A.depth+1<1000;exact oD this,λenv lk=>⟨by have:=hr.depth;show A.depth+1+1+2*0+50<=990;exact this,by have:=hr.units;show A.units+3+3+20*0+100<=9000;exact oD this,hr.quiet,TY lk⟩⟩;rw[yZ];refine wpAny_execs_cons (wpAny_Try_except (wpAny_execs_cons (wpAny_Expr_any ?_ (by unfold interactive;exact(CC g1.st)▸rfl) (CY rfl _ _))));refine FR T g1.st (f:="indexOf") (F:= .fn 35) (by decide) (by unfold DB;rw[show(To c.st [("row",.str x),("sign",.raw (.str ⟨#[ch]⟩ u))] as.pl.length).fr.scope.names.lookup ("indexOf":Str)=some .globalImplicit from Tp];show JA.lookup ("indexOf":Str)=some (.fn 35);kernel_rfl) rfl λv0 s2 g2 cv0=>?_;subst cv0;refine El rfl rfl (wpAny_mono (CL T g2.st (by decide) (by decide) ((nV Mu).trans rfl) (Q:=λr c'=>r= .v (.str x)/\c'=_) ⟨rfl,rfl⟩) (λv1 s3 ⟨c3,as3,a3,g3,cv3,q1,q2⟩=>?_) λ_ _ x=>x.elim);subst q2;(obtain rfl:=(Mine.Internal.Res.v.inj q1);clear q1);refine wpAny_mono (CL T g3.st (by decide) (by decide) ((nV Fu).trans rfl) (Q:=λr c'=>r= .v (.raw (.str ⟨#[ch]⟩ u))/\c'=_) ⟨rfl,rfl⟩) (λv2 s4 ⟨c4,as4,a4,g4,cv4,q1,q2⟩=>?_) λ_ _ x=>x.elim;subst q2;(obtain rfl:=(Mine.Internal.Res.v.inj q1);clear q1);subst cv4;obtain⟨tk,rfl⟩:=cv3;have g14:=((g1.trans g2 g1.len).trans g3 (g1.trans g2 g1.len).len).trans g4 ((g1.trans g2 g1.len).trans g3 (g1.trans g2 g1.len).len).len;refine⟨(JJ T g4.st (a:=35) (fd:=XQ) rfl).keeps,?_⟩;have M4:=(g4.st.frame (E:={scope:=XQ.scope,locals:=s4.heap.objs.size,globals:=mainGlobals,cells:=[],qual:="",func:=none,code:= .none,frame:=none,builtins:=builtinsNs}) (sc:=XQ.scope) (acl:=[]) (T:="frame") rfl rfl rfl rfl (by decide+kernel) (λx l q=>by exact BJ q)).2;have cv4:CVs s4.heap as4 [.str x,.raw (.str ⟨#[ch]⟩ u)] [.str ⟨x.toArray⟩ tk,.str ⟨#[ch]⟩ u]:=by rw[CVs];exact⟨_,_,rfl,⟨tk,rfl⟩,by rw[CVs];exact⟨_,_,rfl,rfl,by rfl⟩⟩
 refine TZ T hr2 (LL T g4.st (a:=35) (fd:=XQ) rfl) (Vi (IG (a:=35) rfl)) (Lf (IG (a:=35) rfl)) (λE h1 h2 h3 h4 h5=>(g4.st.frame (acl:=[]) h1 h2 h3 h4 (by decide+kernel) (λx l q=>by exact BJ q)).1) (CVs.mono M4 _ _ cv4) (by rw[g4.st.len];exact eM) λE2 as5 s5 e2 _ hf2 hc2 g5 hr3=>?_;have l4:as4.pl.length=c.st.length:=g4.st.len;have l5:c.st.length<=as5.pl.length:=l4▸g5.len;have back:∀{c6:AC} {as6:AH} {s6:Shared},Go (h0 w) E2 c.st.length (QC c.st [("a",.str x),("b",.raw (.str ⟨#[ch]⟩ u))] c.st.length) as5 s5 c6 as6 s6->c6.st=c.st->
   Go (h0 w) E2 as4.pl.length ⟨⟨XQ.scope,[],[]⟩,c.st,as4.pl.length⟩ ⟨as4.pl,E1.locals::as4.hid⟩ {s4 with heap:=s4.heap.push {cls:= .type "frame",data:= .dict #[]}} c6 as6 s6/\
   Go (h0 w) E1 as.pl.length ⟨⟨rH.scope,[],[]⟩,c.st,as.pl.length⟩ ⟨as.pl,e.locals::as.hid⟩ {s with heap:=s.heap.push {cls:= .type "frame",data:= .dict #[]}} (To c.st [("row",.str x),("sign",.raw (.str ⟨#[ch]⟩ u))] c.st.length) ⟨as6.pl,as4.hid⟩ s6/\
   Go (h0 w) e as.pl.length c as s c ⟨as6.pl,as.hid⟩ s6:=λ{c6 as6 s6} g6 q=>by
  have G:=g5.trans g6 (Nat.le_of_eq l4);have G1:=(g4.st.back e2 G).1;rw[q]at G1;have G2:=g14.trans G1 g14.len;exact⟨G,G2,(hs.back e1 G2).1⟩
 refine yW hr3 g5.st (x:=x) (z:=ch) (v:=u) rfl rfl hu ?_ (λf s6 ⟨c6,as6,af,g6,cf,i,q1,q2,q3⟩=>?_) λhno c6 as6 s6 g6 q1 q2=>?_
 .exact Nat.lt_of_lt_of_le hu' (Nat.le_trans g14.sh.tk g5.sh.tk)
 .obtain⟨G,G1,G2⟩:=back g6 q3;refine wpAny_execs_nil (wpAny_execs_nil (wpAny_execs_cons (wpAny_Return_some (Constant_bool ?_))));simp only[Ft q1]at q;exact⟨c,_,.bool false,G2,rfl,q⟩
 .obtain⟨G,G1,G2⟩:=back (g6.le l5) q1;obtain⟨m2,n2,_⟩:=G.st.loc;obtain⟨m1,n1,_⟩:=G1.st.loc;obtain⟨m0,n0,_⟩:=G2.st.loc;simp only[Fq hno]at q;refine Mt hA hr.quiet (.of G.st (by rw[q2];exact Tr)) (.of G1.st Tq) (.of hf2 (CC G.st) n2) (.of hf1 (CC G1.st) n1) (.of hf (CC hs) n0) (G.st.old T) G.st.lbase G1.st.lbase hs.lbase λh' K u'=>?_;refine⟨c,_,.bool true,G2.slots (λb z=>?_) K u' (Nat.le_succ _),rfl,q⟩;rcases AN z with rfl|z
  .refine⟨.inr ?_,G.st.loff,G.st.lbase,m2,n2⟩;cases z:s.heap.get? E2.locals with
   |none=>rfl
   |some o=>obtain⟨o',y⟩:=(hs.back e1 g14).1.evo.alive _ o z;rw[e2]at y;exact absurd (Heap.lt_size y) (Nat.lt_irrefl _)
  .rcases AN z with rfl|z
   .exact⟨.inr (by rw[e1];exact Heap.get?_none_of_le (Nat.le_refl _)),G1.st.loff,G1.st.lbase,m1,n1⟩
   .obtain rfl:=AR z;exact⟨.inl rfl,G2.st.loff,hs.lbase,m0,n0⟩
end Mine.Internal
end
section
open PySem PySem.Calls PyProof.Rows PySem.W PyProof
set_option autoImplicit true
namespace Mine.Internal
section
variable{M:Model}{A:Around}{R:GenEnd}{Y:Protocol}{n:Nat}{DE:Shared}{c:Code}{fs:List Frame}{s:Shared}{env:Env}{gd:Bool->Bool}{lv:List Value->List Value}
theorem FE{α β:Type}{m:Sem α}{f:α->Sem β}{K:β->Sem Fin}{H:Value->Sem Fin}(h:wpAny M (A.over c fs) m (λa s'=>Seg M A R Y n DE c ((f a).wrap K H gd lv) fs s') no s):Seg M A R Y n DE c ((m>>=f).wrap K H gd lv) fs s:=by rw[Sem.bind_eq_wrap',Sem.wrap_wrap];exact seg_wrap (wpAny_mono h (λ_ _ x=>x) λ_ _ x=>x.elim)
theorem RB{α:Type}{m:Sem α}{K:α->Sem Fin}{H:Value->Sem Fin}(h:wpAny M (A.over c fs) m (λa s'=>Seg M A R Y n DE c (K a) fs s') no s):Seg M A R Y n DE c (m.wrap K H gd lv) fs s:=
 seg_wrap (wpAny_mono h (λ_ _ x=>x) λ_ _ x=>x.elim)
variable{K:Flow->Sem Fin}{H:Value->Sem Fin}
theorem iW{test:Expr}{body orelse:List Stmt}{pos:Pos}(h:wpAny M (A.over c fs) (isTrue test env (eval test env)) (λb s'=>Seg M A R Y n DE c ((execs (cond b body orelse) env).wrap K H gd lv) fs s') no s):
  Seg M A R Y n DE c ((exec (.If test body orelse pos) env).wrap K H gd lv) fs s:=by
 simp only[arm_exec_If];refine FE (wpAny_standAt (FE (wpAny_mono h (λb s' h'=>?_) λ_ _ x=>x)));cases b
 .exact h'
 .exact h'
noncomputable def Ts(env:Env)(K:Flow->Sem Fin)(H:Value->Sem Fin)(gd:Bool->Bool)(lv:List Value->List Value)(r:Result):Sem Fin:=
 ((match r with| .ok f=>(.pure f:Sem Flow)| .error e=> .raise e).onRaise λ(x:Value)=>do
  if(<-field x 1)==Value.none then unsupported "frame.own-activation:exception-without-traceback"
  setFlight x env.frame).wrap K H gd lv
noncomputable abbrev XS(env:Env)(K:Flow->Sem Fin)(H:Value->Sem Fin)(gd:Bool->Bool)(lv:List Value->List Value)(c:Code)(p:Pos):Frame:= .ret (Ts env K H gd lv) none (gd false) (lv []) c p []
theorem iX{test:Expr}{body orelse:List Stmt}{pos:Pos}(h:∀p,Seg M A R Y n DE (.whileLoop test body orelse env) (M.den (.whileLoop test body orelse env)) (XS env K H gd lv c p::fs) s):
  Seg M A R Y n DE c ((exec (.While test body orelse pos) env).wrap K H gd lv) fs s:=seg_at (seg_call h)
theorem Fv{target iter:Expr}{body orelse:List Stmt}{pos:Pos}(hs:∀x,foldedSetIterable iter env x=pure x)
  (h:wpAny M (A.over c fs) (eval iter env) (λx BX=>wpAny M (A.over c fs) (pyIter x) (λit GJ=>∀p,Seg M A R Y n DE (.forLoop target it body orelse env) (M.den (.forLoop target it body orelse env)) (XS env K H gd lv c p::fs) GJ) no BX) no s):
  Seg M A R Y n DE c ((exec (.For target iter body orelse pos) env).wrap K H gd lv) fs s:=by
 simp only[arm_exec_For];refine FE (wpAny_standAt (FE (wpAny_mono h (λx BX RK=>FE ?_) λ_ _ x=>x)));rw[hs];exact wpAny_pure (FE (wpAny_standAt (FE (wpAny_holding (wpAny_mono RK (λit GJ gB=>seg_call gB) λ_ _ x=>x)))))
theorem eO{c':Code}{p:Pos}(f:Flow)(h:Seg M A R Y n DE c (K f) fs s):Seg M A R Y n DE c' (.pure (.done f)) (XS env K H gd lv c p::fs) s:=seg_leaf (.ok f) h
end
section
variable{prog:Program}{w:World}{A:Around}{R:GenEnd}{Y:Protocol}{n:Nat}{DE:Shared}{fs:List Frame}{s:Shared}{env:Env}
noncomputable def Mw(env:Env)(e:Value):Sem Fin:=(do noteFrame e env;theTreesLotGoes e:Sem Unit).wrap (λ_=> .raise e) .raise id id
noncomputable def zB(c:Code)(f:Flow):Sem Fin:=match f with
 | .next| .cont=> .pure (.again c)
 | .brk=> .pure (.done .next)
 | .ret v=> .pure (.done (.ret v))
theorem RT{target:Expr}{it:Value}{body:List Stmt}
  (h:wpAny (model prog w) (A.over (.forLoop target it body [] env) fs) (pyNext it) (λo s'=>match o with
   |none=>Seg (model prog w) A R Y n DE (.block [] env) (.pure (.done .next)) fs s'
   |some v=>wpAny (model prog w) (A.over (.forLoop target it body [] env) fs) (letOwnedTupleGo target it v) (λ_ s1=>wpAny (model prog w) (A.over (.forLoop target it body [] env) fs) (assign target env v) (λ_ s2=>
     Seg (model prog w) A R Y n DE (.forLoop target it body [] env) ((execs body env).wrap (zB (.forLoop target it body [] env)) (Mw env) id id) fs s2) no s1) no s') no s):
  Seg (model prog w) A R Y n DE (.forLoop target it body [] env) ((model prog w).den (.forLoop target it body [] env)) fs s:=by
 show Seg _ A R Y n DE _ ((forTurn target it body [] env).onRaise (λx=>do noteFrame x env;theTreesLotGoes x)) fs s;unfold forTurn;rw[Sem.onRaise_eq_wrap];refine FE (wpAny_standAt (FE (wpAny_onRaise (wpAny_mono h (λo s' h'=>?_) λ_ _ x=>x.elim))));cases o with
 |none=>exact seg_again rfl h'
 |some v=>
  refine FE (wpAny_mono h' (λ_ s1 h1=>FE (wpAny_mono h1 (λ_ s2 h2=>?_) λ_ _ x=>x)) λ_ _ x=>x);rw[Sem.bind_eq_wrap',Sem.wrap_wrap];rw[Sem.wrap_congr (execs body env) _ _ (K':=zB (.forLoop target it body [] env)) (H':=Mw env) (λf=>by cases f<;>rfl) (λe=>by show(do noteFrame e env;theTreesLotGoes e:Sem Unit).bind (λ_=> .raise e)=_;rw[Sem.bind_eq_wrap];rfl)]
  exact h2
theorem UQ{test:Expr}{body:List Stmt}
  (h:wpAny (model prog w) (A.over (.whileLoop test body [] env) fs) (isTrue test env (eval test env)) (λb s'=>b=true/\Seg (model prog w) A R Y n DE (.whileLoop test body [] env) ((execs body env).wrap (zB (.whileLoop test body [] env)) (Mw env) id id) fs s') no s):
  Seg (model prog w) A R Y n DE (.whileLoop test body [] env) ((model prog w).den (.whileLoop test body [] env)) fs s:=by
 refine seg_whileLoop (wpAny_mono h (λb s' ⟨hb,h'⟩=>?_) λ_ _ x=>x.elim);rw[if_pos hb];exact Eq.mp (congrArg (λt=>Seg (model prog w) A R Y n DE (.whileLoop test body [] env) t fs s') (Sem.wrap_congr _ _ _ (λf=>by cases f<;>rfl) λe=>rfl)) h'
end
theorem iY{prog:Program}{w:World}{A:Around}{E:Value->Shared->Prop}{s:Shared}{a:Addr}{g n:Nat}{gs:GenState}{P:Nat->Shared->Shared->Prop}{Y:Protocol}{Q:Option Value->Shared->Prop}(hh:A.handled=none)
  (hl:s.heap.NoLimit)(hroom:A.depth<recursionLimit)(hg:s.heap.IsGen a g)(hgs:s.gens[g]? =some gs)
  (hgo:gs.Goes (model prog w) A.in1 (λn DE r BX=>r= .ok (.ret .none)/\P n DE BX) Y n (.send .none) (s.setGen g .running))
  (hY:∀v BX gs',gs'.bare=true->Y (n-1) (s.setGen g .running) v BX (λr' s''=>match n with
    |0=>False
    |m+1=>gs'.Goes (model prog w) A.in1 (λn DE r BX=>r= .ok (.ret .none)/\P n DE BX) Y m r' s'')->Q (some v) (BX.setGen g gs'))
  (hP:∀BX,P n (s.setGen g .running) BX->∀h',(∀b o,BX.heap.get? b=some o->h'.get? b=some o)->Q none {BX.setGen g .finished with heap:=h'}):
  wpAny (model prog w) A (pyNext (.ref a)) Q E s:=by
 unfold pyNext;refine wpAny_bind (wpAny_attempt (wpAny_callSpecial?_slot (name:=Str.ofString "__next__") hg.typeIs slot_gen_next (wpAny_call_entry slot_gen_next hg.typeIs entry_gen_next ?_ (args_gen_next _))));show wpAny _ A.in1 (Builtin.Generator.genWake (.ref a) (.send .none)) _ _ s;unfold Builtin.Generator.genWake;refine wpAny_bind (wpAny_holding (wpAny_genNumber hg (wpAny_bind (wpAny_genState hgs ?_))));cases gs with
 |running=>exact hgo.elim
 |finished=>exact hgo.elim
 |_=>refine wpAny_bind (wpAny_roomToWake hl hroom ?_);show wpAny _ _ (.resume g (.send .none) [] _) _ _ s;refine wpAny_resumeQ hgs hgo (λx BX hx=>?_) (λv BX gs' hb hv=>wpAny_pure ⟨v,rfl,wpAny_pure (hY v BX gs' hb hv)⟩);obtain⟨rfl,hp⟩:=hx;show wpAny _ _ (newExc (.type "StopIteration") []>>=_) _ _ _;refine wpAny_bind ?_;simp only[newExc,newTuple];refine wpAny_bind (wpAny_newObj_type ?_ (by size_fits));refine wpAny_bind (m:=firstArgMember _ _) (wpAny_of_eq (a:=Value.none) (by first|rfl|(simp only[firstArgMember];rfl)) ?_);refine wpAny_newObj_type ?_ (by size_fits);simp only[raiseNew];refine wpAny_bind (wpAny_bind (wpAny_handled ?_));refine(Eq.symm (show A.in1.handled=none from hh))▸?_;refine wpAny_throw (wpAny_bind (wpAny_isInstance (T:="StopIteration") (b:=true) ⟨_,Heap.get?_push_size _ rfl,rfl⟩ isSubtype_stop ?_));exact wpAny_pure (hP BX hp _ λb o hb=>Heap.get?_push_of_some _ (Heap.get?_push_of_some _ hb))
end Mine.Internal
end
section
open PySem PySem.Calls PyProof.Rows PySem.W PyProof
set_option autoImplicit true
namespace Mine.Internal
variable{w:World}{A:Around}{e:Env}{as as1:AH}{s s1 s2 s3 s':Shared}{c c1 c':AC}{Q:AB}{AA:AP}
variable{L:List (Str×AV)}{x:Str}{v:AV}{fr:AF}{h h':Heap}{X:List Nat}{B C n i ax lo G D j:Nat}{y:Int}{p q:Pos}{W:Sem Value}{P:Value->Shared->Prop}{r:List Int}{vs:List Value}{st:List AO}{xs:List AV}
noncomputable def UR:FD:=KF (DA 7)
noncomputable def Zt:List Stmt:=[.Expr (.Yield (some (.Name "last_interval" ⟨29,22,29,35⟩)) ⟨29,16,29,35⟩) ⟨29,16,29,35⟩]
noncomputable def K0:List Stmt:=[.If (.Compare (.Name "last_interval" ⟨26,15,26,28⟩) [.Is] [.Constant .none 0 ⟨26,32,26,36⟩] ⟨26,15,26,36⟩)
  [.Raise (some (.Call (.Name "ValueError" ⟨27,22,27,32⟩) [.Constant (.str "invalid grouping") 0 ⟨27,33,27,51⟩] [] ⟨27,22,27,52⟩)) none ⟨27,16,27,52⟩] [] ⟨26,12,27,52⟩,
 .While (.Constant (.bool true) 0 ⟨28,18,28,22⟩) Zt [] ⟨28,12,29,35⟩]
noncomputable def D4:List Stmt:=[.If (.Compare (.Name "interval" ⟨23,11,23,19⟩) [.Eq] [.Name "CHAR_MAX" ⟨23,23,23,31⟩] ⟨23,11,23,31⟩) [.Return none ⟨24,12,24,18⟩] [] ⟨23,8,24,18⟩,
 .If (.Compare (.Name "interval" ⟨25,11,25,19⟩) [.Eq] [.Constant (.int 0) 0 ⟨25,23,25,24⟩] ⟨25,11,25,24⟩) K0 [] ⟨25,8,29,35⟩,
 .Expr (.Yield (some (.Name "interval" ⟨30,14,30,22⟩)) ⟨30,8,30,22⟩) ⟨30,8,30,22⟩,.Assign [.Name "last_interval" ⟨31,8,31,21⟩] (.Name "interval" ⟨31,24,31,32⟩) ⟨31,8,31,32⟩]
theorem zC:UR.body=[.Assign [.Name "last_interval" ⟨21,4,21,17⟩] (.Constant .none 0 ⟨21,20,21,24⟩) ⟨21,4,21,24⟩,.For (.Name "interval" ⟨22,8,22,16⟩) (.Name "grouping" ⟨22,20,22,28⟩) D4 [] ⟨22,4,31,32⟩]:=by kernel_rfl
theorem PF:UR.scope.names.lookup ("last_interval":Str)=some NameKind.local:=by kernel_rfl
theorem US:UR.scope.names.lookup ("interval":Str)=some NameKind.local:=by kernel_rfl
theorem Mx:UR.scope.names.lookup ("grouping":Str)=some NameKind.local:=by kernel_rfl
theorem My:UR.scope.names.lookup ("CHAR_MAX":Str)=some NameKind.globalImplicit:=by kernel_rfl
theorem nW:UR.scope.isCoroutine=false:=by kernel_rfl
theorem Fw:UR.scope.kind= .function:=by kernel_rfl
noncomputable abbrev XT(L:List (Str×AV)):AC:=⟨⟨UR.scope,L,[]⟩,[],0⟩
noncomputable abbrev MN:AH:=⟨[],[]⟩
theorem JE(h:UR.scope.names.lookup x=some .local):DB (XT L) x=L.lookup x:=by unfold DB;rw[show(XT L).fr.scope.names.lookup x=some .local from h];rfl
theorem aT(h:UR.scope.names.lookup x=some .local):HS (XT L) x v=some (XT (HW x v L)):=by unfold HS;rw[show(XT L).fr.scope.names.lookup x=some .local from h];rfl
theorem iZ:DB (XT L) ("CHAR_MAX":Str)=some (.int 127):=by unfold DB;rw[show(XT L).fr.scope.names.lookup ("CHAR_MAX":Str)=some .globalImplicit from My];show JA.lookup ("CHAR_MAX":Str)=some (.int 127);kernel_rfl
noncomputable def flat(v:AV):Prop:=v= .none\/(∃i,v= .int i)\/∃x,v= .raw x
noncomputable def LS(L:List (Str×AV)):Prop:=∀x v,L.lookup x=some v->flat v
theorem eP(h:flat v):LS [(x,v)]:=λy u q=>by
 simp only[List.lookup_cons]at q;split at q
 ·(obtain rfl:=sj q;clear q);exact h
 .exact BJ q
theorem LS.put(h:LS L)(hv:flat v):LS (HW x v L):=λy u q=>by
 rw[CE]at q;split at q
 ·(obtain rfl:=sj q;clear q);exact hv
 .exact h y u q
theorem St.bareK(hs:St AA ⟨fr,[],0⟩ e MN h)(fl:LS fr.locals)(hc:fr.cells=[])(k:∀b o,AA.get? b=some o\/b=e.locals\/b=BO->h.get? b=some o->h'.get? b=some o):St AA ⟨fr,[],0⟩ e MN h':=by
 obtain⟨m,hn,hl⟩:=hs.loc;refine⟨λb o q q'=>k b o (.inl q) (hs.keep b o q q'),hs.tab,let ⟨vs,q⟩:=hs.tabx;⟨vs,k _ _ (.inr (.inr rfl)) q⟩,hs.len,hs.nodup,hs.off,hs.ptab,λl o q=>by simp at q,hs.loff,hs.lbase,hs.ltab,hs.scope,hs.kind,hs.glb,hs.blt,λx l q=>?_,⟨m,hn.at' λo q=>k _ _ (.inr (.inl rfl)) q,λy v q=>?_⟩,hs.low,λa ha=>nomatch ha⟩
 .rw[show fr.cells=[]from hc]at q;exact BJ q
 .obtain⟨r,q1,q2⟩:=hl y v q;refine⟨r,q1,?_⟩;rcases fl y v q with rfl|⟨i,rfl⟩|⟨x,rfl⟩
  .exact q2
  .exact q2
  .exact q2
theorem St.bareMove(hs:St AA ⟨fr,[],0⟩ e MN h)(fl:LS fr.locals)(hc:fr.cells=[])(k:∀b o,b∉X->h.get? b=some o->h'.get? b=some o)(hX:∀b∈X,b≠e.locals/\AA.get? b=none/\b≠BO):St AA ⟨fr,[],0⟩ e MN h':=
 hs.bareK fl hc λb o q=>k b o λz=>by
  obtain⟨h1,h2,h3⟩:=hX b z;rcases q with q|q|q
  .rw[h2]at q;exact BJ q
  .exact h1 q
  .exact h3 q
noncomputable def nX(B C:Nat)(s s1:Shared):Prop:=(∀b o,b<B->b≠C->s.heap.get? b=some o->s1.heap.get? b=some o)/\Sh s s1
theorem nX.refl:nX B C s s:=⟨λ_ _ _ _ q=>q,Sh.refl s⟩
theorem nX.trans(x:nX B C s s1)(y:nX B C s1 s2):nX B C s s2:=⟨λb o h1 h2 q=>y.1 b o h1 h2 (x.1 b o h1 h2 q),x.2.trans y.2⟩
theorem Go.ran{k:Nat}(g:Go AA e k c MN s c' MN s'):nX B e.locals s s':=⟨λb o _ h2 q=>g.evo.same b o q (λz=>nomatch z) h2 True.intro,g.sh⟩
theorem zD(hs:St (h0 w) c e as s.heap)(hr:AL A e n){i:Str}{x:Int}{b:Expr}(oi:(i==("__debug__":Str))=false/\(i==("__classdict__":Str))=false)(li:DB c i=some (.int x))(hm:behindInMarks .Eq b=false)
  (hb:∀as1 s1,St (h0 w) c e as1 s1.heap->wpAny (model pw (h0 w).w) A (eval b e) (AI (h0 w) e c as1 s1 (λr c'=>r= .v (.int y)/\c'=c)) no s1):
  wpAny (model pw (h0 w).w) A (isTrue (.Compare (.Name i p) [.Eq] [b] q) e W) (EJ (h0 w) e c as s λr c'=>r= .t (decide (x=y))/\c'=c) no s:=by
 have T:=ED w;refine wpAny_isTrue_Compare1 ?_ hm;refine Cs (CL T hs oi.1 oi.2 li (Q:=FH λa c1=>a= .int x/\c1=c) ⟨rfl,rfl⟩) λc1 as1 a s1 w1 g1 v1 e1=>?_;obtain⟨rfl,rfl⟩:=e1;refine wpAny_mono (hb as1 s1 g1.st) (λw2 s2 ⟨c2,as2,a2,g2,v2,e2,e3⟩=>?_) λ_ _ x=>x;subst e3;(obtain rfl:=(Mine.Internal.Res.v.inj e2);clear e2);have g:=g1.trans g2 g1.len;refine QO T g.st hr (op:= .Eq) (a:= .int x) (b:= .int y) (z:=decide (x=y)) (g2.cv g1.st v1) v2 rfl λt ht=>wpAny_truthy_bool ⟨_,as2,g.trans (g.st.toks t ht) g.len,rfl,rfl⟩
noncomputable def zE(r:List Int)(B C:Nat)(X:List Nat)(k:Nat)(DE:Shared)(v:Value)(BX:Shared)(kap:Resume->Shared->Prop):Prop:=
 (∃x t,v= .int x t/\r[5-k]? =some x)/\nX B C DE BX/\(k=0\/∀s'',(∀b o,b∉X->BX.heap.get? b=some o->s''.heap.get? b=some o)->kap (.send .none) s'')
noncomputable def Pi(r:List Int)(B C:Nat)(n:Nat)(DE:Shared)(x:Result)(BX:Shared):Prop:=x= .ok (.ret .none)/\r.length+n=6/\nX B C DE BX
noncomputable def XU(w:World)(e:Env)(X:List Nat):Prop:=∀b∈X,b≠e.locals/\(h0 w).get? b=none/\b≠BO
theorem RU(hs:St (h0 w) c e as s.heap){P:Bool->Shared->Prop}(q:P true s):wpAny (model pw (h0 w).w) A (isTrue (.Constant (.bool true) 0 p) e (eval (.Constant (.bool true) 0 p) e)) P no s:=
 isTrue_plain (Constant_bool (wpAny_truthy_bool q)) rfl
theorem zF(hX:XU w e X)(fl:LS L)(hl:L.lookup ("last_interval":Str)=some (.int y)){fs:List Frame}(h1:splitAtGen fs=none)(h2:fs.any Frame.guarded=false):
  ∀(n:Nat) (DE s:Shared),St (h0 w) (XT L) e MN s.heap->(∀j,5-n<=j->j<6->r[j]? =some y)->n<=5->nX B e.locals DE s->
   Seg (model pw w) A (Pi r B e.locals) (zE r B e.locals X) (n+1) DE (.whileLoop (.Constant (.bool true) 0 ⟨28,18,28,22⟩) Zt [] e) ((model pw w).den (.whileLoop (.Constant (.bool true) 0 ⟨28,18,28,22⟩) Zt [] e)) fs s:=by
 intro n;induction n with
 |zero=>intro DE s hs hr hn ran;refine UQ (RU hs ⟨rfl,seg_execs_cons (seg_Expr_Yield h1 rfl h2 ?_ (by rw[hs.scope];exact nW) (by unfold interactive;exact(CC hs)▸rfl))⟩);refine wpAny_mono (CL (ED w) hs (by decide) (by decide) ((JE PF).trans hl) (Q:=λr c'=>r= .v (.int y)/\c'=XT L) ⟨rfl,rfl⟩) (λv s1 ⟨c1,as1,a,g,cv,q1,q2⟩ kap hk=>?_) λ_ _ x=>x.elim;(obtain rfl:=(Mine.Internal.Res.v.inj q1);clear q1);obtain⟨t,rfl⟩:=cv;exact⟨⟨y,t,rfl,hr 5 (by simp+arith) (by exact Nat.le_refl _)⟩,ran.trans ⟨λb o _ h2 q=>g.evo.same b o q (λz=>nomatch z) h2 True.intro,g.sh⟩,.inl rfl⟩
 |succ n ih=>
  intro DE s hs hr hn ran;refine UQ (RU hs ⟨rfl,seg_execs_cons (seg_Expr_Yield h1 rfl h2 ?_ (by rw[hs.scope];exact nW) (by unfold interactive;exact(CC hs)▸rfl))⟩);refine wpAny_mono (CL (ED w) hs (by decide) (by decide) ((JE PF).trans hl) (Q:=λr c'=>r= .v (.int y)/\c'=XT L) ⟨rfl,rfl⟩) (λv s1 ⟨c1,as1,a,g,cv,q1,q2⟩ kap hk=>?_) λ_ _ x=>x.elim;(obtain rfl:=(Mine.Internal.Res.v.inj q1);clear q1);subst q2;obtain⟨t,rfl⟩:=cv;have e1:as1=MN:=by obtain⟨pl,hid⟩:=as1;obtain rfl:hid=[]:=g.hid;obtain rfl:pl=[]:=List.eq_nil_of_length_eq_zero g.st.len;rfl
  subst e1;refine⟨⟨y,t,rfl,hr _ (by exact Nat.le_refl _) (by simp+arith)⟩,ran.trans g.ran,.inr λs'' k=>hk .none s'' ?_⟩;exact seg_execs_nil (seg_again rfl (ih s'' s'' (g.st.bareMove fl rfl k hX) (λj h3 h4=>hr j (Nat.le_trans (Nat.sub_le_sub_left (Nat.le_succ _) _) h3) h4) (by exact Nat.le_trans (Nat.le_add_right _ _) hn) .refl))
noncomputable def Je:Option Int->AV
 |none=> .none
 |some y=> .int y
theorem RC{last:Option Int}{out row:List Int}{x:Int}:GW (n+1) last out (x::row)=if x=127 then some out else if x=0 then last.map (λy=>out++List.replicate (n+1) y)else GW n (some x) (out++[x]) row:=rfl
theorem zG:∀{last:Option Int} {out row r:List Int},GW n last out row=some r->∃tl,r=out++tl:=by
 induction n with
 |zero=>exactλh=>⟨[],sj h▸(List.append_nil _).symm⟩
 |succ n ih=>
  intro last out row r h;cases row with
  |nil=>exact⟨[],sj h▸(List.append_nil _).symm⟩
  |cons x row=>
   rcases KE (RC.symm.trans h)with⟨_,h⟩|⟨_,h⟩
   .exact⟨[],sj h▸(List.append_nil _).symm⟩
   rcases KE h with⟨_,h⟩|⟨_,h⟩
   .obtain⟨y,_,rfl⟩:=AZ h;exact⟨_,rfl⟩
   .obtain⟨tl,q⟩:=ih h;exact⟨x::tl,q.trans (List.append_assoc ..)⟩
theorem zH(hs:St (h0 w) (XT L) e MN s.heap)(hr:AL A e n)(hl:L.lookup ("last_interval":Str)=some (.int y)){q':Pos}:
  wpAny (model pw (h0 w).w) A (isTrue (.Compare (.Name "last_interval" p) [.Is] [.Constant .none 0 q] q') e W) (λb s'=>b=false/\Go (h0 w) e 0 (XT L) MN s (XT L) MN s') no s:=by
 refine wpAny_isTrue_Compare1 ?_ rfl;refine wpAny_mono (CL (ED w) hs (by decide) (by decide) ((JE PF).trans hl) (Q:=λr c'=>r= .v (.int y)/\c'=XT L) ⟨rfl,rfl⟩) (λv s1 ⟨c1,as1,a,g,cv,q1,q2⟩=>?_) λ_ _ x=>x;(obtain rfl:=(Mine.Internal.Res.v.inj q1);clear q1);subst q2;have e1:as1=MN:=by obtain⟨pl,hid⟩:=as1;obtain rfl:hid=[]:=g.hid;obtain rfl:pl=[]:=List.eq_nil_of_length_eq_zero g.st.len;rfl
 subst e1;refine Constant_none (QO (ED w) g.st hr (op:= .Is) (a:= .int y) (b:= .none) (z:=false) cv rfl rfl λt ht=>wpAny_truthy_bool ⟨rfl,g.trans (g.st.toks t ht) g.len⟩)
theorem HD{k:Nat}(g:Go AA e k c MN s c' as s')(h:c'.st=[]):as=MN:=by obtain⟨pl,hid⟩:=as;obtain rfl:hid=[]:=g.hid;obtain rfl:pl=[]:=List.eq_nil_of_length_eq_zero (by rw[g.st.len,h];rfl);rfl
noncomputable abbrev Vn(I:Nat)(e:Env):Code:= .forLoop (.Name "interval" ⟨22,8,22,16⟩) (.ref I) D4 [] e
theorem Fx{is:List Int}{I:Nat}(hX:XU w e X)(hI:XU w e [I])(hv:∀(j:Nat) (x:Int),is[j]? =some x->∃t,vs[j]? =some (.int x t))(hlen:vs.length=is.length)(hIX:I∉X)(haX:ax∉X)(hne:ax≠I)(hal:ax≠e.locals)(hB:B<=I)
  {c0:Code}{K:Flow->Sem Fin}{H:Value->Sem Fin}(hq:A.handled=none)(hro:AL (A.over (Vn I e) [XS e K H id id c0 p]) e 0)
  (hK:∀f,f= .next\/f= .ret .none->∀n DE s,Pi r B e.locals n DE (.ok (.ret .none)) s->Seg (model pw w) A (Pi r B e.locals) (zE r B e.locals X) n DE c0 (K f) [] s):
  ∀(rest:List Int) (i m:Nat) (last:Option Int) (out:List Int) (L:List (Str×AV)) (DE s:Shared),is.drop i=rest->i<=is.length->LS L->L.lookup ("last_interval":Str)=some (Je last)->St (h0 w) (XT L) e MN s.heap->s.heap.IsListIter I ax i->s.heap.IsList ax vs.toArray->
   GW (m+1) last out rest=some r->out.length+(m+1)=6->nX B e.locals DE s->
   Seg (model pw w) A (Pi r B e.locals) (zE r B e.locals X) (m+1) DE (Vn I e) ((model pw w).den (Vn I e)) [XS e K H id id c0 p] s:=by
 intro rest;have W:Walks pw w (A.over (Vn I e) [XS e K H id id c0 p]) I [I,ax] [I] vs.toArray.size (λi v=>vs.toArray[i]? =some v) (λi h=>h.IsListIter I ax i/\h.IsList ax vs.toArray):=Walks.list hro.quiet I ax hne vs.toArray;have mv:∀{s:Shared} {h':Heap} {tk:Nat},(∀b o,b∉[I]->s.heap.get? b=some o->h'.get? b=some o)->s.toks<=tk->nX B e.locals s {s with heap:=h',toks:=tk}:=λ{s h' tk} k ht=>⟨λb o h1 _ q=>k b o (λz=>by have:=AR z;exact oJ hB h1 (Nat.le_of_eq this.symm)) q,Sh.heap s h' tk ht⟩;induction rest with
 |nil=>intro i m last out L DE s hd hi fl hl hs it li ht ho ran;have hi':i=is.length:=Nat.le_antisymm hi (List.drop_eq_nil_iff.mp hd);subst hi';(replace ht:=A4 ht;subst ht);refine RT (BI (W.done s _ _ ⟨by rw[List.size_toArray,hlen];exact it,li⟩ λh' tk hk htk=>?_));exact eO .next (hK .next (.inl rfl) _ _ _ ⟨rfl,ho,ran.trans (mv hk htk)⟩)
 |cons x rest ih=>
  intro i m last out L DE s hd hi fl hl hs it li ht ho ran;have hx:is[i]? =some x:=by have:=congrArg (λl=>l[0]?) hd;simpa using this
  have hi2:i<is.length:=(EC hx);have hd2:is.drop (i+1)=rest:=by rw[<-List.tail_drop,hd];rfl
  obtain⟨t0,ht0⟩:=hv i x hx;refine RT (BI (W.item i s _ _ (by rw[List.size_toArray,hlen];exact hi2) ⟨it,li⟩ λv h1 tk hP ⟨it1,li1⟩ hk htk=>?_));obtain rfl:v= .int x t0:=by
   have:vs[i]? =some v:=by simpa using hP
   rw[ht0]at this;(replace this:=sj this;subst this);rfl
  have st1:St (h0 w) (XT L) e MN h1:=hs.bareMove fl rfl hk hI;refine OY (wpAny_assign_Name (EK (s:={s with heap:=h1,toks:=tk}) st1 (a:= .int x) ⟨t0,rfl⟩ (aT US) λs2 g2=>?_));have fl2:LS (HW "interval" (.int x) L):=fl.put (.inr (.inl ⟨x,rfl⟩));have li2x:(HW ("interval":Str) (.int x) L).lookup ("interval":Str)=some (.int x):=by rw[CE,if_pos rfl]
  have li2l:(HW ("interval":Str) (.int x) L).lookup ("last_interval":Str)=some (Je last):=by rw[CE,if_neg (by decide)];exact hl
  have it2:s2.heap.IsListIter I ax (i+1):=it1.at λo q=>g2.evo.same _ o q (λz=>nomatch z) (hI I (.head _)).1 True.intro;have la2:s2.heap.IsList ax vs.toArray:=li1.at λo q=>g2.evo.same _ o q (λz=>nomatch z) hal True.intro;have r2:nX B e.locals DE s2:=(ran.trans (mv hk htk)).trans g2.ran;refine seg_execs_cons (iW (wpAny_mono (zD g2.st hro (x:=x) (y:=127) (by decide) ((JE US).trans li2x) rfl λas1 s1 h=>CL (ED w) h (by decide) (by decide) iZ ⟨rfl,rfl⟩) (λb s3 ⟨c3,as3,g3,q1,q2⟩=>?_) λ_ _ x=>x));subst q2;obtain rfl:=HD g3 rfl;rw[RC]at ht;by_cases h127:x=127
  .simp only[decide_eq_true h127]at q1;(obtain rfl:=(Mine.Internal.Res.t.inj q1);clear q1);obtain rfl:=sj ((if_pos h127).symm.trans ht);refine seg_execs_cons (RB (wpAny_Return_none ?_));exact eO (.ret .none) (hK _ (.inr rfl) _ _ _ ⟨rfl,ho,r2.trans g3.ran⟩)
  simp only[decide_eq_false h127]at q1;(obtain rfl:=(Mine.Internal.Res.t.inj q1);clear q1);replace ht:=(if_neg h127).symm.trans ht;refine seg_execs_nil (seg_execs_cons (iW (wpAny_mono (zD g3.st hro (x:=x) (y:=0) (by decide) ((JE US).trans li2x) rfl λas1 s1 h=>gQ h ⟨rfl,rfl⟩) (λb s4 ⟨c4,as4,g4,q1,q2⟩=>?_) λ_ _ x=>x)));subst q2;obtain rfl:=HD g4 rfl;have r4:=(r2.trans g3.ran).trans g4.ran;by_cases hz:x=0
  .simp only[decide_eq_true hz]at q1;(replace q1:=(Mine.Internal.Res.t.inj q1);subst q1);rw[if_pos hz]at ht;cases last with
   |none=>exact BJ ht
   |some y=>(replace ht:=sj ht;subst ht);refine seg_execs_cons (iW (wpAny_mono (zH g4.st hro li2l) (λb s5 ⟨hb,g5⟩=>?_) λ_ _ x=>x));subst hb;refine seg_execs_nil (seg_execs_cons (iX λp'=>zF hX fl2 li2l rfl rfl m DE s5 g5.st (λj h3 h4=>?_) (by exact oD (Nat.le_of_eq ho)) (r4.trans g5.ran)));have h5:5-m=out.length:=Nat.sub_eq_of_eq_add (Nat.succ.inj ho).symm;rw[List.getElem?_append_right (h5▸h3),List.getElem?_replicate,if_pos (Nat.sub_lt_left_of_lt_add (h5▸h3) (ho▸h4))]
  simp only[decide_eq_false hz]at q1;(replace q1:=(Mine.Internal.Res.t.inj q1);subst q1);rw[if_neg hz]at ht;obtain⟨tl,hr⟩:=zG ht;refine seg_execs_nil (seg_execs_cons (seg_Expr_Yield rfl rfl rfl ?_ (by rw[hs.scope];exact nW) (by unfold interactive;exact(CC hs)▸rfl)));refine wpAny_mono (CL (ED w) g4.st (by decide) (by decide) ((JE US).trans li2x) (Q:=λr c'=>r= .v (.int x)/\c'=_) ⟨rfl,rfl⟩) (λv s5 ⟨c5,as5,a,g5,cv,q1,q2⟩ kap hk=>?_) λ_ _ x=>x.elim;(obtain rfl:=(Mine.Internal.Res.v.inj q1);clear q1);subst q2;obtain rfl:=HD g5 rfl;obtain⟨t,rfl⟩:=cv;refine⟨⟨x,t,rfl,?_⟩,r4.trans g5.ran,?_⟩
  .have h5:5-m=out.length:=Nat.sub_eq_of_eq_add (Nat.succ.inj ho).symm;rw[hr,h5,List.getElem?_append_left (by rw[List.length_append];exact Nat.lt_succ_self _),List.getElem?_append_right (Nat.le_refl _),Nat.sub_self];rfl
  .cases m with
   |zero=>exact .inl rfl
   |succ m=>
    refine .inr λs'' k=>hk .none s'' ?_;have st'':=g5.st.bareMove fl2 rfl k hX;have g24:∀b o,b≠e.locals->s2.heap.get? b=some o->s5.heap.get? b=some o:=λb o h q=>g5.evo.same b o (g4.evo.same b o (g3.evo.same b o q (λz=>nomatch z) h True.intro) (λz=>nomatch z) h True.intro) (λz=>nomatch z) h True.intro;refine seg_execs_cons (RB (wpAny_Assign_Name (wpAny_mono (CL (ED w) st'' (by decide) (by decide) ((JE US).trans li2x) (Q:=λr c'=>r= .v (.int x)/\c'=_) ⟨rfl,rfl⟩) (λv s6 ⟨c6,as6,a,g6,cv,q1,q2⟩=>?_) λ_ _ x=>x) ?_))
    ·(obtain rfl:=(Mine.Internal.Res.v.inj q1);clear q1);subst q2;obtain rfl:=HD g6 rfl;refine EK g6.st cv (aT PF) λs7 g7=>seg_execs_nil (seg_again rfl ?_);have g67:∀b o,b∉X->b≠e.locals->s2.heap.get? b=some o->s7.heap.get? b=some o:=λb o h h' q=>g7.evo.same b o (g6.evo.same b o (k b o h (g24 b o h' q)) (λz=>nomatch z) h' True.intro) (λz=>nomatch z) h' True.intro;exact ih (i+1) m (some x) (out++[x]) _ s'' s7 hd2 hi2 (fl2.put (.inr (.inl ⟨x,rfl⟩))) (by rw[CE,if_pos rfl];rfl) g7.st (it2.at λo q=>g67 _ o hIX (hI I (.head _)).1 q) (la2.at λo q=>g67 _ o haX hal q) ht (by simp;exact oG ho) (g6.ran.trans g7.ran)
    .exact CY rfl _ _
theorem St.fewer{sc:Scope}{L':List (Str×AV)}{cl:List (Str×Nat)}(hs:St AA ⟨⟨sc,L,cl⟩,st,lo⟩ e as h)(sub:∀x v,L'.lookup x=some v->L.lookup x=some v):St AA ⟨⟨sc,L',cl⟩,st,lo⟩ e as h:=
 {hs with loc:=let ⟨m,hn,hl⟩:=hs.loc;⟨m,hn,λx v q=>hl x v (sub x v q)⟩}
theorem Mz:FN UR.scope=false:=by kernel_rfl
theorem rI(hs:St (h0 w) c e as s.heap):XU w e [s.heap.objs.size]:=λb hb=>by
 obtain rfl:=AR hb;refine⟨?_,?_,?_⟩
 .obtain⟨m,⟨o,_,_,ho,_⟩,_⟩:=hs.loc;exact Nat.ne_of_gt (Heap.lt_size ho)
 .cases q:(h0 w).get? s.heap.objs.size with
  |none=>rfl
  |some o=>exact absurd (Heap.lt_size (hs.keep _ o q True.intro)) (Nat.lt_irrefl _)
 .obtain⟨vs,q⟩:=hs.tabx;exact Nat.ne_of_gt (Heap.lt_size q)
set_option tactic.hygienic true in
theorem Fy{is:List Int}(hX:XU w e X)(hv:∀(j:Nat) (x:Int),is[j]? =some x->∃t,vs[j]? =some (.int x t))(hlen:vs.length=is.length)(haX:ax∉X)(hal:ax≠e.locals)
  (hB:G+1=B/\G≠e.locals/\∃o,s.heap.get? G=some o)(hXB:∀b∈X,b<B)(haB:ax<B)(hq:A.handled=none)(hd:A.depth+51<=990)(hu:A.units+103<=9000)(hs:St (h0 w) (XT [("grouping",.raw (.ref ax))]) e MN s.heap)(hli:s.heap.IsList ax vs.toArray)(ht:GW 6 none [] is=some r):
  Seg (model pw w) A (Pi r B e.locals) (zE r B e.locals X) 6 s (.func UR.body e) ((model pw w).den (.func UR.body e)) [] s:=by
 have law:FN e.scope=false:=by rw[hs.scope];exact Mz
 refine seg_func ?_;rw[zC];refine seg_execs_cons (RB (wpAny_Assign_Name (Constant_none (EK (a:= .none) hs rfl (aT PF) λs2 g2=>?_)) (CY rfl _ _)));refine seg_execs_cons (Fv (GH rfl) (wpAny_mono (CL (ED w) g2.st (by decide) (by decide) ((JE Mx).trans rfl) (Q:=λr c'=>r= .v (.raw (.ref ax))/\c'=_) ⟨rfl,rfl⟩) (λv s3 ⟨c3,as3,a,g3,cv,q1,q2⟩=>?_) λ_ _ x=>x));(obtain rfl:=(Mine.Internal.Res.v.inj q1);clear q1);subst q2;obtain rfl:=HD g3 rfl;subst cv;have li3:s3.heap.IsList ax vs.toArray:=hli.at λo q=>g3.evo.same _ o (g2.evo.same _ o q (λz=>nomatch z) hal True.intro) (λz=>nomatch z) hal True.intro;have lt3:B<=s3.heap.objs.size:=by obtain⟨rfl,q1,o,q2⟩:=hB;exact Heap.lt_size (g3.evo.same _ o (g2.evo.same _ o q2 (λz=>nomatch z) q1 True.intro) (λz=>nomatch z) q1 True.intro)
 have aI:=rI g3.st;have up:∀{ob:Obj} b o,b∉[s3.heap.objs.size]->s3.heap.get? b=some o->(s3.heap.push ob).get? b=some o:=λb o _ q=>Heap.get?_push_of_some _ q;have fl:LS [(("last_interval":Str),AV.none)]:=eP (.inl rfl);have st3:St (h0 w) (XT [("last_interval",.none)]) e MN s3.heap:=g3.st.fewer λx v q=>by
  simp only[List.lookup_cons]at q;split at q
  .rename_i hx;simp only[beq_iff_eq]at hx;subst hx;(obtain rfl:=sj q;clear q);rfl
  .exact BJ q
 refine wpAny_pyIter_list li3 λp=>?_;refine Fx (is:=is) (vs:=vs) hX aI hv hlen (λz=>Nat.lt_irrefl _ (Nat.lt_of_lt_of_le (hXB _ z) lt3)) haX (Nat.ne_of_lt (Nat.lt_of_lt_of_le haB lt3)) hal lt3 hq ⟨?_,?_,hq,λz=>by rw[law]at z;exact ME z⟩ (λf hf n DE s hg=>?_) is 0 5 none [] [("last_interval",.none)] s _ rfl (Nat.zero_le _) fl rfl (st3.bareMove fl rfl up aI) ?_ (li3.at λo q=>Heap.get?_push_of_some _ q) ht rfl ((g2.ran.trans g3.ran).trans ⟨λb o _ _ q=>Heap.get?_push_of_some _ q,Sh.heap _ _ _⟩)
 .show A.depth+1+0+2*0+50<=990;exact hd
 .show A.units+3+0+20*0+100<=9000;exact hu
 .rcases hf with rfl|rfl
  .exact seg_execs_nil (seg_end (.ok (.ret .none)) hg)
  .exact seg_end (.ok (.ret .none)) hg
 .exact⟨_,Heap.get?_push_size _ rfl,rfl,rfl⟩
noncomputable def rJ:FD:=KF (DA 21)
noncomputable def D5:List Stmt:=[.Expr (.Call (.Attribute (.Name "told" ⟨120,8,120,12⟩) "append" ⟨120,8,120,19⟩) [.Name "size" ⟨120,20,120,24⟩] [] ⟨120,8,120,25⟩) ⟨120,8,120,25⟩,
 .If (.Compare (.Call (.Name "len" ⟨121,11,121,14⟩) [.Name "told" ⟨121,15,121,19⟩] [] ⟨121,11,121,20⟩) [.Eq] [.Constant (.int 6) 0 ⟨121,24,121,25⟩] ⟨121,11,121,25⟩) [.Return (some (.Name "told" ⟨122,19,122,23⟩)) ⟨122,12,122,23⟩] [] ⟨121,8,122,23⟩]
theorem zI:rJ.body=[.Assign [.Name "told" ⟨118,4,118,8⟩] (.List [] ⟨118,11,118,13⟩) ⟨118,4,118,13⟩,
 .For (.Name "size" ⟨119,8,119,12⟩) (.Call (.Name "_grouping_intervals" ⟨119,16,119,35⟩) [.Name "row" ⟨119,36,119,39⟩] [] ⟨119,16,119,40⟩) D5 [] ⟨119,4,122,23⟩,.Return (some (.Name "told" ⟨123,11,123,15⟩)) ⟨123,4,123,15⟩]:=by kernel_rfl
theorem Na:rJ.scope.names.lookup ("row":Str)=some NameKind.local:=by kernel_rfl
theorem PG:rJ.scope.names.lookup ("told":Str)=some NameKind.local:=by kernel_rfl
theorem nY:rJ.scope.names.lookup ("size":Str)=some NameKind.local:=by kernel_rfl
theorem Tt:rJ.scope.names.lookup ("_grouping_intervals":Str)=some NameKind.globalImplicit:=by kernel_rfl
theorem Nb:rJ.scope.names.lookup ("len":Str)=some NameKind.globalImplicit:=by kernel_rfl
noncomputable abbrev WD(st:List AO)(L:List (Str×AV))(lo:Nat):AC:=⟨⟨rJ.scope,L,[]⟩,st,lo⟩
theorem MO(h:rJ.scope.names.lookup x=some .local):DB (WD st L lo) x=L.lookup x:=by unfold DB;rw[show(WD st L lo).fr.scope.names.lookup x=some .local from h];rfl
theorem nZ(h:rJ.scope.names.lookup x=some .local):HS (WD st L lo) x v=some (WD st (HW x v L) lo):=by unfold HS;rw[show(WD st L lo).fr.scope.names.lookup x=some .local from h];rfl
theorem jA:DB (WD st L lo) ("len":Str)=some (.blt "len"):=by unfold DB;rw[show(WD st L lo).fr.scope.names.lookup ("len":Str)=some .globalImplicit from Nb];show JA.lookup ("len":Str)=some (.blt "len");kernel_rfl
theorem zJ{x:AV}{k:Nat}:DS rJ [] [x] st k=some (WD st [("row",x)] k):=by kernel_rfl
theorem Tu:(h0 w).toHeap.nsMap mainGlobals "_grouping_intervals"=some (.ref 49):=by kernel_rfl
theorem Fz(hs:St (h0 w) c e as s.heap)(h:c.fr.scope.names.lookup ("_grouping_intervals":Str)=some .globalImplicit){X:Value->Shared->Prop}(q:P (.ref 49) s):wpAny (model pw w) A (eval (.Name "_grouping_intervals" p) e) P X s:=by
 have n3:s.heap.Ns e.globals ((h0 w).toHeap.nsMap mainGlobals):=by rw[hs.glb];exact PE (.of_isNs (nM w)) (λb o q _=>hs.keep b o q True.intro) (by decide)
 exact Name_function_global (CC hs) ((HA hs _).trans h) (loadGlobal_global n3 Tu q) (by decide)
noncomputable def jB(h:Heap)(D:Nat)(is:List Int):Prop:=∃vs,LI h D vs/\vs.length=is.length/\∀(j:Nat) (x:Int),is[j]? =some x->∃t,vs[j]? =some (.int x t)
theorem Nc:∀{is:List Int} {vs:List Value},GK xs=some is->CVs h as xs vs->vs.length=is.length/\∀(j:Nat) (x:Int),is[j]? =some x->∃t,vs[j]? =some (.int x t):=by
 induction xs with
 |nil=>intro is vs h cv;obtain rfl:=sj h;obtain rfl:vs=[]:=cv;exact⟨rfl,λj x q=>BJ q⟩
 |cons y l ih=>
  intro is vs h cv;obtain⟨i,h1,h2⟩:=AD h;obtain⟨is',q1,rfl⟩:=AZ h2;obtain⟨v,t,rfl,hv,ht⟩:=cv;obtain⟨u,rfl⟩:=(AM h1▸hv:CV _ _ (.int i) v);obtain⟨i1,i2⟩:=ih q1 ht;refine⟨congrArg Nat.succ i1,λj x q=>?_⟩;cases j with
  |zero=>exact⟨u,sj q▸rfl⟩
  |succ j=>exact i2 j x q
theorem zK{h:Heap}{as:AH}:∀{is:List Int} {vs:List Value},vs.length=is.length->(∀(j:Nat) (x:Int),is[j]? =some x->∃t,vs[j]? =some (.int x t))->CVs h as (is.map .int) vs
 |[],[],_,_=>by rfl
 |[],_::_,h,_=>by exact nI Nat.ctorIdx h
 |_::_,[],h,_=>by exact nI Nat.ctorIdx h
 |x::r,v::t,h,k=>by obtain⟨u,q⟩:=k 0 x rfl;(obtain rfl:=sj q;clear q);exact⟨_,_,rfl,⟨u,rfl⟩,zK (by simpa using h) λj y q=>k (j+1) y q⟩
theorem St.redo(hs:St AA ⟨fr,st,lo⟩ e as s.heap)(old:∀b o,s.heap.get? b=some o->b≠e.locals->s'.heap.get? b=some o){m:Str->Option Value}(ns:s'.heap.Ns e.locals m)(sh:Sh s s'):Go AA e as.pl.length ⟨fr,st,lo⟩ as s ⟨{fr with locals:=[]},st,lo⟩ as s':=by
 obtain⟨m0,hn,_⟩:=id hs.loc;refine hs.stepS ⟨rfl,Nat.le_refl _,λa o q _ h _=>old a o q h,λa o q=>?_,λa h1 h2=>absurd h1 h2⟩ rfl rfl rfl rfl (λM l o q=>?_) (λM=>⟨m,ns,λx v q=>nomatch q⟩) sh ?_
 .by_cases z:a=e.locals
  .subst z;obtain⟨o',_,_,h,_⟩:=ns;exact⟨o',h⟩
  .exact⟨o,old a o q z⟩
 .obtain⟨a,q1,q2⟩:=hs.objs l o q;exact⟨a,q1,CO.mono M (λo' q3=>old a o' q3 λz=>hs.loff (z▸List.mem_of_getElem? q1)) q2⟩
 .exact hs.tabx.ofNs hn old
theorem zL:∀{last:Option Int} {out row r:List Int},GW n last out row=some r->r.length<=out.length+n:=by
 induction n with
 |zero=>exactλh=>sj h▸Nat.le_refl _
 |succ n ih=>
  intro last out row r h;cases row with
  |nil=>exact sj h▸Nat.le_add_right _ _
  |cons x row=>
   rcases KE (RC.symm.trans h)with⟨_,h⟩|⟨_,h⟩
   .exact sj h▸Nat.le_add_right _ _
   rcases KE h with⟨_,h⟩|⟨_,h⟩
   .obtain⟨y,_,rfl⟩:=AZ h;rw[List.length_append,List.length_replicate];exact Nat.le_refl _
   .have:=ih h;rw[List.length_append]at this;exact Nat.le_trans this (Nat.le_of_eq (by rw[Nat.add_assoc,Nat.add_comm n 1];rfl))
theorem zM{α:Type}(a x:Array α)(u v:α):(a++(#[u]++x)).setIfInBounds a.size v=a++(#[v]++x):=by apply Array.ext';simp
theorem Nd{α:Type}(a x:Array α)(u:α):(a++(#[u]++x))[a.size]? =some u:=by rw[Array.getElem?_append_right (Nat.le_refl _),Nat.sub_self,Array.getElem?_append_left (by exact Nat.succ_pos _)];rfl
structure oN(w:World)(A:Around)(e:Env)(D G C:Nat)(r:List Int)(s1 s:Shared)(j i:Nat):Prop where
 st:St (h0 w) (WD [] [("told",.raw (.ref D))] 0) e MN s.heap
 old:∀b o,s1.heap.get? b=some o->b≠e.locals->s.heap.get? b=some o
 told:jB s.heap D (r.take i)
 gen:s.heap.IsGen G s1.gens.size
 gens:∃gs x,s.gens=s1.gens++(#[gs]++x)/\AllBare x/\gs.bare=true/\(j<6->∃hy:Heap,(∀b o,b∉[e.locals,D]->hy.get? b=some o->s.heap.get? b=some o)/\
  ∀s'':Shared,(∀b o,b∉[e.locals,D]->hy.get? b=some o->s''.heap.get? b=some o)->gs.Goes (model pw w) A.in1 (Pi r (G+1) C) (zE r (G+1) C [e.locals,D]) (6-j) (.send .none) s'')
 drawn:s.drawn=s1.drawn
 os:s.os=s1.os
 toks:s1.toks<=s.toks
structure Zu(w:World)(e:Env)(D:Nat)(r:List Int)(s1 s:Shared):Prop where
 st:St (h0 w) (WD [] [("told",.raw (.ref D))] 0) e MN s.heap
 old:∀b o,s1.heap.get? b=some o->b≠e.locals->s.heap.get? b=some o
 told:jB s.heap D r
 sh:Sh s1 s
structure Pj(w:World)(e:Env)(D G C:Nat)(s1:Shared):Prop where
 al:∀b o,s1.heap.get? b=some o->b<G+1/\b≠C
 ba:∀b o,(h0 w).get? b=some o->s1.heap.get? b=some o
 tb:∃o,s1.heap.get? BO=some o
 lo:∃o,s1.heap.get? e.locals=some o
 D1:s1.heap.get? D=none
 G1:s1.heap.get? G=none
 DG:D<G
 DC:D≠C
 GC:G≠C
theorem Pj.k(Lx:Pj w e D G C s1):∀b o,(h0 w).get? b=some o\/b=e.locals\/b=BO->b<G+1/\b≠C:=λb o q=>by
 rcases q with q|q|q
 .exact Lx.al b _ (Lx.ba b o q)
 .obtain⟨o',h⟩:=Lx.lo;exact Lx.al b o' (q▸h)
 .obtain⟨o',h⟩:=Lx.tb;exact Lx.al b o' (q▸h)
theorem Ga(Lx:Pj w e D G C s1)(hq:A.handled=none)(hd:A.depth<recursionLimit)(S:oN w A e D G C r s1 s j i)(hj:j<=5){P:Option Value->Shared->Prop}
  (k1:∀v s',(∃x t,v= .int x t/\r[j]? =some x)->oN w A e D G C r s1 s' (j+1) i->P (some v) s')(k2:∀s',r.length=j->St (h0 w) (WD [] [("told",.raw (.ref D))] 0) e MN s'.heap->(∀b o,s1.heap.get? b=some o->b≠e.locals->s'.heap.get? b=some o)->jB s'.heap D (r.take i)->Sh s1 s'->P none s'):
  wpAny (model pw w) A (pyNext (.ref G)) P no s:=by
 obtain⟨gs,x,h1,h2,h3,h4⟩:=S.gens;obtain⟨hy,h5,h6⟩:=h4 (by exact Nat.succ_le_succ hj);have hn:6-j=5-j+1:=Nat.succ_sub hj;have hgo:=h6 (s.setGen s1.gens.size .running) h5;rw[hn]at hgo;have hl:s.heap.NoLimit:=St.noLimit (ED w) S.st;have hgs:s.gens[s1.gens.size]? =some gs:=by rw[h1];exact Nd _ _ _
 have sg:(s.setGen s1.gens.size .running).gens=s1.gens++(#[GenState.running]++x):=by show s.gens.setIfInBounds _ _=_;rw[h1];exact zM _ _ _ _
 have go1:∀{BX:Shared} {gs':GenState},Sh (s.setGen s1.gens.size .running) BX->∃x',(BX.setGen s1.gens.size gs').gens=s1.gens++(#[gs']++x')/\AllBare x':=λ{BX gs'} sh=>by obtain⟨_,_,y,hy1,_,hy2⟩:=sh;refine⟨x++y,?_,λz hz=>(Array.mem_append.mp hz).elim (h2 z) (hy2 z)⟩;show BX.gens.setIfInBounds _ _=_;rw[hy1,sg,Array.append_assoc,Array.append_assoc];exact zM _ _ _ _
 have mv:∀{h':Heap},(∀b o,b<G+1->b≠C->s.heap.get? b=some o->h'.get? b=some o)->St (h0 w) (WD [] [("told",.raw (.ref D))] 0) e MN h'/\(∀b o,s1.heap.get? b=some o->b≠e.locals->h'.get? b=some o)/\jB h' D (r.take i):=λ{h'} k=>by refine⟨S.st.bareK (eP (.inr (.inr ⟨_,rfl⟩))) rfl λb o q=>k b o (Lx.k b _ (q.imp (λz=>z) λz=>z)).1 (Lx.k b o q).2,λb o q z=>k b o (Lx.al b o q).1 (Lx.al b o q).2 (S.old b o q z),?_⟩;obtain⟨vs,⟨m,q⟩,r⟩:=S.told;exact⟨vs,⟨m,k _ _ (Nat.lt_succ_of_lt Lx.DG) Lx.DC q⟩,r⟩
 refine iY (P:=λn DE BX=>r.length+n=6/\nX (G+1) C DE BX) hq hl hd S.gen hgs hgo (λv BX gs' hb hv=>?_) (λBX hp h' hk=>?_)
 .obtain⟨⟨y,t,rfl,hx⟩,ran,hk⟩:=hv;obtain⟨m1,m2,m3⟩:=mv ran.1;obtain⟨x',e1,e2⟩:=go1 (gs':=gs') ran.2;refine k1 _ _ ⟨y,t,rfl,(congrArg (λi=>r[i]?) (Nat.sub_sub_self hj).symm).trans hx⟩ ⟨m1,m2,m3,?_,⟨gs',x',e1,e2,hb,λhj'=>⟨BX.heap,λ_ _ _ q=>q,λs'' k=>?_⟩⟩,ran.2.1.trans S.drawn,ran.2.2.1.trans S.os,Nat.le_trans S.toks ran.2.tk⟩
  .obtain⟨o,nm,qn,ho,rr⟩:=S.gen;exact⟨o,nm,qn,ran.1 _ _ (Nat.lt_succ_self _) Lx.GC ho,rr⟩
  .rcases hk with hk|hk
   .exact absurd (show 5-j=0 from hk) (Nat.sub_ne_zero_of_lt (Nat.lt_of_succ_lt_succ hj'))
   .have:=hk s'' k;rw[show 6-(j+1)=5-j from Nat.succ_sub_succ 5 j];exact this
 .obtain⟨hlen,ran⟩:=hp;obtain⟨x',e1,e2⟩:=go1 (gs':= .finished) ran.2;obtain⟨m1,m2,m3⟩:=mv (h':=h') λb o q1 q2 q3=>hk b o (ran.1 b o q1 q2 q3);refine k2 _ (Nat.add_right_cancel ((by rw[hn];exact hlen:r.length+(6-j)=6).trans (Nat.add_sub_of_le (Nat.le_succ_of_le hj)).symm)) m1 m2 m3 ⟨ran.2.1.trans S.drawn,ran.2.2.1.trans S.os,#[GenState.finished]++x',e1,Nat.le_trans S.toks ran.2.tk,λz hz=>(Array.mem_append.mp hz).elim (λq=>?_) (e2 z)⟩;rw[AR (Array.mem_def.mp q)];rfl
theorem oN.step{i':Nat}(Lx:Pj w e D G C s1)(S:oN w A e D G C r s1 s j i)(st':St (h0 w) (WD [] [("told",.raw (.ref D))] 0) e MN s'.heap)(k:∀b o,b∉[e.locals,D]->s.heap.get? b=some o->s'.heap.get? b=some o)(sh:Sh s s')
  (told':jB s'.heap D (r.take i')):oN w A e D G C r s1 s' j i':=by
 obtain⟨gs,x,h1,h2,h3,h4⟩:=S.gens;obtain⟨d1,d2,y,d3,d4,d5⟩:=sh;have nG:G∉[e.locals,D]:=λz=>by
  rcases AN z with z|z
  .obtain⟨o,h⟩:=Lx.lo;rw[<-z,Lx.G1]at h;exact BJ h
  .have:=AR z;have:=Lx.DG;exact Nat.not_le_of_lt this (Nat.le_of_eq ‹_›)
 refine⟨st',λb o q z=>k b o (λz'=>?_) (S.old b o q z),told',?_,⟨gs,x++y,by simp only[d3,h1,Array.append_assoc,Array.append_assoc],λz hz=>(Array.mem_append.mp hz).elim (h2 z) (d5 z),h3,λhj=>let ⟨hy,h5,h6⟩:=h4 hj;⟨hy,λb o q z=>k b o q (h5 b o q z),h6⟩⟩,d1.trans S.drawn,d2.trans S.os,Nat.le_trans S.toks d4⟩
 .rcases AN z' with z'|z'
  .exact z z'
  .replace q:=Lx.D1▸(AR z')▸q;exact BJ q
 .obtain⟨o,nm,qn,ho,rr⟩:=S.gen;exact⟨o,nm,qn,k _ _ nG ho,rr⟩
theorem oN.sh(S:oN w A e D G C r s1 s j i):Sh s1 s:=by obtain⟨gs,x,h1,h2,h3,_⟩:=S.gens;refine⟨S.drawn,S.os,#[gs]++x,h1,S.toks,λz hz=>(Array.mem_append.mp hz).elim (λq=>?_) (h2 z)⟩;rw[AR (Array.mem_def.mp q)];exact h3
set_option tactic.hygienic true in
theorem Gb{v:Value}(Lx:Pj w e D G C s1)(hr:AL A e 0)(S:oN w A e D G C r s1 s (j+1) j)(hj:j<=5)(hl:r.length<=6)(hv:∃x t,v= .int x t/\r[j]? =some x){P:Flow->Shared->Prop}
  (k1:∀s',oN w A e D G C r s1 s' (j+1) (j+1)->j+1<=5->P .next s')(k2:∀s',Zu w e D r s1 s'->P (.ret (.ref D)) s'):
  wpAny (model pw w) A (assign (.Name "size" ⟨119,8,119,12⟩) e v) (λ_ s2=>wpAny (model pw w) A (execs D5 e) P no s2) no s:=by
 obtain⟨x,t,rfl,hx⟩:=hv;have T:=ED w;refine wpAny_assign_Name (EK S.st (a:= .int x) ⟨t,rfl⟩ (nZ nY) λs2 g2=>?_);have l2t:(HW ("size":Str) (.int x) [(("told":Str),AV.raw (.ref D))]).lookup ("told":Str)=some (.raw (.ref D)):=by rw[CE,if_neg (by decide)];rfl
 have l2s:(HW ("size":Str) (.int x) [(("told":Str),AV.raw (.ref D))]).lookup ("size":Str)=some (.int x):=by rfl
 have lo:e.locals≠D:=λz=>by obtain⟨o,h⟩:=Lx.lo;rw[z,Lx.D1]at h;exact BJ h
 obtain⟨vs,⟨n,hD⟩,hn,hvs⟩:=S.told;have hD2:=g2.evo.same _ _ hD (λz=>nomatch z) lo.symm True.intro;refine wpAny_execs_cons (wpAny_Expr_any (wpAny_Call_append rfl rfl rfl rfl (wpAny_mono (CL T g2.st (by decide) (by decide) ((MO PG).trans l2t) (Q:=λr c'=>r= .v (.raw (.ref D))/\c'=_) ⟨rfl,rfl⟩) (λv3 s3 ⟨c3,as3,a3,g3,cv3,q1,q2⟩=>?_) λ_ _ x=>x)) (by unfold interactive;exact(CC S.st)▸rfl) (CY rfl _ _));(obtain rfl:=(Mine.Internal.Res.v.inj q1);clear q1);subst q2;obtain rfl:=HD g3 rfl;subst cv3;have hD3:=g3.evo.same _ _ hD2 (λz=>nomatch z) lo.symm True.intro;refine⟨D,vs.toArray,rfl,⟨_,n,hD3,rfl,rfl,rfl⟩,wpAny_mono (CL T g3.st (by decide) (by decide) ((MO nY).trans l2s) (Q:=λr c'=>r= .v (.int x)/\c'=_) ⟨rfl,rfl⟩) (λv4 s4 ⟨c4,as4,a4,g4,cv4,q1,q2⟩=>?_) λ_ _ x=>x⟩;(obtain rfl:=(Mine.Internal.Res.v.inj q1);clear q1);subst q2;obtain rfl:=HD g4 rfl;obtain⟨t4,rfl⟩:=cv4;have hD4:=g4.evo.same _ _ hD3 (λz=>nomatch z) lo.symm True.intro;refine append_at hD4 (λh5 sb5 hD5=>?_) (by rw[List.size_toArray,hn,sizeLine_eq,List.length_take];exact Nat.le_trans (Nat.min_le_left ..) (oA hj));have aD:∀b∈[D],b≠e.locals/\(h0 w).get? b=none/\b≠BO:=λb hb=>by
  obtain rfl:=AR hb;refine⟨lo.symm,?_,λz=>?_⟩
  .cases q:(h0 w).get? b with
   |none=>rfl
   |some o=>have:=Lx.ba _ _ q;rw[Lx.D1]at this;exact BJ this
  .obtain⟨o,h⟩:=Lx.tb;rw[<-z,Lx.D1]at h;exact BJ h
 have fl2:LS (HW ("size":Str) (.int x) [(("told":Str),AV.raw (.ref D))]):=(eP (.inr (.inr ⟨_,rfl⟩))).put (.inr (.inl ⟨_,rfl⟩));have k5:∀b o,b∉[D]->s4.heap.get? b=some o->h5.get? b=some o:=λb o z q=>(sb5.2 b λy=>z (by rw[y];exact .head _)).trans q;have st5:=g4.st.bareMove fl2 rfl k5 aD;have told5:jB h5 D (r.take (j+1)):=by
  refine⟨vs++[.int x t4],⟨n+1,by rw[hD5];simp⟩,?_,λi y q=>?_⟩
  .have:j<r.length:=(EC hx);rw[List.length_append,hn,List.length_take,List.length_take,Nat.min_eq_left (by exact(Nat.le_of_lt this)),Nat.min_eq_left (by exact this)];rfl
  .have hj':j<r.length:=(EC hx);have hn':vs.length=j:=by rw[hn,List.length_take];exact Nat.min_eq_left (Nat.le_of_lt hj')
   replace q:=List.getElem?_take▸q;split at q
   .rename_i hi;by_cases hij:i=j
    .subst hij;replace q:=hx▸q;(replace q:=sj q;subst q);exact⟨t4,by rw[List.getElem?_append_right (by exact(Nat.le_of_eq hn')),hn',Nat.sub_self];rfl⟩
    .rw[List.getElem?_append_left (by lia)];exact hvs i y (by rw[List.getElem?_take,if_pos (by exact Nat.lt_of_le_of_ne (Nat.le_of_lt_succ hi) hij)];exact q)
   .exact BJ q
 have g24:=g2.trans (g3.trans g4 (Nat.zero_le _)) (Nat.zero_le _);have keep5:∀b o,b∉[e.locals,D]->s.heap.get? b=some o->h5.get? b=some o:=λb o z q=>k5 b o (λy=>z (.tail _ y)) (g24.evo.same b o q (λz=>nomatch z) (λy=>z (y▸ .head _)) True.intro);have more:∀{s7:Shared},Go (h0 w) e 0 (WD [] (HW ("size":Str) (.int x) [(("told":Str),AV.raw (.ref D))]) 0) MN {s4 with heap:=h5} (WD [] (HW ("size":Str) (.int x) [(("told":Str),AV.raw (.ref D))]) 0) MN s7->oN w A e D G C r s1 s7 (j+1) (j+1):=λ{s7} g=>by
  refine S.step Lx (g.st.fewer λy v q=>?_) (λb o z q=>g.evo.same b o (keep5 b o z q) (λz=>nomatch z) (λy=>z (y▸ .head _)) True.intro) ((g24.sh.trans (Sh.heap s4 h5 s4.toks)).trans g.sh) ?_
  .simp only[List.lookup_cons]at q;split at q
   .rename_i hy;simp only[beq_iff_eq]at hy;subst hy;(obtain rfl:=sj q;clear q);exact l2t
   .exact BJ q
  .obtain⟨us,⟨m,q1⟩,q2⟩:=told5;exact⟨us,⟨m,g.evo.same _ _ q1 (λz=>nomatch z) lo.symm True.intro⟩,q2⟩
 refine wpAny_execs_cons (wpAny_If (wpAny_isTrue_Compare1 ?_ rfl));refine FR (s:={s4 with heap:=h5}) T st5 (F:= .blt "len") (by decide) jA rfl λv6 s6 g6 cv6=>?_;subst cv6;refine dW rfl (wpAny_mono (CL T g6.st (by decide) (by decide) ((MO PG).trans l2t) (Q:=λr c'=>r= .v (.raw (.ref D))/\c'=_) ⟨rfl,rfl⟩) (λv7 s7 ⟨c7,as7,a7,g7,cv7,q1,q2⟩=>?_) λ_ _ x=>x);(obtain rfl:=(Mine.Internal.Res.v.inj q1);clear q1);subst q2;obtain rfl:=HD g7 rfl;subst cv7;have S7:=more (g6.trans g7 (Nat.zero_le _));obtain⟨us,hus,hun,_⟩:=id S7.told;have hj':j<r.length:=(EC hx);have hun':us.length=j+1:=by rw[hun,List.length_take];exact Nat.min_eq_left hj'
 refine⟨EW,len_list hus.isList (by rw[List.size_toArray,hun'];exact Int.ofNat_lt.mpr (Nat.lt_of_le_of_lt (Nat.succ_le_succ hj) (by decide))) ?_⟩;refine(Eq.symm List.size_toArray)▸(Eq.symm hun')▸?_;have g8:=g7.st.toks (s7.toks+1+1);refine wpAny_mono (gQ g8.st (k:= .int 6) (Q:=λr c'=>r= .v (.int 6)/\c'=_) ⟨rfl,rfl⟩) (λv9 s9 ⟨c9,as9,a9,g9,cv9,q1,q2⟩=>?_) λ_ _ x=>x;(obtain rfl:=(Mine.Internal.Res.v.inj q1);clear q1);subst q2;obtain rfl:=HD g9 rfl;have g79:=(g6.trans g7 (Nat.zero_le _)).trans (g8.trans g9 (Nat.zero_le _)) (Nat.zero_le _);refine QO T g9.st hr (op:= .Eq) (a:= .int ((j+1:Nat):Int)) (b:= .int 6) (z:=decide (((j+1:Nat):Int)=6)) ⟨_,rfl⟩ cv9 rfl λtk htk=>wpAny_truthy_bool ?_;have g10:=g79.trans (g9.st.toks tk htk) (Nat.zero_le _);by_cases h6:j=5
 .subst h6;refine wpAny_execs_cons (wpAny_Return_some (wpAny_mono (CL T g10.st (by decide) (by decide) ((MO PG).trans l2t) (Q:=λr c'=>r= .v (.raw (.ref D))/\c'=_) ⟨rfl,rfl⟩) (λv11 s11 ⟨c11,as11,a11,g11,cv11,q1,q2⟩=>?_) λ_ _ x=>x));(obtain rfl:=(Mine.Internal.Res.v.inj q1);clear q1);subst q2;obtain rfl:=HD g11 rfl;subst cv11;have S11:=more (g10.trans g11 (Nat.zero_le _));exact k2 _ ⟨S11.st,S11.old,by have:=S11.told;rwa[List.take_of_length_le hl]at this,S11.sh⟩
 .rw[decide_eq_false (by lia)];exact wpAny_execs_nil (wpAny_execs_nil (k1 _ (more g10) (by exact Nat.lt_of_le_of_ne hj h6)))
theorem St.toBare(hs:St AA ⟨fr,st,lo⟩ e as h)(hl:∃m,QM L MN h e.locals m):St AA ⟨⟨fr.scope,L,[]⟩,[],0⟩ e MN h:=
 ⟨hs.keep,hs.tab,hs.tabx,rfl,List.nodup_nil,λa ha=>(nomatch ha),hs.ptab,λl o q=>(by simp at q),λha=>(nomatch ha),hs.lbase,hs.ltab,hs.scope,hs.kind,hs.glb,hs.blt,λx l q=>(by exact BJ q),hl,Nat.zero_le _,λa ha=>(nomatch ha)⟩
theorem zN{x:AV}:DS UR [] [x] [] 0=some (XT [("grouping",x)]):=by kernel_rfl
theorem Jf:UR.scope.isGenerator=true/\params UR=[("grouping":Str)]:=by refine⟨?_,?_⟩<;>kernel_rfl
theorem Gc(hs:St (h0 w) c e MN s.heap)(hd:A.depth<1000){X:Value->Shared->Prop}
  (k:∀s4 env,env.locals=s.heap.objs.size->(∀b o,b≠env.locals->s.heap.get? b=some o->s4.heap.get? b=some o)->Sh s s4->St (h0 w) (XT [("grouping",.raw (.ref ax))]) env MN s4.heap->∀s5,s5.heap.IsGen s4.heap.objs.size s4.gens.size->
   (∀b o,s4.heap.get? b=some o->s5.heap.get? b=some o)->s5.gens=s4.gens.push (.fresh (.func UR.body env))->s5.drawn=s4.drawn->s5.os=s4.os->s4.toks<=s5.toks->P (.ref s4.heap.objs.size) s5):
  wpAny (model pw w) A (PySem.call (.ref 49) [.ref ax]) P X s:=by
 have T:=ED w;obtain⟨o,f,h1,h2,⟨h3,h4,h5,h6,h7,h8⟩,h9,h10,bd⟩:=JJ T hs (a:=49) (fd:=UR) rfl;refine wpAny_call (codeAny_call_generator hd h1 h2 (by rw[h3];exact nW) (by rw[h3];exact Jf.1) h4 h10 ?_);have hf:∀E:Env,E.scope=UR.scope->E.locals=s.heap.objs.size->E.globals=mainGlobals->E.builtins=builtinsNs->St (h0 w) ⟨⟨UR.scope,[],[]⟩,[],0⟩ E MN (s.heap.push {cls:= .type "frame",data:= .dict #[]}):=λE h1 h2 h3 h4=>(St.bare (s:={s with heap:=s.heap.push {cls:= .type "frame",data:= .dict #[]}}) (hs.frame0 (T:="frame") h1 h2 h3 h4 Fw).1 (H:=[]) λa ha=>(nomatch ha)).1;rw[bd f [.ref ax] h5 h8 (by show(params UR).length=1;rw[Jf.2];rfl),h3,h6,h7,h9];refine wpAny_pure (wpAny_mono (QQ (AA:=h0 w) (names:=params UR) (vs:=[.raw (.ref ax)]) (as0:=MN) (st0:=[]) (lo0:=0) (acl:=[]) rfl (hf _ rfl rfl rfl rfl) ⟨_,_,rfl,rfl,rfl⟩ zN (P:=λenv GJ=>_) λas1 s4 env he g=>?_) (λ_ _ x=>x) λ_ _ x=>x.elim);obtain⟨cells,rfl⟩:=he;obtain rfl:=HD g rfl;refine⟨g.st.noLimit T,k s4 _ rfl (λb o hb q=>g.evo.same b o (Heap.get?_push_of_some _ q) (λz=>nomatch z) hb True.intro) g.sh g.st _ ⟨_,_,_,Heap.get?_push_size _ rfl,rfl,rfl,rfl⟩ (λb o q=>Heap.get?_push_of_some _ q) rfl rfl rfl (by show s4.toks<=s4.toks+1+1;simp+arith)⟩
theorem Tv:QR rJ=true:=by kernel_rfl
set_option tactic.hygienic true in
theorem Gd{is:List Int}(hd:A.depth+51<=990)(hu:A.units+104<=9000)(hr:AL A e 0)(hs:St (h0 w) (WD st [("row",.flist xs)] lo) e as s.heap)(hi:GK xs=some is)(ht:GW 6 none [] is=some r):
  wpAny (model pw w) A (execs rJ.body e) (CP (h0 w) e (WD st [("row",.flist xs)] lo) as s (VY λaf c2=>af= .ret (.flist (r.map .int))/\c2.st=st)) no s:=by
 have T:=ED w;obtain⟨m,hn,hl⟩:=hs.loc;obtain⟨r0,hm,ax,vs,rfl,hoff,hli,hcv⟩:=hl "row" _ rfl;obtain⟨hlen,hv⟩:=Nc hi hcv;have hb:St (h0 w) (WD [] [("row",.raw (.ref ax))] 0) e MN s.heap:=hs.toBare ⟨m,hn,λx v q=>by
  simp only[List.lookup_cons]at q;split at q
  .rename_i hx;simp only[beq_iff_eq]at hx;subst hx;(obtain rfl:=sj q;clear q);exact⟨_,hm,rfl⟩
  .exact BJ q⟩
 have e0:∃o,s.heap.get? e.locals=some o:=let ⟨o,_,_,ho,_⟩:=hn;⟨o,ho⟩;have t0:∃o,s.heap.get? BO=some o:=let ⟨_,q⟩:=hs.tabx;⟨_,q⟩;have fin:∀{D:Nat} {s':Shared},s.heap.get? D=none->(∀b o,s.heap.get? b=some o->b≠e.locals->s'.heap.get? b=some o)->St (h0 w) (WD [] [("told",.raw (.ref D))] 0) e MN s'.heap->jB s'.heap D r->Sh s s'->CP (h0 w) e (WD st [("row",.flist xs)] lo) as s (VY λaf c2=>af= .ret (.flist (r.map .int))/\c2.st=st) (.ret (.ref D)) s':=λ{D s'} h1 h2 h3 ⟨us,h4,h5,h6⟩ h7=>by
  obtain⟨m',hn',_⟩:=h3.loc;have nh:∀a o,s.heap.get? a=some o->a≠D:=λa o q z=>by replace q:=h1▸z▸q;exact BJ q
  refine⟨_,as,.ret (.flist (r.map .int)),(hs.redo h2 hn' h7).le hs.low,⟨_,rfl,D,us,rfl,⟨λz=>?_,λz=>?_,True.intro⟩,h4,zK (by exact h5) λj x q=>h6 j x q⟩,rfl,rfl⟩
  .obtain⟨o,q⟩:=hs.mem_lt z;exact nh _ o q rfl
  .obtain⟨⟨o,q⟩,_⟩:=hs.hid _ z;exact nh _ o q rfl
 rw[zI];refine wpAny_execs_cons (wpAny_Assign_Name (wpAny_List (args_nil ⟨Nat.zero_le _,?_⟩)) (CY rfl _ _));have gp:=hb.push {cls:= .type "list",data:= .seq #[]} s.toks;generalize hD:s.heap.objs.size=D at gp;have D1:s.heap.get? D=none:=hD▸HB;have De:D≠e.locals:=λz=>by obtain⟨o,q⟩:=e0;rw[<-z,D1]at q;exact BJ q
 refine EK gp.st (a:= .raw (.ref D)) rfl (nZ PG) λs2 g2=>?_;have hD2:s2.heap.get? D=some {cls:= .type "list",data:= .seq #[]}:=g2.evo.same _ _ (hD▸Heap.get?_push_size _ rfl) (λz=>nomatch z) De True.intro;have l2t:(HW ("told":Str) (AV.raw (.ref D)) [(("row":Str),AV.raw (.ref ax))]).lookup ("told":Str)=some (.raw (.ref D)):=by rfl
 have l2r:(HW ("told":Str) (AV.raw (.ref D)) [(("row":Str),AV.raw (.ref ax))]).lookup ("row":Str)=some (.raw (.ref ax)):=by rw[CE,if_neg (by decide)];rfl
 refine wpAny_execs_cons (wpAny_For ?_ (GH rfl));refine Call_ (Fz g2.st Tt ?_) QS;refine RP rfl (dW rfl (wpAny_mono (CL T g2.st (by decide) (by decide) ((MO Na).trans l2r) (Q:=λr c'=>r= .v (.raw (.ref ax))/\c'=_) ⟨rfl,rfl⟩) (λv3 s3 ⟨c3,as3,a3,g3,cv3,q1,q2⟩=>?_) λ_ _ x=>x.elim));(obtain rfl:=(Mine.Internal.Res.v.inj q1);clear q1);subst q2;obtain rfl:=HD g3 rfl;subst cv3;have g13:=gp.trans (g2.trans g3 (Nat.zero_le _)) (Nat.zero_le _);have hD3:=g3.evo.same _ _ hD2 (λz=>nomatch z) De True.intro;have k13:∀b o,b≠e.locals->s.heap.get? b=some o->s3.heap.get? b=some o:=λb o h q=>g13.evo.same b o q (λz=>nomatch z) h True.intro;refine⟨(JJ T g3.st (a:=49) rfl).keeps,Gc g3.st (by have:=hr.depth;exact oD hd) λs4 env hC k4 sh4 st4 s5 G5 k5 e5 d5 o5 t5=>?_⟩;refine wpAny_pyIter_gen G5 ?_;generalize hG:s4.heap.objs.size=G at G5;have live3:∀b o,s.heap.get? b=some o->∃o',s3.heap.get? b=some o':=λb o q=>g13.evo.alive b o q;have lt3:∀b o,s.heap.get? b=some o->b≠env.locals/\b<G:=λb o q=>by obtain⟨o',q'⟩:=live3 b o q;have hb':b≠env.locals:=hC▸Nat.ne_of_lt (Heap.lt_size q');exact⟨hb',hG▸Heap.lt_size (k4 b o' hb' q')⟩
 have D3:D≠env.locals:=hC▸Nat.ne_of_lt (Heap.lt_size hD3);have hD4:=k4 _ _ D3 hD3;have hCG:env.locals<G:=by obtain⟨m4,⟨o,_,_,ho,_⟩,_⟩:=st4.loc;exact hG▸Heap.lt_size ho
 have axl:ax≠e.locals:=by obtain⟨k,q⟩:=hli;exact JV.ne (.inl ⟨_,_,rfl⟩) q hn
 have axD:ax≠D:=λz=>by obtain⟨k,q⟩:=hli;rw[z,D1]at q;exact BJ q
 obtain⟨n0,hli0⟩:=id hli;have Lx:Pj w e D G env.locals {s4 with heap:=s.heap}:=⟨λb o q=>⟨Nat.lt_succ_of_lt (lt3 b o q).2,(lt3 b o q).1⟩,λb o q=>hs.keep b o q True.intro,t0,e0,D1,by
  cases q:s.heap.get? G with
  |none=>rfl
  |some o=>exact absurd (lt3 _ o q).2 (Nat.lt_irrefl _),hG▸Heap.lt_size hD4,D3,Nat.ne_of_gt hCG⟩
 have k15:∀b o,b≠e.locals->s.heap.get? b=some o->s5.heap.get? b=some o:=λb o h q=>k5 b o (k4 b o (lt3 b o q).1 (k13 b o h q));have aX:XU w env [e.locals,D]:=λb hb=>by
  rcases AN hb with rfl|hb
  .obtain⟨o,q⟩:=e0;exact⟨(lt3 _ o q).1,hs.lbase,λz=>by obtain⟨vs',q'⟩:=hs.tabx;exact GZ.ne q' hn z.symm⟩
  .obtain rfl:=AR hb;refine⟨D3,?_,λz=>?_⟩
   .cases q:(h0 w).get? b with
    |none=>rfl
    |some o=>have:=hs.keep _ _ q True.intro;rw[D1]at this;exact BJ this
   .obtain⟨o,q⟩:=t0;rw[<-z,D1]at q;exact BJ q
 have st3:St (h0 w) (WD [] [("told",.raw (.ref D))] 0) e MN s3.heap:=g3.st.fewer λx v q=>by
  simp only[List.lookup_cons]at q;split at q
  .rename_i hx;simp only[beq_iff_eq]at hx;subst hx;(obtain rfl:=sj q;clear q);exact l2t
  .exact BJ q
 have S0:oN w A e D G env.locals r {s4 with heap:=s.heap} s5 0 0:=by
  refine⟨st3.bareK (eP (.inr (.inr ⟨_,rfl⟩))) rfl (λb o q q'=>k5 b o (k4 b o (Lx.k b _ (q.imp (λz=>z) λz=>z)).2 q')),λb o q h=>k15 b o h q,⟨[],⟨0,k5 _ _ hD4⟩,rfl,λj x q=>by simp at q⟩,G5,⟨.fresh (.func UR.body env),#[],by rw[e5];rfl,.empty,rfl,λ_=>⟨s5.heap,λ_ _ _ q=>q,λs'' k=>⟨rfl,?_⟩⟩⟩,d5,o5,t5⟩;have G'':∃o,s''.heap.get? G=some o:=by
   obtain⟨o,_,_,ho,_⟩:=G5;refine⟨o,k _ _ (λz=>?_) ho⟩;rcases AN z with z|z
   .obtain⟨o',q⟩:=e0;exact absurd (z▸(lt3 _ o' q).2) (Nat.lt_irrefl _)
   .exact absurd (AR z) (Nat.ne_of_gt Lx.DG)
  refine Fy (A:=A.in1) (e:=env) (s:=s'') aX hv hlen (λz=>?_) (lt3 _ _ hli0).1 ⟨rfl,Nat.ne_of_gt hCG,G''⟩ (λb hb=>?_) (Nat.lt_succ_of_lt (lt3 _ _ hli0).2) hr.quiet hd (by show A.units+1+103<=9000;exact hu) (st4.bareMove (eP (.inr (.inr ⟨_,rfl⟩))) rfl (λb o z q=>k b o z (k5 b o q)) aX) ?_ ht
  .rcases AN z with z|z
   .exact axl z
   .exact axD (AR z)
  .rcases AN hb with rfl|hb
   .obtain⟨o',q⟩:=e0;exact Nat.lt_succ_of_lt (lt3 _ o' q).2
   .obtain rfl:=AR hb;exact Nat.lt_succ_of_lt Lx.DG
  .refine(LI.isList hli).at λo q=>k _ _ (λz=>?_) (k15 _ o axl q);rcases AN z with z|z
   .exact axl z
   .exact axD (AR z)
 have sh':∀{s':Shared},Sh {s4 with heap:=s.heap} s'->Sh s s':=λh=>((g13.sh.trans sh4:Sh s s4)).trans h;have hlen6:r.length<=6:=by have:=zL ht;exact this
 refine codeAny_forLoop_any (λn s'=>∃j,j<=5/\n=6-j/\oN w A e D G env.locals r {s4 with heap:=s.heap} s' j j) (λn s' ⟨j,hj,hn',S⟩=>?_) 6 ⟨0,Nat.zero_le _,rfl,S0⟩;refine wpAny_mono (Ga Lx hr.quiet (Nat.lt_of_le_of_lt (Nat.le_trans (Nat.le_add_right _ 51) hd) (by decide)) S hj (P:=λo BX=>match o with
  |none=>Zu w e D r {s4 with heap:=s.heap} BX
  |some v=>(∃x t,v= .int x t/\r[j]? =some x)/\oN w A e D G env.locals r {s4 with heap:=s.heap} BX (j+1) j) (λv BX h1 h2=>⟨h1,h2⟩) λBX h1 h2 h3 h4 h5=>⟨h2,h3,by rwa[List.take_of_length_le (Nat.le_of_eq h1)]at h4,h5⟩) (λo BX h=>?_) λ_ _ x=>x.elim
 cases o with
 |none=>refine wpAny_execs_nil (wpAny_execs_cons (wpAny_Return_some (wpAny_mono (CL T h.st (by decide) (by decide) ((MO PG).trans rfl) (Q:=λr c'=>r= .v (.raw (.ref D))/\c'=_) ⟨rfl,rfl⟩) (λv GJ ⟨c2,as2,a2,g,cv,q1,q2⟩=>?_) λ_ _ x=>x)));(obtain rfl:=(Mine.Internal.Res.v.inj q1);clear q1);subst q2;obtain rfl:=HD g rfl;subst cv;have De':∀b o,b≠e.locals->BX.heap.get? b=some o->GJ.heap.get? b=some o:=λb o h q=>g.evo.same b o q (λz=>nomatch z) h True.intro;obtain⟨us,⟨n,q1⟩,q2⟩:=h.told;exact fin D1 (λb o q z=>De' b o z (h.old b o q z)) g.st ⟨us,⟨n,De' _ _ De q1⟩,q2⟩ (sh' (h.sh.trans g.sh))
 |some v=>
  refine wpAny_pure (wpAny_mono (Gb Lx hr h.2 hj hlen6 h.1 (P:=λf IK=>match f with
   | .next=>oN w A e D G env.locals r {s4 with heap:=s.heap} IK (j+1) (j+1)/\j+1<=5
   | .ret u=>u= .ref D/\Zu w e D r {s4 with heap:=s.heap} IK
   |_=>False) (λs' h1 h2=>⟨h1,h2⟩) λs' h1=>⟨rfl,h1⟩) (λ_ GJ h2=>wpAny_mono h2 (λf IK h3=>?_) λ_ _ x=>x.elim) λ_ _ x=>x.elim)
  cases f with
  |next=>exact⟨6-(j+1),by rw[hn'];exact Nat.sub_lt_sub_left (Nat.lt_succ_of_le hj) (Nat.lt_succ_self j),j+1,h3.2,rfl,h3.1⟩
  |cont=>exact h3.elim
  |brk=>exact h3.elim
  |ret u=>obtain⟨rfl,h3⟩:=h3;exact fin D1 h3.old h3.st h3.told (sh' h3.sh)
theorem jC{is:List Int}{v:Value}(hs:St (h0 w) c e as s.heap)(hr:AL A e 1)(cv:CV s.heap as (.flist xs) v)(hi:GK xs=some is)(ht:GW 6 none [] is=some r)(q:Q (.v (.flist (r.map .int))) c):
  wpAny (model pw (h0 w).w) A (PySem.call (.ref 193) [v]) (AI (h0 w) e c as s Q) no s:=by
 have T:=ED w;refine OT T hs hr.call (JJ T hs (a:=193) (fd:=rJ) rfl) Tv (acl:=[]) (λx l q=>by exact BJ q) (vs:=[.flist xs]) (by rw[CVs];exact⟨_,_,rfl,cv,by rfl⟩) zJ
  (K:=λaf c2=>af= .ret (.flist (r.map .int))/\c2.st=c.st) (λE as1 s1 _ st1 htk hr1=>?_) λc2 as2 s2 af v g ⟨k1,k2⟩ cv=>?_
 .exact Gd (by have:=hr.depth;show A.depth+1+51<=990;exact this) (by have:=hr.units;show A.units+3+104<=9000;exact oD this) hr1 st1 hi ht
 .subst k1;simp only[k2]at g;exact⟨c,as2,_,g,cv,q⟩
end Mine.Internal
end
section
open PySem PySem.Calls PyProof.Rows PySem.W
set_option autoImplicit true
namespace Mine.Internal
variable{h h' h1:Heap}{vs:List Value}{m:Str->Option Value}{Hs:List Nat}{k k' l b f x j i:Nat}{as':AH}{o:AO}{xs:List AV}{es:List (AV×AV)}{v u:Value}{s2:Shared}{c':AC}{p:Pos}{t:Tok}{K:AV->AC->Prop}{op:Operator}{z:AV}
noncomputable def LT(led:Bool)(ks:List Nat):SetTable:=⟨if ks.length<5 then 7 else 31,ks.toArray,#[],0,led,if ks.length<5 then 0 else 1,true⟩
noncomputable def UT:List (List Nat):=(List.range 64).map λb=>(List.range 6).filter λi=>b/2^i%2==1
noncomputable def insN(ks:List Nat)(x:Nat):List Nat:=ks.take (SetTable.below ks.toArray x)++x::ks.drop (SetTable.below ks.toArray x)
noncomputable def Ge(led:Bool)(ks:List Nat)(x:Nat):Bool:=
 let t:=LT led ks
 let n:=insN ks x
 let t':=(t.put x).1
 (t.freeSlot (x:Int)==some (x,false))&&((t.put x).2==SetTable.below ks.toArray x)&&Nat.ble (t.put x).2 ks.length&&UT.contains n&&t'.fits (ks.length+1)&&
  (if ks.length=4 then t'.tooFull&&(t'.relaid (n.map λ(k:Nat)=>(k:Int)).toArray (SetTable.grown 5)==some (LT led n,#[0,1,2,3,4]))else(t'==LT led n)&& !t'.tooFull)
theorem zO:(UT.all λks=>(List.range 6).all λx=>ks.contains x||(Ge true ks x&&Ge false ks x))=true:=by decide+kernel
theorem Gf{led:Bool}{ks:List Nat}(h1:ks∈UT)(h2:x<6)(h3:ks.contains x=false):Ge led ks x=true:=by
 have:=CW (CW zO ks h1) x (List.mem_range.mpr h2);rw[h3,Bool.false_or,Bool.and_eq_true]at this;cases led
 .exact this.2
 .exact this.1
theorem Gg:[]∈UT:=by decide+kernel
theorem rK:(UT.all λks=>Nat.ble ks.length 6)=true:=by decide+kernel
theorem PH{ks:List Nat}(h:ks∈UT):ks.length<=6:=Nat.le_of_ble_eq_true (CW rK ks h)
noncomputable def RV(ks:List Nat)(i:Nat):Nat:=if i=0 then 0 else ks.getD (i-1) 0+1
theorem zP:(UT.all λks=>(List.range 7).all λi=>Nat.blt ks.length i||SetTable.below ks.toArray (RV ks i)==i)=true:=by decide+kernel
theorem oO{ks:List Nat}(h1:ks∈UT)(h2:i<=ks.length):SetTable.below ks.toArray (RV ks i)=i:=by
 have h6:=PH h1;have:=CW (CW zP ks h1) i (List.mem_range.mpr (by exact oE h2 h6));have hb:Nat.blt ks.length i=false:=by
  cases q:Nat.blt ks.length i with
  |false=>rfl
  |true=>have:ks.length+1<=i:=Nat.le_of_ble_eq_true q;exact oI h2 this
 rw[hb,Bool.false_or]at this;exact eq_of_beq this
theorem UU{α:Type}:∀(l:List α) (i:Nat) (h:i<l.length),(l[i]::l.eraseIdx i).Perm l
 |[],i,h=>absurd h (Nat.not_lt_zero i)
 |x::r,0,_=> .refl _
 |x::r,i+1,h=>by simp only[List.eraseIdx_cons_succ,List.getElem_cons_succ];exact(List.Perm.swap _ _ _).trans ((UU r i (Nat.lt_of_succ_lt_succ h)).cons x)
theorem oP{α:Type}(next:Nat->Nat):∀(fuel k:Nat) (left:List α) (out:Array α),left.length=fuel->(pickOrder.go next fuel k left out).toList.Perm (out.toList++left)
 |0,k,left,out,h=>by obtain rfl:=List.eq_nil_of_length_eq_zero h;unfold pickOrder.go;simp
 |fuel+1,k,left,out,h=>by unfold pickOrder.go;have hlt:next k%left.length<left.length:=Nat.mod_lt _ (by exact Nat.le_trans (Nat.le_add_left _ _) (Nat.le_of_eq h.symm));rw[List.getElem?_eq_getElem hlt];dsimp only;refine(oP next fuel (k+1) _ _ (by rw[List.length_eraseIdx_of_lt hlt,h];rfl)).trans ?_;rw[Array.toList_push,List.append_assoc];refine List.Perm.append_left _ ?_;exact UU _ _ hlt
theorem rL{α:Type}(next:Nat->Nat)(xs:Array α):(pickOrder next xs).toList.Perm xs.toList:=by have:=oP next xs.size 0 xs.toList #[] (by simp);simp only[List.nil_append]at this;exact this
end Mine.Internal
end
section
open PySem PySem.Calls PyProof.Rows PySem.W
set_option autoImplicit true
namespace Mine.Internal
variable{prog:Program}{w:World}{A:Around}{E:Value->Shared->Prop}{s:Shared}{led:Bool}{ks:List Nat}{a:Nat}
variable{x:Nat}{L:List (Int×Value)}
noncomputable def KV(ks:List Nat)(L:List (Int×Value)):Prop:=L.map (·.1)=ks.map (λ(n:Nat)=>(n:Int))/\∀e∈L,∃t,e.2= .int e.1 t
noncomputable def KW(L:List (Int×Value))(ep:Nat)(t:SetTable):Obj:={cls:= .type "set",dict:=none,data:= .set L.toArray ep t,slots:= #[]}
noncomputable def PJ(h:Heap)(a:Nat)(led:Bool)(ks:List Nat):Prop:=ks∈UT/\∃L ep,h.get? a=some (KW L ep (LT led ks))/\KV ks L
theorem Gh:(UT.all λks=>ks.all λx=>Nat.blt x 6)=true:=by decide+kernel
theorem Nf(h:ks∈UT)(hx:x∈ks):x<6:=Nat.le_of_ble_eq_true (CW (CW Gh ks h) x hx)
theorem zQ:∀{x:Nat},x<6->(intKind prog w).hash (x:Int)=(x:Int)
 |0,_=>rfl
 |1,_=>rfl
 |2,_=>rfl
 |3,_=>rfl
 |4,_=>rfl
 |5,_=>rfl
 |x+6,h=>by exact oH h
theorem KV.len(h:KV ks L):L.length=ks.length:=by have:=congrArg List.length h.1;simpa using this
theorem KV.elems(hk:ks∈UT)(h:KV ks L):ElemsOf (intKind prog w) L:=λe he=>by
 obtain⟨t,ht⟩:=h.2 e he;have:e.1∈ks.map (λ(n:Nat)=>(n:Int)):=h.1▸List.mem_map.mpr ⟨e,he,rfl⟩;obtain⟨n,hn,hn'⟩:=ID this;refine⟨⟨(n:Int),?_,?_⟩,?_⟩
 .rw[ht,<-hn'];exact intKind_is _ _ _ _
 .rw[zQ (Nf hk hn),hn']
 .rw[ht];rfl
theorem IS(hk:ks∈UT)(h:KV ks L):(LT led ks).fits L.toArray.size=true:=by have h6:=PH hk;rw[List.size_toArray,h.len];simp only[SetTable.fits,LT,SetTable.fill,List.size_toArray,List.length_nil,Nat.add_zero,beq_self_eq_true,Bool.true_and,decide_eq_true_eq];split<;>omega
theorem zR(h:KV ks L):(L.findIdx? (λe=>(intKind prog w).is (x:Int) e.2)).isSome=ks.contains x:=by
 have key:∀(L:List (Int×Value)) (ks:List Nat),KV ks L->L.any (λe=>(intKind prog w).is (x:Int) e.2)=ks.contains x:=by
  intro L;induction L with
  |nil=>
   intro ks h;cases ks with
   |nil=>rfl
   |cons y r=>cases h.1
  |cons e r ih=>
   intro ks h;cases ks with
   |nil=>cases h.1
   |cons y t=>obtain⟨tk,ht⟩:=h.2 e (.head _);have h1:=h.1;rw[List.map_cons,List.map_cons]at h1;obtain⟨h2,h3⟩:=List.cons.inj h1;simp only[List.any_cons,List.contains_cons,ih t ⟨h3,λe he=>h.2 e (.tail _ he)⟩,ht,h2];congr 1;simp[intKind,Value.isInt];rw[Bool.eq_iff_iff,beq_iff_eq,beq_iff_eq];constructor<;>intro q<;>lia
 rw[List.findIdx?_isSome];exact key L ks h
theorem oQ{α β:Type}(f:α->β)(L:List α)(p:Nat)(y:α):(SetTable.insertAt L.toArray p y).toList.map f=(L.map f).take p++f y::(L.map f).drop p:=by unfold SetTable.insertAt;simp[List.map_take,List.map_drop];exact List.take_of_length_le (by simp)
theorem Gi{α:Type}(L:List α)(p:Nat)(y:α){e:α}(h:e∈(SetTable.insertAt L.toArray p y).toList):e=y\/e∈L:=by
 have:=oQ id L p y;rw[List.map_id,List.map_id]at this;rw[this]at h;rcases HV h with h|h
 .exact .inr (List.mem_of_mem_take h)
 .exact(AN h).imp (λq=>q) List.mem_of_mem_drop
theorem Vo{α:Type}(xs:Array α):xs=xs.toList.toArray:=by rfl
theorem Gj{v:Value}(hk:ks∈UT)(hL:KV ks L)(hx:x<6)(hn:ks.contains x=false):
  ∃(L':List (Int×Value)) (t':SetTable),L'.length=ks.length+1/\layNew (LT led ks) L.toArray (x:Int) v=(L'.toArray,t',false,false)/\L'.map (·.1)=(insN ks x).map (λ(n:Nat)=>(n:Int))/\(∀e∈L',e=((x:Int),v)\/e∈L)/\insN ks x∈UT/\
   (t'.tooFull=false/\t'=LT led (insN ks x)\/ks.length=4/\t'.tooFull=true/\t'.relaid ((insN ks x).map λ(k:Nat)=>(k:Int)).toArray (SetTable.grown 5)=some (LT led (insN ks x),#[0,1,2,3,4])):=by
 have c:=Gf (led:=led) hk hx hn;unfold Ge at c;simp only[Bool.and_eq_true,beq_iff_eq]at c;obtain⟨⟨⟨⟨⟨c1,c2⟩,c3⟩,c4⟩,c5⟩,c6⟩:=c;have c3:=Nat.le_of_ble_eq_true c3;have hl:=hL.len;have hm:=oQ (·.1) L ((LT led ks).put x).2 ((x:Int),v);have hlen:(SetTable.insertAt L.toArray ((LT led ks).put x).2 ((x:Int),v)).toList.length=ks.length+1:=by have:=congrArg List.length hm;simp only[List.length_map,List.length_append,List.length_take,List.length_cons,List.length_drop,List.length_map]at this;rw[this,hl,Nat.min_eq_left c3,<-Nat.add_assoc,Nat.add_sub_of_le c3]
 refine⟨(SetTable.insertAt L.toArray ((LT led ks).put x).2 ((x:Int),v)).toList,((LT led ks).put x).1,hlen,?_,?_,λe he=>Gi L _ _ he,by simpa using c4,?_⟩
 .unfold layNew;rw[c1];dsimp only;rw[Array.length_toList]at hlen;unfold SetTable.orStandIn;rw[hlen,c5];rfl
 .rw[hm,hL.1,c2];unfold insN;simp[List.map_take,List.map_drop]
 .by_cases h4:ks.length=4
  .simp only[if_pos h4,Bool.and_eq_true,beq_iff_eq]at c6;exact .inr ⟨h4,c6⟩
  .simp only[if_neg h4,Bool.and_eq_true,beq_iff_eq]at c6;exact .inl ⟨by simpa using c6.2,c6.1⟩
theorem Tw{α:Type}{L:List α}(h:L.length=5):(#[0,1,2,3,4]:Array Nat).filterMap (L.toArray[·]?)=L.toArray:=by
 cases L with|nil=>exact nI Nat.ctorIdx h|cons a L=>_
 cases L with|nil=>cases h|cons b L=>_
 cases L with|nil=>cases h|cons c L=>_
 cases L with|nil=>cases h|cons d L=>_
 cases L with|nil=>cases h|cons e L=>_
 cases L with|nil=>rfl|cons f L=>cases h
theorem zS{t':SetTable}{n:List Nat}(h5:L.length=5)(hL:KV n L)(hn:n∈UT)(h:t'.relaid (n.map λ(k:Nat)=>(k:Int)).toArray (SetTable.grown 5)=some (LT led n,#[0,1,2,3,4])):
  relayAll t' L.toArray (SetTable.grown L.toArray.size)=(L.toArray,LT led n,false):=by
 have hf:=IS (led:=led) hn hL;unfold relayAll;refine(Eq.symm List.size_toArray)▸(Eq.symm h5)▸(Eq.symm List.map_toArray)▸(Eq.symm hL.1)▸(Eq.symm h)▸?_;dsimp only;rw[Tw h5,hf];rfl
theorem Gk{t:Tok}{Q:Bool->Shared->Prop}(hS:PJ s.heap a led ks)(hx:x<6)
  (h:∀h' b,Heap.SameBut a s.heap h'->PJ h' a led (if ks.contains x then ks else insN ks x)->Q b {s with heap:=h'}):wpAny (model prog w) A (setAddHashed a (.int (x:Int) t) (x:Int)) Q E s:=by
 obtain⟨hk,L,ep,ho,hL⟩:=hS;have hf:=IS (led:=led) hk hL;have hel:=hL.elems (prog:=prog) (w:=w) hk;have h6:=PH hk;have hb:L.toArray.size<scanBound:=by rw[List.size_toArray,hL.len];unfold scanBound;exact oD h6
 have hh:(x:Int)=(intKind prog w).hash (x:Int):=(zQ hx).symm;unfold setAddHashed setAddHashedIn;refine wpAny_holding (wpAny_bind (wpAny_setState_of ho rfl hf ?_));dsimp only;refine(Eq.symm (byScan_of (knd:=intKind prog w) (x:= .int (x:Int) t) rfl hb hel))▸?_;simp only[↓reduceIte];unfold setAddByScan;refine wpAny_bind (wpAny_bind (wpAny_rule ?_));refine wpAny_bind ?_;have scan:= @wpAny_setScan_of prog w Int _ (intKind prog w) A E s a (KW L ep (LT led ks)) L.toArray ep (LT led ks) (.int (x:Int) t) (x:Int) true;rw[<-hh]at scan;refine scan (intKind_is _ _ _ _) ho rfl hf hel ?_;have hfi:=zR (prog:=prog) (w:=w) hL (x:=x);cases hr:List.findIdx? (λe=>(intKind prog w).is (x:Int) e.2) L.toArray.toList with
 |some j=>simp only[show L.toArray.toList=L from rfl]at hr;rw[hr]at hfi;dsimp only;refine wpAny_pure (wpAny_pure ?_);have:=h s.heap false (Heap.SameBut.refl a s.heap) (by refine hfi▸?_;exact⟨hk,L,ep,ho,hL⟩);exact this
 |none=>
  simp only[show L.toArray.toList=L from rfl]at hr;rw[hr]at hfi;have hn:ks.contains x=false:=hfi.symm;rw[if_neg (by rw[hn];exact Bool.noConfusion)]at h;obtain⟨L',t',hl',hlay,hmap,hmem,hfam,hcase⟩:=Gj (led:=led) (v:= .int (x:Int) t) hk hL hx hn;have hL':KV (insN ks x) L':=⟨hmap,λe he=>(hmem e he).elim (λq=>⟨t,by rw[q]⟩) (hL.2 e)⟩;have hz:L'.toArray.size<=sizeLine:=by rw[List.size_toArray,hl'];exact fits_of_scanBound (by unfold scanBound;exact oD h6)
  have hg (tt):(s.heap.update a (Obj.putSet L'.toArray tt)).get? a=some (KW L' (ep+1) tt):=by have:=Heap.get?_update_self (Obj.putSet L'.toArray tt) ho (by rw[putSet_of _ _ (o:=KW L ep (LT led ks)) rfl];rfl);rw[putSet_of _ _ (o:=KW L ep (LT led ks)) rfl]at this;exact this
  dsimp only;refine(Eq.symm hlay)▸?_;refine wpAny_bind (wpAny_pure ?_);dsimp only;have tail {g:Bool->Sem Unit} (hgg:∀(b:Bool) (BX:Shared) (Q':Unit->Shared->Prop),Q' () BX->wpAny (model prog w) A (g b) Q' E BX) {R:Option Bool->Shared->Prop} (hR:∀h',Heap.SameBut a s.heap h'->PJ h' a led (insN ks x)->R (some true) {s with heap:=h'}):
    wpAny (model prog w) A (do
     storeSet a L'.toArray t'
     if(!false&&t'.tooFull)=true then do
      g (relayAll t' L'.toArray (SetTable.grown L'.toArray.size)).2.2
      storeSet a (relayAll t' L'.toArray (SetTable.grown L'.toArray.size)).1 (relayAll t' L'.toArray (SetTable.grown L'.toArray.size)).2.1
      pure (some true)
     else pure (some true)) R E s:=by
   refine wpAny_bind (wpAny_storeSet_of ho rfl ?_ hz);have hsb1:=Heap.SameBut.update s.heap a (Obj.putSet L'.toArray t');rcases hcase with⟨c1,c2⟩|⟨c1,c2,c3⟩
   .refine(Eq.symm c1)▸?_;exact wpAny_pure (hR _ hsb1 ⟨hfam,L',ep+1,by rw[hg,c2],hL'⟩)
   .refine(Eq.symm c2)▸?_;have hr:=zS (by rw[hl',c1]) hL' hfam c3;simp only[Bool.not_false,Bool.and_self,↓reduceIte];refine(Eq.symm hr)▸?_;refine wpAny_bind (hgg _ _ _ (wpAny_bind (wpAny_storeSet_of (hg t') rfl (wpAny_pure (hR _ (hsb1.trans (Heap.SameBut.update _ a _)) ⟨hfam,L',ep+1+1,?_,hL'⟩)) hz)));have:=Heap.get?_update_self (Obj.putSet L'.toArray (LT led (insN ks x))) (hg t') (by rw[putSet_of _ _ (o:=KW L' (ep+1) t') rfl];rfl);rw[putSet_of _ _ (o:=KW L' (ep+1) t') rfl]at this;exact this
  split
  .refine wpAny_bind ?_;rw[hashByValue_scannable 8 (x:= .int (x:Int) t) rfl];refine wpAny_pure ?_;refine tail ?_ ?_
   .intro b BX Q' hq;cases b<;>first|exact wpAny_pure hq|exact wpAny_rule hq
   .intro h' hsb hS';dsimp only;exact wpAny_pure (h h' true hsb hS')
  .refine wpAny_bind (wpAny_pure ?_);refine tail ?_ ?_
   .intro b BX Q' hq;cases b<;>first|exact wpAny_pure hq|exact wpAny_rule hq
   .intro h' hsb hS';dsimp only;exact wpAny_pure (h h' true hsb hS')
end Mine.Internal
end
section
open PySem PySem.Calls PyProof.Rows PySem.W
set_option autoImplicit true
namespace Mine.Internal
variable{h h' h1:Heap}{vs:List Value}{m:Str->Option Value}{Hs:List Nat}{k k' l b f x j i:Nat}{as':AH}{o:AO}{xs:List AV}{es:List (AV×AV)}{v u:Value}{s2:Shared}{c':AC}{p:Pos}{t:Tok}{K:AV->AC->Prop}{op:Operator}{z:AV}
theorem UV:entryFor table "set.__iter__"=some Builtin.«frozenset.__iter__»:=
 entryFor_alias (id':="frozenset.__iter__") (by kernel_rfl) (by first|rfl|decide+kernel|(unfold String.splitOn;simp+decide [String.splitOnAux])) (by decide+kernel) (by kernel_rfl)
theorem NK:Manifest.owners.lookup (String.ofList ['r','o','t','a','r','e','t','i','_','t','e','s'].reverse)=some Manifest.sig_set_iterator:=by kernel_rfl
theorem CR:Slot "set_iterator" "__next__" "set_iterator.__next__":=
 .of (owner:="set_iterator") (n:="__next__") (by rw[typeLookup_type,builtinLookup_eq_fast];kernel_rfl) (by decide+kernel) (by decide+kernel) (by decide+kernel)
  (by first|exact .inl (by decide+kernel)|exact .inr (by decide+kernel)) (by rw[isSubtype_type];kernel_rfl)
theorem IT:entryFor table "set_iterator.__next__"=some Builtin.«set_iterator.__next__»:=entryFor_of_tree (by kernel_rfl)
theorem JF(a:Value):argsOk "set_iterator.__next__" ⟨[a],[]⟩:=by unfold argsOk;rw[signature?_of (id:="set_iterator.__next__") (n:=['_','_','t','x','e','n','_','_']) (o:=['r','o','t','a','r','e','t','i','_','t','e','s']) (by kernel_rfl) NK];kernel_rfl
theorem JG:Slot "set_iterator" "__iter__" "set_iterator.__iter__":=
 .of (owner:="set_iterator") (n:="__iter__") (by rw[typeLookup_type,builtinLookup_eq_fast];kernel_rfl) (by decide+kernel) (by decide+kernel) (by decide+kernel)
  (by first|exact .inl (by decide+kernel)|exact .inr (by decide+kernel)) (by rw[isSubtype_type];kernel_rfl)
theorem PK(a:Value):argsOk "set_iterator.__iter__" ⟨[a],[]⟩:=by unfold argsOk;rw[signature?_of (id:="set_iterator.__iter__") (n:=['_','_','r','e','t','i','_','_']) (o:=['r','o','t','a','r','e','t','i','_','t','e','s']) (by kernel_rfl) NK];kernel_rfl
theorem NY:entryFor table "set_iterator.__iter__"=some Builtin.«dict_keyiterator.__iter__»:=
 entryFor_alias (id':="dict_keyiterator.__iter__") (by kernel_rfl) (by first|rfl|decide+kernel|(unfold String.splitOn;simp+decide [String.splitOnAux])) (by decide+kernel) (by kernel_rfl)
variable{prog:Program}{w:World}{A:Around}{E:Value->Shared->Prop}{s:Shared}{led:Bool}{ks:List Nat}{a r:Nat}{L:List (Int×Value)}{ep:Nat}
noncomputable def LU(slot i:Nat)(r n ep:Nat):Obj:={cls:= .type "set_iterator",data:= .fields #[.int slot 0,.int i 0,.ref r,.int n 0,.int ep 0]}
theorem jD{Q:Value->Shared->Prop}(ho:s.heap.get? r=some (KW L ep (LT led ks)))(hk:ks∈UT)(hL:KV ks L)
  (h:Q (.ref s.heap.objs.size) {s with heap:=s.heap.push (LU 0 0 r L.length ep)}):wpAny (model prog w) A (pyIter (.ref r)) Q E s:=by
 have hT:s.TypeIs (.ref r) "set":=⟨_,ho,rfl⟩;have hf:=IS (led:=led) hk hL;refine wpAny_pyIter_slot hT F.slot_set_iter (wpAny_call_entry F.slot_set_iter hT UV ?_ (F.args_set_iter_1 _));unfold Builtin.«frozenset.__iter__»;refine wpAny_bind (m:=Builtin.Frozenset.slot0 _ _) ?_;unfold Builtin.Frozenset.slot0 slotArgs;refine wpAny_pure ?_;unfold Builtin.Frozenset.sizeOf;refine wpAny_bind (wpAny_bind (wpAny_setEntries_of ho rfl hf (wpAny_pure ?_)));unfold setDrawn setsByText;refine wpAny_bind (wpAny_bind (wpAny_setState_of ho rfl hf (wpAny_bind (wpAny_bind (wpAny_askSetting (wpAny_pure (wpAny_pure ?_)))))));rw[if_neg (by intro q;exact absurd (show false=true from((Bool.and_eq_true _ _).mp q).2) Bool.false_ne_true)];refine wpAny_bind (m:=pure (rawInt 0)) (wpAny_pure ?_);unfold setEpoch;refine wpAny_bind (wpAny_bind (wpAny_setState_of ho rfl hf (wpAny_pure ?_)));exact wpAny_bind (wpAny_newObj_type (wpAny_pure ⟨_,rfl,"set_iterator",_,⟨_,Heap.get?_push_size _ rfl,rfl⟩,CR.lookup,h⟩))
noncomputable def aU(w:World)(r ep:Nat)(L:List (Int×Value)):List (Int×Value):=if w.params.followText "set-order" then(pickOrder (w.params.setOrder r ep) L.toArray).toList else L
noncomputable def NL(w:World)(ks:List Nat)(i:Nat):Nat:=if w.params.followText "set-order" then 0 else RV ks i
theorem RD:(aU w r ep L).Perm L:=by
 unfold aU;split
 .exact rL _ _
 .exact .refl _
theorem KV.at{e:Int×Value}(h:KV ks L)(hi:L[i]? =some e):∃k:Nat,ks[i]? =some k/\e.1=k:=by
 have h1:=congrArg (λl:List Int=>l[i]?) h.1;simp only[List.getElem?_map,hi,Option.map_some]at h1;cases hk:ks[i]? with
 |none=>rw[hk]at h1;exact tE h1
 |some k=>rw[hk]at h1;exact⟨k,rfl,Option.some.inj h1⟩
theorem aV{Q:Option (Value×Nat)->Shared->Prop}(hw:led= !w.params.followText "set-order")(ho:s.heap.get? r=some (KW L ep (LT led ks)))(hk:ks∈UT)(hL:KV ks L){e:Int×Value}(hi:(aU w r ep L)[i]? =some e)
  (h:Q (some (e.2,NL w ks (i+1))) s):wpAny (model prog w) A (setNext r (NL w ks i) i ep) Q E s:=by
 have hf:=IS (led:=led) hk hL;unfold setNext setsByText;refine wpAny_bind (wpAny_setState_of ho rfl hf (wpAny_bind (wpAny_bind (wpAny_askSetting (wpAny_pure ?_)))));dsimp only;unfold aU at hi;unfold NL at h⊢;cases hb:w.params.followText "set-order" with
 |true=>rw[hb]at hi h;rw[if_pos (show(model prog w).w.params.followText "set-order"=true from hb),if_neg (by simp)];refine wpAny_bind (m:=setWalk r) ?_;unfold setWalk setsByText;refine wpAny_bind (wpAny_setState_of ho rfl hf (wpAny_bind (wpAny_bind (wpAny_askSetting (wpAny_pure ?_)))));rw[if_pos (show(model prog w).w.params.followText "set-order"=true from hb)];refine wpAny_bind (wpAny_askSetting (wpAny_pure (wpAny_pure ?_)));rw[if_pos rfl]at hi h;simp only[Array.getElem?_toList]at hi;rw[show(model prog w).w.params=w.params from rfl,hi];exact h
 |false=>
  rw[hb]at hi h hw;rw[if_neg (by rw[show(model prog w).w.params.followText "set-order"=false from hb];simp)];rw[if_neg (by intro q;exact absurd (show false=true from q) Bool.false_ne_true)];rw[if_neg (by decide)]at hi h;rw[if_neg (by decide)];obtain⟨k,hk1,hk2⟩:=hL.at hi;have hlt:i<ks.length:=(EC hk1);obtain rfl:led=true:=hw;refine wpAny_bind (m:=pure ()) (wpAny_pure ?_);rw[show SetTable.below (LT true ks).place (RV ks i)=i from oO hk (Nat.le_of_lt hlt),show L.toArray[i]? =some e from by simpa using hi,show(LT true ks).place[i]? =some k from by simpa[LT]using hk1];refine wpAny_pure ?_;have:RV ks (i+1)=k+1:=by unfold RV;simp[hk1]
  rwa[this]at h
theorem aW{Q:Option (Value×Nat)->Shared->Prop}(hw:led= !w.params.followText "set-order")(ho:s.heap.get? r=some (KW L ep (LT led ks)))(hk:ks∈UT)(hL:KV ks L)
  (h:Q none s):wpAny (model prog w) A (setNext r (NL w ks L.length) L.length ep) Q E s:=by
 have hf:=IS (led:=led) hk hL;have hl:=(RD (w:=w) (r:=r) (ep:=ep) (L:=L)).length_eq;unfold setNext setsByText;refine wpAny_bind (wpAny_setState_of ho rfl hf (wpAny_bind (wpAny_bind (wpAny_askSetting (wpAny_pure ?_)))));dsimp only;unfold aU at hl;unfold NL;cases hb:w.params.followText "set-order" with
 |true=>rw[hb,if_pos rfl]at hl;rw[if_pos (show(model prog w).w.params.followText "set-order"=true from hb),if_neg (by simp)];refine wpAny_bind (m:=setWalk r) ?_;unfold setWalk setsByText;refine wpAny_bind (wpAny_setState_of ho rfl hf (wpAny_bind (wpAny_bind (wpAny_askSetting (wpAny_pure ?_)))));rw[if_pos (show(model prog w).w.params.followText "set-order"=true from hb)];refine wpAny_bind (wpAny_askSetting (wpAny_pure (wpAny_pure ?_)));rw[show(model prog w).w.params=w.params from rfl,Array.getElem?_eq_none (by simp only[<-Array.length_toList,hl];exact Nat.le_refl _)];exact h
 |false=>simp only[hb]at hw;rw[if_neg (by rw[show(model prog w).w.params.followText "set-order"=false from hb];simp)];rw[if_neg (by intro q;exact absurd (show false=true from q) Bool.false_ne_true)];rw[if_neg (by decide)];obtain rfl:led=true:=hw;refine wpAny_bind (m:=pure ()) (wpAny_pure ?_);rw[hL.len,show SetTable.below (LT true ks).place (RV ks ks.length)=ks.length from oO hk (Nat.le_refl _),show L.toArray[ks.length]? =none from by refine hL.len▸?_;simp];exact wpAny_pure h
noncomputable def Ty(w:World)(led:Bool)(ks:List Nat)(L:List (Int×Value))(ep I r i:Nat)(h:Heap):Prop:=h.get? I=some (LU (NL w ks i) i r L.length ep)/\h.get? r=some (KW L ep (LT led ks))
theorem UW{a:Nat}{o:Obj}{vs:Array Value}{x:Value}(ho:h.get? a=some o)(hd:o.data= .fields vs):(h.update a (Obj.mapFields (·.setIfInBounds j x))).get? a=some {o with data:= .fields (vs.setIfInBounds j x)}:=by obtain⟨c,d,dt,sl⟩:=o;obtain rfl:dt=_:=hd;exact Heap.get?_update_self _ ho rfl
theorem rM(hw:led= !w.params.followText "set-order")(hk:ks∈UT)(hL:KV ks L)(hh:A.handled=none)(I r:Nat)(hne:r≠I):
  Walks prog w A I [I,r] [I] L.length (λi v=>∃e,(aU w r ep L)[i]? =some e/\v=e.2) (Ty w led ks L ep I r)where
 sub:=λb hb=>by simp at hb;simp[hb]
 frame:=λ_ _ _ st hk=>⟨hk I (by simp) _ st.1,hk r (by simp) _ st.2⟩
 item:=λi s Q E hi st hQ=>by
  obtain⟨hI,hr⟩:=st;have hf:=IS (led:=led) hk hL;have hT:s.TypeIs (.ref I) "set_iterator":=⟨_,hI,rfl⟩;have hlt:i<(aU w r ep L).length:=by rw[RD.length_eq];exact hi
  unfold pyNext;refine wpAny_bind (wpAny_attempt (wpAny_callSpecial?_slot (name:=Str.ofString "__next__") hT CR (wpAny_call_entry CR hT IT ?_ (JF _))));unfold Builtin.«set_iterator.__next__»;refine wpAny_bind ?_;unfold slotArgs;refine wpAny_pure ?_;refine wpAny_bind (wpAny_fieldsOf hI rfl ?_);dsimp only;refine wpAny_bind (wpAny_setEntries_of hr rfl hf ?_);rw[if_neg (by simp)];refine wpAny_bind (m:=setNext _ _ _ _) (aV hw hr hk hL (List.getElem?_eq_getElem hlt) ?_);refine wpAny_bind (wpAny_setField hI rfl (by exact Nat.succ_pos _) ?_);have h1:=UW (j:=0) (x:=rawInt (NL w ks (i+1))) hI rfl;refine wpAny_bind (wpAny_setField h1 rfl (by simp) ?_);have h2:=UW (j:=1) (x:=rawInt (i+1)) h1 rfl;refine wpAny_pure ⟨_,rfl,wpAny_pure (hQ _ _ s.toks ⟨_,List.getElem?_eq_getElem hlt,rfl⟩ ⟨h2,?_⟩ λb o hb e=>?_)⟩
  .rw[Heap.get?_update_other _ _ (Ne.symm hne),Heap.get?_update_other _ _ (Ne.symm hne)];exact hr
  .have hb:b≠I:=λq=>hb (by simp[q]);rw[Heap.get?_update_other _ _ (Ne.symm hb),Heap.get?_update_other _ _ (Ne.symm hb)];exact e
 done:=λs Q E st hQ=>by obtain⟨hI,hr⟩:=st;have hf:=IS (led:=led) hk hL;have hT:s.TypeIs (.ref I) "set_iterator":=⟨_,hI,rfl⟩;unfold pyNext;refine wpAny_bind (wpAny_attempt (wpAny_callSpecial?_slot (name:=Str.ofString "__next__") hT CR (wpAny_call_entry CR hT IT ?_ (JF _))));unfold Builtin.«set_iterator.__next__»;refine wpAny_bind ?_;unfold slotArgs;refine wpAny_pure ?_;refine wpAny_bind (wpAny_fieldsOf hI rfl ?_);dsimp only;refine wpAny_bind (wpAny_setEntries_of hr rfl hf ?_);rw[if_neg (by simp)];refine wpAny_bind (m:=setNext _ _ _ _) (aW hw hr hk hL ?_);refine wpAny_bind (wpAny_setField hI rfl (by simp) ?_);show wpAny _ _ (newExc (.type "StopIteration") []>>=_) _ _ _;refine wpAny_bind ?_;simp only[newExc,newTuple];refine wpAny_bind (wpAny_newObj_type ?_ (by size_fits));refine wpAny_bind (m:=firstArgMember _ _) (wpAny_of_eq (a:=Value.none) (by first|rfl|(simp only[firstArgMember];rfl)) ?_);refine wpAny_newObj_type ?_ (by size_fits);simp only[raiseNew];refine wpAny_bind (wpAny_handled ?_);rw[show A.in1.handled=none from hh];refine wpAny_bind (wpAny_pure (wpAny_throw ?_));refine wpAny_bind (wpAny_isInstance (T:="StopIteration") (b:=true) ⟨_,Heap.get?_push_size _ rfl,rfl⟩ isSubtype_stop ?_);refine wpAny_pure (hQ _ s.toks λb o hb e=>?_);have hb:b≠I:=λq=>hb (by simp[q]);exact Heap.get?_push_of_some _ (Heap.get?_push_of_some _ ((Heap.get?_update_other _ _ (Ne.symm hb)).trans e))
 self:=λ_ s Q E st hQ=>by have hT:s.TypeIs (.ref I) "set_iterator":=⟨_,st.1,rfl⟩;refine wpAny_pyIter_slot hT JG (wpAny_call_entry JG hT NY ?_ (PK _));show wpAny _ _ (ret (.ref I)) _ _ s;exact wpAny_pure ⟨_,rfl,"set_iterator",_,hT,CR.lookup,hQ⟩
theorem eQ{Q:List Value->Shared->Prop}(hw:led= !w.params.followText "set-order")(hk:ks∈UT)(hL:KV ks L)(hh:A.handled=none)(ho:s.heap.get? r=some (KW L ep (LT led ks)))
  (hQ:∀s' acc,(∀b o,s.heap.get? b=some o->s'.heap.get? b=some o)->s'.gens=s.gens->s'.drawn=s.drawn->s'.os=s.os->ItemsOf (λi v=>∃e,(aU w r ep L)[i]? =some e/\v=e.2) acc L.length->Q acc.toList s'):wpAny (model prog w) A (collect (.ref r)) Q E s:=by
 have hl:L.length<=sizeLine:=by rw[hL.len,sizeLine_eq];have:=PH hk;exact oA this
 have hT:∀(h:Heap) (s:Shared),h.get? r=some (KW L ep (LT led ks))->({s with heap:=h}:Shared).TypeIs (.ref r) "set":=λh s e=>⟨_,e,rfl⟩;have hrS:r<s.heap.objs.size:=Heap.lt_size ho;unfold collect;refine wpAny_bind (wpAny_runValue (codeAny_builtin F.entry_proto_collect ?_));rw[Around.under_plainId F.plain_proto_collect _];show wpAny _ A.in1 (newList []>>= λl=>again (.builtin "list.__iadd__" ⟨[l,.ref r],[]⟩)) _ _ s;refine wpAny_bind (wpAny_newObj_type ?_);refine wpAny_pure ⟨plainId_quiet F.plain_list_iadd _,codeAny_builtin F.entry_list_iadd ?_⟩;rw[Around.under_plainId F.plain_list_iadd _];have ho1:(s.heap.push {cls:= .type "list",data:= .seq ([]:List Value).toArray}).get? r=some (KW L ep (LT led ks)):=Heap.get?_push_of_some _ ho;show wpAny _ A.in1 (Builtin.List.listExtendWith (.ref s.heap.objs.size) (.ref r) (.ref s.heap.objs.size)) _ _ _;unfold Builtin.List.listExtendWith;refine wpAny_bind (wpAny_typeOf (hT _ s ho1) ?_);have h1:Builtin.List.listSameRef (.ref s.heap.objs.size) (.ref r)=false:=by simp[Builtin.List.listSameRef,Nat.ne_of_gt hrS]
 have h2:(Value.type "set"==Value.type "list")=false:=by decide
 have h3:(Value.type "set"==Value.type "tuple")=false:=by decide
 simp only[h1,h2,h3,Bool.or_false,Bool.false_eq_true,if_false];refine wpAny_bind (jD ho1 hk hL ?_);refine wpAny_bind (wpAny_holding ?_);generalize hH:s.heap.push {cls:= .type "list",data:= .seq ([]:List Value).toArray}=H at ho1⊢;have hHs:H.objs.size=s.heap.objs.size+1:=by rw[<-hH,Heap.size_push]
 have ho2:(H.push (LU 0 0 r L.length ep)).get? r=some (KW L ep (LT led ks)):=Heap.get?_push_of_some _ ho1;unfold Builtin.List.listLengthHint;refine wpAny_bind (wpAny_specialOf (hT _ s ho2) F.slot_set_len.lookup ?_)
 wp_delta
 refine wpAny_bind (wpAny_isInstance (b:=true) (hT _ s ho2) (by rw[isSubtype_type];kernel_rfl) ?_);show wpAny _ A.in1 (typeOf (Value.ref r)>>=_) _ _ _;refine wpAny_bind (wpAny_typeOf (hT _ s ho2) ?_);refine wpAny_pure ?_;rw[if_pos (by decide)];refine wpAny_bind (wpAny_rule ?_);have hSf:s.heap.objs.size∉[H.objs.size,r]:=λhm=>by
  rcases AN hm with q|q
  .exact Nat.not_le_of_lt (Nat.le_of_eq hHs.symm) (Nat.le_of_eq q.symm)
  .have:=AR q;exact Nat.not_le_of_lt hrS (Nat.le_of_eq this)
 have hS:(H.push (LU 0 0 r L.length ep)).get? s.heap.objs.size=some {cls:= .type "list",data:= .seq ([]:List Value).toArray}:=Heap.get?_push_of_some _ (hH▸Heap.get?_push_size _ rfl);refine wpAny_bind ?_;show wpAny _ A.in1 (updateSeq s.heap.objs.size (·.push .none)>>= λ_=>updateSeq s.heap.objs.size (·.pop)) _ _ _;refine wpAny_bind (wpAny_updateSeq hS rfl ?_);have Jo:=Heap.get?_update_self (Obj.mapSeq (·.push Value.none)) hS rfl;refine wpAny_updateSeq Jo rfl ?_;have Vd:=Heap.get?_update_self (Obj.mapSeq (·.pop)) Jo rfl;have oth:∀b o,b≠s.heap.objs.size->(H.push (LU 0 0 r L.length ep)).get? b=some o->
   (((H.push (LU 0 0 r L.length ep)).update s.heap.objs.size (Obj.mapSeq (·.push Value.none))).update s.heap.objs.size (Obj.mapSeq (·.pop))).get? b=some o:=
  λb o hb e=>(Heap.get?_update_other _ _ (Ne.symm hb)).trans ((Heap.get?_update_other _ _ (Ne.symm hb)).trans e)
 have hI0:(H.push (LU 0 0 r L.length ep)).get? H.objs.size=some (LU (NL w ks 0) 0 r L.length ep):=by rw[show NL w ks 0=0 from by unfold NL RV;split<;>rfl];exact Heap.get?_push_size _ rfl
 refine wpAny_pure ⟨plainId_quiet F.plain_extend_loop _,codeAny_extend_loopS (rM (A:=A.in1) (ep:=ep) hw hk hL hh H.objs.size r (by exact Nat.ne_of_lt (Nat.lt_of_le_of_lt (Nat.le_of_lt hrS) (Nat.le_of_eq hHs.symm)))).toS hl _ hSf _ L.length 0 _ _ _ rfl (Nat.zero_le _) ⟨oth _ _ (by exact Nat.ne_of_gt (Nat.le_of_eq hHs.symm)) hI0,oth _ _ (by exact Nat.ne_of_lt hrS) ho2⟩ Vd (ItemsOf.nil _) λs' acc' c' hm hS' hacc=>?_⟩;show wpAny _ A (load s.heap.objs.size>>=_) _ _ s';refine wpAny_bind (wpAny_load hS' ?_);refine wpAny_pure (hQ s' acc' (λ(b:Nat) ob e=>?_) hm.gens hm.drawn hm.os hacc);have hlt:b<s.heap.objs.size:=Heap.lt_size e;refine hm.heap b ob (λhb=>?_) (oth b ob (by exact Nat.ne_of_lt hlt) (Heap.get?_push_of_some _ (hH▸Heap.get?_push_of_some _ e)));rcases AN hb with(h:b=s.heap.objs.size)|h
 .exact Nat.not_le_of_lt hlt (Nat.le_of_eq h.symm)
 .have h:b=H.objs.size:=AR h;exact oJ (Nat.le_of_eq hHs.symm) hlt (Nat.le_of_eq h.symm)
noncomputable def Ng(ks:List Nat)(x:Nat):List Nat:=if ks.contains x then ks else insN ks x
set_option tactic.hygienic true in
theorem zT{ks:List Nat}{y:Nat}:y∈Ng ks x↔y∈ks\/y=x:=by
 unfold Ng;split
 .rename_i h;exact⟨.inl,λq=>q.elim id λe=>e▸List.contains_iff_mem.mp h⟩
 .unfold insN;rw[List.mem_append,List.mem_cons];have:= @List.mem_append _ y (ks.take (SetTable.below ks.toArray x)) (ks.drop (SetTable.below ks.toArray x));rw[List.take_append_drop]at this;rw[this];constructor
  .rintro(h|h|h)
   .exact .inl (.inl h)
   .exact .inr h
   .exact .inl (.inr h)
  .rintro((h|h)|h)
   .exact .inl h
   .exact .inr (.inr h)
   .exact .inr (.inl h)
theorem jE:(UT.all λks=>decide ks.Nodup)=true:=by decide+kernel
theorem rN{ks:List Nat}(h:ks∈UT):ks.Nodup:=of_decide_eq_true (CW jE ks h)
variable{prog:Program}{w:World}{A:Around}{E:Value->Shared->Prop}{s:Shared}{led:Bool}{R:Result->Shared->Prop}{I:Addr}{fp wr:List Addr}{G:Array GenState->Array GenState->Prop}{n:Nat}{P:Nat->Value->Prop}{St:Nat->Shared->Prop}
theorem zU(W:WalksS prog w A.in1 I fp wr G n P St)(S:Addr)(hSf:S∉fp)(val:Nat->Nat)(hval:∀i v,P i v->val i<6/\∃t,v= .int (val i:Int) t):
  ∀(k i:Nat) (s:Shared) (ks:List Nat),n-i=k->i<=n->St i s->PJ s.heap S led ks->
   (∀s' ks',Moved (S::wr) G s s'->PJ s'.heap S led ks'->(∀x,x∈ks'↔x∈ks\/∃j,i<=j/\j<n/\x=val j)->R (.ok (.ret .none)) s')->
   codeAny (model prog w) A (.builtin "set.update.loop" ⟨[.ref S,.ref I],[]⟩) R s:=by
 have hSw:S∉wr:=λh=>hSf (W.sub _ h);have hsub:∀b∈wr,b∈S::wr:=λb hb=>List.mem_cons_of_mem _ hb;intro k;induction k with
 |zero=>intro i s ks hk hi hst hS hR;obtain rfl:i=n:=Nat.le_antisymm hi (Nat.le_of_sub_eq_zero hk);refine codeAny_builtin F.entry_set_update_loop ?_;rw[Around.under_plainId F.plain_set_update_loop _];show wpAny _ A.in1 (pyNext (.ref I)>>=_) _ _ s;refine wpAny_bind (W.done s _ _ hst λs' hm=>?_);show wpAny _ A.in1 (ret Value.none) _ _ s';obtain⟨h1,L,ep,h2,h3⟩:=hS;exact wpAny_pure (hR s' ks (hm.mono hsub) ⟨h1,L,ep,hm.heap S _ hSw h2,h3⟩ λx=>⟨.inl,λq=>q.elim id λ⟨j,a,b,_⟩=>(Nat.lt_irrefl _ (Nat.lt_of_lt_of_le b a)).elim⟩)
 |succ k ih=>
  intro i s ks hk hi hst hS hR;have hlt:i<n:=Nat.lt_of_sub_ne_zero (hk▸Nat.succ_ne_zero k);refine codeAny_builtin F.entry_set_update_loop ?_;rw[Around.under_plainId F.plain_set_update_loop _];show wpAny _ A.in1 (pyNext (.ref I)>>=_) _ _ s;refine wpAny_bind (W.item i s _ _ hlt hst λv s' hP hst' hm=>?_);obtain⟨h6,t,rfl⟩:=hval i v hP;have hS':PJ s'.heap S led ks:=let ⟨h1,L,ep,h2,h3⟩:=hS;⟨h1,L,ep,hm.heap S _ hSw h2,h3⟩;show wpAny _ A.in1 (holding [Value.int (val i) t] (setAdd S (.int (val i) t))>>=_) _ _ s';refine wpAny_bind (wpAny_holding ?_);unfold setAdd;refine wpAny_holding (wpAny_bind ((intKind prog w).pyHash (k:=(val i:Int)) (intKind_is _ _ _ _) ?_));rw[zQ h6];refine Gk (s:={s' with toks:=s'.toks+1}) hS' h6 λh' b hsb hS2=>?_;refine wpAny_pure ⟨plainId_quiet F.plain_set_update_loop _,ih (i+1) _ _ (congrArg Nat.pred hk) hlt (W.frame _ s' _ _ hst' (Nat.le_succ _) λb hb o e=>?_) hS2 λs'' ks' hm'' hS'' hx=>?_⟩
  .rw[hsb.2 b (λh:b=S=>hSf (by rw[<-h];exact hb))];exact e
  .refine hR s'' ks' (Moved.trans W.gtrans ((hm.mono hsub).then_heap (Nat.le_succ _) λb o hb e=>?_) hm'') hS'' λx=>?_
   .rw[hsb.2 b (λh:b=S=>hb (by rw[h];exact List.mem_cons_self))];exact e
   .rw[hx,show(if ks.contains (val i)then ks else insN ks (val i))=Ng ks (val i)from rfl,zT,or_assoc];refine or_congr_right ⟨?_,?_⟩
    .rintro(h|⟨j,h1,h2,h3⟩)
     .exact⟨i,Nat.le_refl _,hlt,h⟩
     .exact⟨j,Nat.le_of_succ_le h1,h2,h3⟩
    .rintro⟨j,h1,h2,h3⟩;rcases Nat.lt_or_eq_of_le h1 with q|q
     .exact .inr ⟨j,q,h2,h3⟩
     .exact .inl (q▸h3)
theorem Gl(a:Value){Q₁:Value->Shared->Prop}
  (h:Q₁ (.ref s.heap.objs.size) {s with heap:=s.heap.push (KW [] 0 (LT (!w.params.followText "set-order") []))}):
  codeAny (model prog w) A (.call (.builtin "set.__new__") ⟨[.type "set",a],[]⟩) (wants Q₁ E) s:=by
 refine codeAny_of_tree ?_;show wpAny _ A.in1 (do checkBuiltinCall "set.__new__" ⟨[.type "set",a],[]⟩;again (.builtin "set.__new__" ⟨[.type "set",a],[]⟩)) _ _ s;refine wpAny_bind (wpAny_of_eq (F.newCall_set_1 a) (wpAny_pure ⟨plainId_quiet F.plain_set_new _,codeAny_builtin F.entry_set_new ?_⟩));rw[Around.under_plainId F.plain_set_new _];unfold Builtin.«set.__new__» Builtin.Frozenset.newClass;have hsub:=sub_set_self;obtain⟨hp,g,d,tk,os⟩:=s;dsimp only;wp_walk;refine wpAny_askSetting (wpAny_pure ?_);dsimp only;simp only[newObj];refine wpAny_bind (wpAny_alloc (wpAny_pure ?_));exact wpAny_pure h
set_option maxHeartbeats 4000000 in
theorem Nh{l:Addr}{items:Array Value}{ns:List Nat}{Q:Value->Shared->Prop}
  (hh:A.handled=none)(hl:s.heap.IsList l items)(hi:∀i v,items[i]? =some v->ns.getD i 0<6/\∃t,v= .int (ns.getD i 0:Int) t)
  (h:∀(h':Heap) (tk:Nat) ks',PJ h' s.heap.objs.size (!w.params.followText "set-order") ks'->(∀x,x∈ks'↔ ∃j,j<items.size/\x=ns.getD j 0)->s.toks<=tk->
   (∀b o,b<s.heap.objs.size->s.heap.get? b=some o->h'.get? b=some o)->Q (.ref s.heap.objs.size) {s with heap:=h',toks:=tk}):
  wpAny (model prog w) A (call (.type "set") [.ref l]) Q E s:=by
 obtain⟨c,tl,hmro⟩:=F.called_set.mro;have hmade:=F.called_set.made;have hsub:=F.called_set.sub;refine wpAny_call (codeAny_of_tree ?_);show wpAny _ _ (callAny (.type "set") _) _ _ _;refine wpAny_pure ⟨Code.quiet_builtin _ (by decide+kernel),codeAny_builtin F.entry_type_call ?_⟩;rw[Around.under_plain (weight_type_call_type "set" [.ref l] []) rfl];have h1:=F.called_set.notType;have h2:=F.called_set.canCreate;have hct:=F.typeCall_set_1 (.ref l)
 repeat (any_goals (first|assumption|wp_step))
 generalize hO:KW [] 0 (LT (!w.params.followText "set-order") [])=O;refine codeAny_mono (Gl (.ref l) (E:=E) (Q₁:=λobj BX=>obj= .ref s.heap.objs.size/\BX={s with heap:=s.heap.push O}) ⟨rfl,by rw[hO]⟩) λr BX hr=>?_;cases r with
 |error e=>exact hr
 |ok fl=>
  cases fl with
  |ret obj=>
   obtain⟨rfl,rfl⟩:=hr;have hS:(s.heap.push O).get? s.heap.objs.size=some O:=Heap.get?_push_size _ (by rw[<-hO];rfl);have hT:Shared.TypeIs {s with heap:=s.heap.push O} (.ref s.heap.objs.size) "set":=⟨_,hS,by rw[<-hO];rfl⟩;have hli:=F.called_set.init.lookup;have hbi:=F.called_set.init.bind (.ref s.heap.objs.size)
   repeat (any_goals (first|assumption|wp_step))
   refine codeAny_mono (codeAny_call_builtin (R:=wants (λr GJ=>r= .none/\∃h' tk ks',GJ={s with heap:=h',toks:=tk}/\
     PJ h' s.heap.objs.size (!w.params.followText "set-order") ks'/\(∀x,x∈ks'↔ ∃j,j<items.size/\x=ns.getD j 0)/\s.toks<=tk/\
     (∀b o,b<s.heap.objs.size->s.heap.get? b=some o->h'.get? b=some o)) E) F.called_set.init.plain F.entry_set_init (check_set_init_1 hT ?_)) λA2 GJ Bq=>?_
   .obtain⟨ol,hol,hcl,nl,hdl⟩:=hl;obtain⟨ocls,odict,odata,oslots⟩:=ol;simp only at hcl hdl;subst hcl;subst hdl;have hol':(s.heap.push O).get? l=some {cls:= .type "list",dict:=odict,data:= .seq items nl,slots:=oslots}:=Heap.get?_push_of_some _ hol;have hsls:=F.sub_list_set;have hslf:=F.sub_list_frozenset;have hne:(Value.type "list"==Value.type "dict")=false:=by decide
    have hl1:(s.heap.push O).IsList l items:=⟨_,hol',rfl,nl,rfl⟩;subst hO;unfold Builtin.«set.__init__» noKeywords Builtin.Frozenset.updateFrom;generalize hPI:pyIter=PI;wp_walk;subst hPI;generalize hO:KW [] 0 (LT (!w.params.followText "set-order") [])=O at*;refine wpAny_pyIter_list hl1 ?_;refine wpAny_bind (wpAny_runValue ?_);have hlS:l<s.heap.objs.size:=Heap.lt_size hol;have hps:(s.heap.push O).objs.size=s.heap.objs.size+1:=Heap.size_push ..;have hh3:A.in1.in1.in1.handled=none:=by simp[hh]
    have hneI:l≠(s.heap.push O).objs.size:=by rw[hps];exact Nat.ne_of_lt (Nat.lt_succ_of_lt hlS)
    have hSf:s.heap.objs.size∉[(s.heap.push O).objs.size,l]:=by rw[hps];simp only[List.mem_cons,List.mem_singleton,List.not_mem_nil,or_false,not_or];exact⟨Nat.ne_of_lt (Nat.lt_succ_self _),Nat.ne_of_gt hlS⟩
    refine zU ((Walks.list hh3 _ l hneI items).toS) s.heap.objs.size
     hSf (λi=>ns.getD i 0) hi (items.size-0) 0 _ [] rfl (Nat.zero_le _)
     ⟨⟨_,Heap.get?_push_size _ rfl,rfl,rfl⟩,(hl1.push _)⟩ ⟨Gg,[],0,(Heap.get?_push_of_some _ hS).trans (by rw[hO]),rfl,λe he=>nomatch he⟩ λs' ks' hm hS' hx=>?_
    obtain⟨h',g',d',tk',os'⟩:=s';obtain rfl:g'=s.gens:=hm.gens;obtain rfl:d'=s.drawn:=hm.drawn;obtain rfl:os'=s.os:=hm.os;show wpAny _ _ _ _ _ _;refine wpAny_pure ?_;show wpAny _ _ (ret Value.none) _ _ _;refine wpAny_pure ⟨rfl,h',tk',ks',rfl,hS',λx=>(hx x).trans ⟨λq=>q.elim (λz=>nomatch z) λ⟨j,_,b⟩=>⟨j,b⟩,λ⟨j,b⟩=> .inr ⟨j,Nat.zero_le _,b⟩⟩,hm.toks,λb o hb e=>?_⟩;refine hm.heap b o ?_ (Heap.get?_push_of_some _ (Heap.get?_push_of_some _ e));simp only[List.mem_cons,List.mem_singleton,List.not_mem_nil,or_false,not_or];exact⟨Nat.ne_of_lt hb,Nat.ne_of_lt (hps▸Nat.lt_succ_of_lt hb)⟩
   .cases A2 with
    |error e=>exact Bq
    |ok Ve=>
     cases Ve with
     |ret r=>
      obtain⟨rfl,h',tk,ks',rfl,hS',hx,ht,hk'⟩:=Bq
      repeat (any_goals (first|assumption|wp_step))
      exact h _ _ _ hS' hx ht hk'
     |_=>exact Bq.elim
  |_=>exact hr.elim
end Mine.Internal
end
section
open PySem PySem.Calls PyProof.Rows PySem.W PyProof
set_option autoImplicit true
namespace Mine.Internal
variable{w:World}{A:Around}{e:Env}{as as1:AH}{s s1 s':Shared}{c c1:AC}{Q:AB}{AA:AP}{led:Bool}{ks:List Nat}{r:Nat}
theorem Gm{h:Heap}{vs:List Value}{ns:List Int}(x:IntsAre vs ns):CVs h as (ns.map .int) vs:=by
 induction x with
 |nil=>show CVs _ _ [] [];rfl
 |cons n t r ih=>exact⟨_,_,rfl,⟨t,rfl⟩,ih⟩
theorem jF{P:Value->Shared->Prop}(hw:led= !w.params.followText "set-order")(hh:A.handled=none)(hS:PJ s.heap r led ks)
  (h:∀s' D out e' (ns:List Int),(∀b o,s.heap.get? b=some o->s'.heap.get? b=some o)->IA s.heap D->s'.heap.get? D=some (seqObj "list" out e')->(s.toks<=s'.toks->Sh s s')->
   IntsAre out.toList ns->ns.Perm (ks.map λ(n:Nat)=>(n:Int))->ns.Pairwise (· <= ·)->P (.ref D) s'):wpAny (model pw w) A (PySem.call (.builtin "sorted") [.ref r]) P no s:=by
 obtain⟨hk,L,ep,ho,hL⟩:=hS;refine Calls.call_function_entry kind_sorted plain_sorted entry_sorted (args_sorted1 _) ?_;unfold Builtin.«sorted»;refine wpAny_bind (m:=checkCount "sorted" 1 1 _) (wpAny_pure ?_);refine wpAny_bind (eQ (A:=A.in1) hw hk hL hh ho λs1 acc hk1 hg hd hos hi=>?_);have hlen:acc.toList.length=L.length:=by exact hi.1
 have h6:L.length<=6:=hL.len▸PH hk;have hp:=RD (w:=w) (r:=r) (ep:=ep) (L:=L);have hv:acc.toList=(aU w r ep L).map (·.2):=List.ext_getElem? λj=>by
  cases q:acc.toList[j]? with
  |none=>rw[List.getElem?_eq_none_iff]at q;rw[List.getElem?_eq_none (by rw[List.length_map,hp.length_eq];exact Nat.le_trans (Nat.le_of_eq hlen.symm) q)]
  |some v=>obtain⟨x,h1,rfl⟩:=hi.2 j v (by simpa using q);rw[List.getElem?_map,h1];rfl
 have hI:IntsAre acc.toList (acc.toList.map numOf):=intsAre_map _ λv hm=>by rw[hv]at hm;obtain⟨x,h1,rfl⟩:=ID hm;obtain⟨t,ht⟩:=hL.2 x (hp.mem_iff.mp h1);exact⟨_,t,ht⟩
 have hn:(acc.toList.map numOf).Perm (ks.map λ(n:Nat)=>(n:Int)):=by simp only[hv,List.map_map,<-hL.1];refine(hp.map _).trans (.of_eq (List.map_congr_left λx hx=>?_));obtain⟨t,ht⟩:=hL.2 x hx;show numOf x.2=x.1;rw[ht];rfl
 refine wpAny_bind (wpAny_newList ?_ (by rw[sizeLine_eq,hlen];exact oA h6));have hoL:(s1.heap.push (seqObj "list" acc.toList.toArray 0)).get? s1.heap.objs.size=some (seqObj "list" acc.toList.toArray 0):=Heap.get?_push_size _ rfl;refine wpAny_bind (wpAny_holding (wpAny_call_entry slot_list_sort ⟨_,hoL,rfl⟩ entry_list_sort (list_sort_tree hoL hI (by exact oE (Nat.le_of_eq hlen) h6) λout ns' a1 a2 a3=>⟨_,rfl,?_⟩) (args_list_sort _)));obtain⟨e',he⟩:=sortedHeap_at (h:=s1.heap.push (seqObj "list" acc.toList.toArray 0)) (out:=out) hoL;have old:∀b o,s.heap.get? b=some o->(sortedHeap (s1.heap.push (seqObj "list" acc.toList.toArray 0)) s1.heap.objs.size acc.toList out).get? b=some o:=λb o e1=>by have:=Heap.lt_size (hk1 b o e1);refine(sortedHeap_old (Nat.ne_of_lt this) ?_).trans (Heap.get?_push_of_some _ (hk1 b o e1));rw[Heap.size_push];exact Nat.lt_succ_of_lt this
 exact wpAny_pure ⟨_,rfl,h {s1 with heap:=_} s1.heap.objs.size out e' ns' old (λb o q=>Heap.lt_size (hk1 _ _ q)) he (λkt=>⟨hd,hos,#[],by simp[hg],kt,.empty⟩) a1 (a2.trans hn) a3⟩
theorem rO{x:Int}{l:List Int}:x∈FP l↔x∈l:=by
 induction l with
 |nil=>exact Iff.rfl
 |cons y r ih=>show x∈y::(FP r).filter (· ≠y)↔_;rw[List.mem_cons,List.mem_cons,List.mem_filter,ih];by_cases q:x=y<;>simp[q]
theorem eR(l:List Int):(FP l).Nodup:=by
 induction l with
 |nil=>exact .nil
 |cons y r ih=>exact List.nodup_cons.mpr ⟨λh=>of_decide_eq_true (List.mem_filter.mp h).2 rfl,ih.filter _⟩
theorem jG{a:AV}{xs:List AV}{is:List Int}{v:Value}(hs:St AA c e as s.heap)(hr:AL A e 1)(cv:CV s.heap as a v)(hx:BN c.st a=some xs)(hi:GK xs=some is)(hb:is.length<60/\∀i∈is,0<=i/\i<6)(q:Q (.v (.flist ((DH (FP is)).map .int))) c):
  wpAny (model pw AA.w) A (PySem.call (.type "set") [v]) (λr s1=>wpAny (model pw AA.w) A (PySem.call (.builtin "sorted") [r]) (AI AA e c as s Q) no s1) no s:=by
 obtain⟨l,vs,rfl,hl,hc⟩:=ET hs cv hx;have hI:=CVs.ints hc hi;have hlen:=hI.length;refine Nh (ns:=is.map Int.toNat) hr.quiet hl (λi v hv=>?_) λh' tk ks' hS hm ht hk=>?_
 .obtain⟨t,rfl⟩:=hI.int_at i v (by simpa using hv);have hlt:i<is.length:=by have:=(Array.getElem?_eq_some_iff.mp hv).1;rw[List.size_toArray]at this;exact Nat.le_trans this (Nat.le_of_eq hlen)
  obtain⟨b1,b2⟩:=hb.2 is[i] (List.getElem_mem hlt);have e1:is.getD i 0=is[i]:=by simp[hlt]
  have e2:(is.map Int.toNat).getD i 0=is[i].toNat:=by simp[hlt]
  rw[e1,e2];refine⟨(Int.toNat_lt b1).mpr b2,t,?_⟩;rw[Int.toNat_of_nonneg b1]
 .refine BI (jF (s:={s with heap:=h',toks:=tk}) rfl hr.quiet hS λs' D out e' ns hk' hD hD' sh hI' hp ho htk=>?_);have hks:(ks'.map λ(n:Nat)=>(n:Int)).Perm (FP is):=by
   refine(List.perm_ext_iff_of_nodup ?_ (eR _)).mpr λx=>?_
   .exact List.Pairwise.map (λ(n:Nat)=>(n:Int)) (λa b h q=>h (Int.ofNat.inj q)) (rN hS.1)
   .simp only[rO,List.mem_map];constructor
    .rintro⟨y,h1,rfl⟩;obtain⟨j,hj,rfl⟩:=(hm y).mp h1;have hj:j<is.length:=by simp only[List.size_toArray]at hj;exact Nat.le_trans hj (Nat.le_of_eq hlen)
     have e2:(is.map Int.toNat).getD j 0=is[j].toNat:=by simp[hj]
     rw[e2,Int.toNat_of_nonneg (hb.2 _ (List.getElem_mem hj)).1];exact List.getElem_mem hj
    .intro h1;obtain⟨j,hj,rfl⟩:=List.mem_iff_getElem.mp h1;refine⟨is[j].toNat,(hm _).mpr ⟨j,by rw[List.size_toArray];exact Nat.le_trans hj (Nat.le_of_eq hlen.symm),by simp[hj]⟩,Int.toNat_of_nonneg (hb.2 _ h1).1⟩
  have hns:ns=DH (FP is):=NG (hp.trans (hks.trans (sortI_perm _).symm)) ho (OU _);subst hns;have hk2:∀b o,s.heap.get? b=some o->s'.heap.get? b=some o:=λb o e=>hk' b o (hk b o (Heap.lt_size e) e);have g:=hs.extS hk2 ((Sh.heap s h' tk ht).trans (sh htk));exact .ofGo (a:= .flist _) g ⟨D,out.toList,rfl,hs.offA (λb o e=>hD b o (hk b o (Heap.lt_size e) e)),⟨e',by exact hD'⟩,Gm hI'⟩ q
end Mine.Internal
end
section
open PySem
set_option maxHeartbeats 4000000
namespace MineV.Internal
open Mine.Internal
variable{P:Prop}{A:AY->AC->AB->Prop}{n k d m a x b lo p i j q W h y:Nat}{vs xs:List AV}{c c':AC}{Q:AB}{st ex:List AO}{fs:List (Str×AV)}{g:Obj}{s pl t T w:List Nat}{v v1 v2 v3 v5 v6:AV}{r:List Stmt}{ms ks ks':List Int}{e:Nat×Nat}{es nr ps:List (Nat×Nat)}{hi:Option AV}{so:DL}{g':Int}{fr:AF}{x0 x1 x2 x3 x4 x5 x6 x7 x8 x9 x10 a1 a6 a7 a8:AO}{az:A9}{ws S:List (List Nat)}{D:Dict}{f:Nat->Nat}
theorem HE(h:false=true):P:=by exact ME h
theorem BZ(h:true=false):P:=by exact tJ h
theorem BE{n:String}(h:A (.call (.typ n) vs) c Q):DI A (.typ n) vs c Q:=⟨h⟩
theorem BF{n:String}(h:A (.call (.blt n) vs) c Q):DI A (.blt n) vs c Q:=⟨h⟩
theorem zV{l:Nat}(h1:st[l]? =some (.inst k d))(h2:st[d]? =some (.ns fs)):LB st (.loc l)=some (k,d,fs):=by show(st[l]?).bind _=_;rw[h1];show(st[d]?).bind _=_;rw[h2];rfl
theorem eS{l g:Nat}{m:Str}{fd:FD}(h1:c.at l=some (.inst FZ d))(h2:c.at d=some (.ns fs))(h3:fs.lookup m=none)(h4:FI.lookup m=some g)(h5:DD g=some fd)
  (h6:DS fd [] (.loc l::vs) c.st c.st.length=some c')(h:AX n (.execs fd.body) c' (GO c Q)):FM (AX (n+1)) (.loc l) m vs c Q:=by
 refine⟨AE h1 (show on (LB c.st (.loc l)) _ from AE (zV h1 h2) (cH (Nat.beq_refl _) ?_))⟩;have e:(bif GM m then(fs.lookup m).filter QH else none)=none:=by rw[h3];cases GM m<;>rfl
 show BV (bif GM m then(fs.lookup m).filter QH else none) _ _;rw[e];exact cH (congrArg Option.isNone h3) (AE h4 (AE h5 (AE h6 h)))
theorem MP{m:Str}(e:gG m s vs c.st=some v)(h:Q (.v v) c):FM (AX (n+1)) (.str s) m vs c Q:=⟨AE e h⟩
theorem SU{l:Nat}{m:Str}(h1:c.at l=some (.list xs))(e:SD m c.st l xs vs=some (v,st))(h:Q (.v v) {c with st:=st}):FM (AX (n+1)) (.loc l) m vs c Q:=⟨AE h1 (AE e h)⟩
noncomputable abbrev C0(a:Nat)(L:List (Str×AV))(st:List AO):AC:=⟨⟨((DD a).getD default).scope,L,[]⟩,st,0⟩
noncomputable def Tz(a:Nat):Option FD:=(((239,true,29)::TI).lookup a).map λp=>KF (if p.1 then DA p.2 else KY p.2)
noncomputable abbrev body(a:Nat):List Stmt:=((Tz a).getD default).body
theorem LV(h:AX k (.execs r) c Q):(VY λx c1=>match x with
  | .next=>AX k (.execs r) c1 Q
  |x=>Q (.f x) c1) (.f .next) c:=h
theorem GR(h:AX k (.execs r) c Q):AX (n+1) (.execs []) c (VY λx c1=>match x with
  | .next=>AX k (.execs r) c1 Q
  |x=>Q (.f x) c1):=h
theorem Gn(h:Q (.f .next) c):AX (n+1) (.execs []) c Q:=h
end MineV.Internal
end
local macro_rules | `(tactic| left) => `(tactic| (repeat (first | refine And.intro rfl ?_ | refine MineV.Internal.BF ?_ | refine MineV.Internal.BE ?_)))
section
open PySem
set_option maxHeartbeats 4000000
namespace MineV.Internal
open Mine.Internal
variable{P:Prop}{A:AY->AC->AB->Prop}{n k d m a x b lo p i j q W h y:Nat}{vs xs:List AV}{c c':AC}{Q:AB}{st ex:List AO}{fs:List (Str×AV)}{g:Obj}{s pl t T w:List Nat}{v v1 v2 v3 v5 v6:AV}{r:List Stmt}{ms ks ks':List Int}{e:Nat×Nat}{es nr ps:List (Nat×Nat)}{hi:Option AV}{so:DL}{g':Int}{fr:AF}{x0 x1 x2 x3 x4 x5 x6 x7 x8 x9 x10 a1 a6 a7 a8:AO}{az:A9}{ws S:List (List Nat)}{D:Dict}{f:Nat->Nat}
theorem jH(m:Nat)(xs:List Bool)(Q:AB)(h:∀c,Q (.f (.ret (.int (xs.countP id:Nat)))) c):AX (m+30) (.execs (body 21)) (C0 21 [("a",.flist (xs.map .bool)),("b",.int 1)] []) Q:=by
 left;refine⟨_,rfl,rfl,λi c=>c=C0 21 [("a",.flist (xs.map .bool)),("b",.int 1),("count",.int ((xs.take i).countP id:Nat))] [],rfl,?_,?_,?_⟩
 .rintro i _ rfl;exact⟨rfl,trivial⟩
 .rintro i x _ hx rfl;rw[List.getElem?_map]at hx;obtain⟨b,hb,rfl⟩:=AZ hx;have ht:xs.take (i+1)=xs.take i++[b]:=by rw[List.take_add_one,hb];rfl
  cases b
  .left;refine⟨0,["a","b","count"],_,by rfl,rfl,?_⟩;rw[ht,List.countP_append];rfl
  .left;refine⟨0,["a","b","count"],_,by rfl,rfl,?_⟩;rw[ht,List.countP_append];rfl
 .rintro _ rfl;have e:(List.map AV.bool xs).length=xs.length:=List.length_map ..;refine(Eq.symm e)▸(Eq.symm List.take_length)▸?_;left;exact h _
theorem eT(h:a<1099511627776):FO (a:Int)=some a:=by show(bif Nat.blt a 1099511627776 then some a else none)=some a;rw[show Nat.blt a 1099511627776=true from Nat.ble_eq_true_of_le h];rfl
theorem FT(h:a<1000):FO (a:Int)=some a:=eT (oA h)
theorem IU{l:Nat}(h:st[l]? =some (.list xs)):BN st (.loc l)=some xs:=by show(st[l]?).bind KX=_;rw[h];rfl
theorem CG{x:AV}(h2:a<1000)(h3:xs[a]? =some x):ZB st (.flist xs) (.int (a:Int))=some x:=by show(FO (a:Int)).bind _=_;rw[FT h2];exact h3
theorem UX{l:Nat}{x:AV}(h1:st[l]? =some (.list xs))(h2:a<1000)(h3:xs[a]? =some x):ZB st (.loc l) (.int (a:Int))=some x:=by show BV (BN st (.loc l)) (λxs=>(FO (a:Int)).bind λn=>xs[n]?) _=_;rw[IU h1];exact CG (st:=st) h2 h3
theorem eU{l:Nat}(h1:st[l]? =some (.list xs))(h2:a<1000)(h3:a<xs.length):ZC st (.loc l) (.int (a:Int)) v g=some (st.set l (.list (xs.set a v))):=by
 have e:Ci st (.loc l) (.int (a:Int)) v=some (λ_=>st.set l (.list (xs.set a v))):=by show(st[l]?).bind _=_;rw[h1];show(FO (a:Int)).bind _=_;rw[FT h2];exact if_pos h3
 exact congrArg (Option.map (· g)) e
noncomputable def BS(e:Nat×Nat):AV:= .flist [.int e.1,.int e.2]
noncomputable def BB(es:List (Nat×Nat)):AV:= .flist (es.map BS)
noncomputable def EL(g:Int)(ms:List Int)(e:Nat×Nat):List Int:=
 if g=e.1\/g=e.2 then ms else(ms.set e.1 (min (ms.getD e.1 0) (ms.getD e.2 0))).set e.2 (min (ms.getD e.1 0) (ms.getD e.2 0))
noncomputable def CH(g:Int)(es:List (Nat×Nat))(ms:List Int):List Int:=es.foldl (EL g) ms
noncomputable def AW(es:List (Nat×Nat))(g:Int):List Int:=CH g es (CH g es (CH g es (CH g es [0,1,2,3,4])))
noncomputable def RW(g:Int)(es:List (Nat×Nat)):Nat->List Int->List Int
 |0,ms=>ms
 |n+1,ms=>CH g es (RW g es n ms)
noncomputable def AJ(is:List Int):List AV:=is.map .int
noncomputable abbrev mC(es:List (Nat×Nat))(g:Int)(ms:List Int)(L:List (Str×AV))(lo:Nat):AC:=⟨⟨((DD 219).getD default).scope,("streets",BB es)::("gone",.int g)::("marks",.loc 0)::L,[]⟩,[.list (AJ ms)],lo⟩
theorem aY{g:Int}:(EL g ms e).length=ms.length:=by unfold EL;split<;>simp
theorem EE{g:Int}:∀{es:List (Nat×Nat)} {ms:List Int},(CH g es ms).length=ms.length
 |[],_=>rfl
 |e::r,ms=>by show(CH g r (EL g ms e)).length=_;rw[EE,aY]
theorem XV{g:Int}{es:List (Nat×Nat)}{ms:List Int}:∀n,(RW g es n ms).length=ms.length
 |0=>rfl
 |n+1=>by simp only[RW,EE,XV]
theorem CA{is:List Int}(h:a<is.length):(AJ is)[a]? =some (.int (is.getD a 0)):=by simp[AJ,List.getElem?_map,List.getElem?_eq_getElem h]
theorem rP{is:List Int}{x:Int}:(AJ is).set a (.int x)=AJ (is.set a x):=by simp[AJ,List.map_set]
theorem XW{l:Nat}{is:List Int}{x:Int}(h1:st[l]? =some (.list (AJ is)))(h2:a<1000)(h3:a<is.length):ZC st (.loc l) (.int (a:Int)) (.int x) g=some (st.set l (.list (AJ (is.set a x)))):=by refine rP▸?_;exact eU h1 h2 (by simpa[AJ]using h3)
theorem zW(m:Nat)(es:List (Nat×Nat))(g:Int)(hes:∀e∈es,e.1<5/\e.2<5)(Q:AB)(h:∀L,Q (.f (.ret (.loc 0))) (mC es g (AW es g) L 0)):AX (m+40) (.execs (body 219)) (C0 219 [("streets",BB es),("gone",.int g)] []) Q:=by
 left;refine⟨_,rfl,rfl,λi c=>c=mC es g (RW g es i [0,1,2,3,4]) [] 1,rfl,?_,?_,?_⟩
 .rintro i _ rfl;exact⟨rfl,trivial⟩
 .rintro i x _ hx rfl;have hx:∃k:Nat,x= .int k:=by simp only[GY,List.getElem?_map]at hx;obtain⟨k,_,rfl⟩:=AZ hx;exact⟨k,rfl⟩
  obtain⟨k,rfl⟩:=hx;left;refine⟨_,rfl,rfl,λj c=>c=mC es g (CH g (es.take j) (RW g es i [0,1,2,3,4])) [("spare",.int k)] 1,rfl,?_,?_,?_⟩
  .rintro j _ rfl;exact⟨rfl,trivial⟩
  .rintro j y _ hy rfl;rw[List.getElem?_map]at hy;obtain⟨⟨a,b⟩,hab,rfl⟩:=AZ hy;have ht:es.take (j+1)=es.take j++[(a,b)]:=by rw[List.take_add_one,hab];rfl
   have hlt:=hes _ (List.mem_of_getElem? hab);generalize hms:CH g (es.take j) (RW g es i [0,1,2,3,4])=ms;have hlen:ms.length=5:=by simp only[<-hms,EE,XV];rfl
   have hst:CH g (es.take (j+1)) (RW g es i [0,1,2,3,4])=EL g ms (a,b):=by simp only[ht,CH,List.foldl_append];show EL g (CH g (es.take j) _) _=_;rw[hms]
   have fin:∀L ms',ms'=EL g ms (a,b)->ON (λm' c=>c=mC es g (CH g (es.take m') (RW g es i [0,1,2,3,4])) [("spare",.int k)] 1) (λm'=>m'=j+1) (mC es g ms' (("spare",AV.int k)::L) 1):=by rintro L _ rfl;exact⟨1,["streets","gone","marks","spare"],_,rfl,rfl,by rw[hst];rfl⟩
   left;refine AQ (λh1=>?_) (λh1=>?_)
   .left;refine AQ (λh2=>?_) (λh2=>?_)
    .have ga:ms[a]? =some (ms.getD a 0):=by simp[List.getElem?_eq_getElem (show a<ms.length by exact Nat.le_trans hlt.1 (Nat.le_of_eq hlen.symm))]
     left;refine AE (UX rfl (by exact oA hlt.1) (CA (by exact Nat.le_trans hlt.1 (Nat.le_of_eq hlen.symm)))) ?_;left;refine AE (UX rfl (by exact oA hlt.2) (CA (by exact Nat.le_trans hlt.2 (Nat.le_of_eq hlen.symm)))) ?_;left;intro gg;refine AE (XW rfl (by exact oA hlt.1) (by simp only[List.length_set];exact Nat.le_trans hlt.1 (Nat.le_of_eq hlen.symm))) ?_;left;intro gg;refine AE (XW rfl (by exact oA hlt.2) (by simp only[List.length_set];exact Nat.le_trans hlt.2 (Nat.le_of_eq hlen.symm))) ?_;left;refine fin [("one",.int a),("other",.int b),("low",.int (min (ms.getD a 0) (ms.getD b 0)))] _ ?_;have n1:g≠a:=by simpa using h1
     have n2:g≠b:=by simpa using h2
     unfold EL;rw[if_neg (by simp[n1,n2])]
    .left;refine fin [("one",.int a),("other",.int b)] _ ?_;have n2:g=b:=by simpa using h2
     unfold EL;rw[if_pos (.inr n2)]
   .left;refine fin [("one",.int a),("other",.int b)] _ ?_;have n1:g=a:=by simpa using h1
    unfold EL;rw[if_pos (.inl n1)]
  .rintro _ rfl;rw[List.length_map,List.take_length];left;exact⟨1,["streets","gone","marks"],_,rfl,rfl,rfl⟩
 .rintro _ rfl;left;exact h _
noncomputable def BK(ns:List Nat):List AV:=ns.map λ(n:Nat)=> .int (n:Int)
noncomputable def BW(x:List (Nat×Nat)×Nat)(s:Nat):List (Nat×Nat)×Nat:=
 if(x.2,(x.2+s)%5)∈x.1\/((x.2+s)%5,x.2)∈x.1 then(x.1,(x.2+s)%5)else(x.1++[(x.2,(x.2+s)%5)],(x.2+s)%5)
noncomputable def BU(ss:List Nat):List (Nat×Nat):=(ss.foldl BW ([],0)).1
theorem HT(a b:Nat):Int.fmod (a:Int) (b:Int)=((a%b:Nat):Int):=by rw[Int.fmod_eq_emod_of_nonneg _ (Int.natCast_nonneg _)];rfl
theorem eV(e f:Nat×Nat):VX (BS e) (BS f)=some (decide (e=f)):=by have:VX (BS e) (BS f)=some (decide ((e.1:Int)=f.1)&&(decide ((e.2:Int)=f.2)&&true)):=rfl;rw[this];obtain⟨a,b⟩:=e;obtain⟨c,d⟩:=f;simp only[Bool.and_true,Prod.mk.injEq,Bool.decide_and,Option.some.injEq];congr 1<;>(apply decide_eq_decide.mpr;omega)
theorem aZ(e:Nat×Nat)(es:List (Nat×Nat)):WK (BS e) (es.map BS)=some (decide (e∈es)):=by
 induction es with
 |nil=>rfl
 |cons f r ih=>show((VX (BS f) (BS e)).bind λa=>(WK (BS e) (r.map BS)).map (a|| ·))=_;rw[eV,ih];refine congrArg some (?_:(decide (f=e)||decide (e∈r))=_);rw[<-Bool.decide_or];exact decide_eq_decide.mpr ⟨λh=>h.elim (λh=>h▸ .head _) (.tail _),λh=>(AN h).imp_left Eq.symm⟩
theorem PL{l:Nat}(h:st[l]? =some (.list (es.map BS))):GL st .NotIn (.flist [.int a,.int b]) (.loc l)=some (!decide ((a,b)∈es)):=by show(BV (BN st (.loc l)) (WK _) _).map _=_;rw[IU h];exact congrArg (Option.map (! ·)) (aZ (a,b) es)
theorem jI{l:Nat}{x:AV}(h:xs.length<=1000):SD "append" st l xs [x]=some (.none,st.set l (.list (xs++[x]))):=by show(if xs.length<=1000 then some (AV.none,st.set l (.list (xs++[x])))else none)=_;rw[if_pos h]
theorem WE{l:Nat}(h:es.length<=1000):SD "append" st l (es.map BS) [.flist [.int a,.int b]]=some (.none,st.set l (.list ((es++[(a,b)]).map BS))):=by rw[List.map_append];exact jI (by rw[List.length_map];exact h)
noncomputable abbrev sC(ss:List Nat)(es:List (Nat×Nat))(p:Nat)(L:List (Str×AV))(lo:Nat):AC:=⟨⟨((DD 200).getD default).scope,("sizes",.flist (BK ss))::("place",.int p)::("streets",.loc 0)::L,[]⟩,[.list (es.map BS)],lo⟩
theorem RX:∀(ss:List Nat) (x:List (Nat×Nat)×Nat),(ss.foldl BW x).1.length<=x.1.length+ss.length
 |[],_=>Nat.le_refl _
 |s::r,x=>by
  simp only[List.foldl_cons];refine Nat.le_trans (RX r _) ?_;have:(BW x s).1.length<=x.1.length+1:=by unfold BW;split<;>simp
  simp only[List.length_cons];exact oD this
theorem jJ(m:Nat)(ss:List Nat)(hl:ss.length<=6)(Q:AB)(h:∀p L,Q (.f (.ret (.loc 0))) (sC ss (BU ss) p L 0)):AX (m+40) (.execs (body 200)) (C0 200 [("sizes",.flist (BK ss))] []) Q:=by
 left;refine⟨_,rfl,rfl,λi c=>c=sC ss ((ss.take i).foldl BW ([],0)).1 ((ss.take i).foldl BW ([],0)).2 [] 1,rfl,?_,?_,?_⟩
 .rintro i _ rfl;exact⟨rfl,trivial⟩
 .intro i x c2 hx hI;simp only[BK,List.getElem?_map]at hx;obtain⟨s,hs,rfl⟩:=AZ hx;subst hI;have ht:ss.take (i+1)=ss.take i++[s]:=by rw[List.take_add_one,hs];rfl
  generalize hx:(ss.take i).foldl BW ([],0)=x;have hst:(ss.take (i+1)).foldl BW ([],0)=BW x s:=by rw[ht,List.foldl_append,hx];rfl
  have hlen:x.1.length<=i:=by refine hx▸?_;exact Nat.le_trans (RX _ _) (by simp;exact Nat.min_le_left _ _)
  have hi:i<6:=by have:=(EC hs);exact Nat.le_trans this hl
  have e1:((x.2:Int)+s).fmod 5=(((x.2+s)%5:Nat):Int):=HT (x.2+s) 5;have fin:∀L es p,(es,p)=BW x s->ON (λm' c=>c=sC ss ((ss.take m').foldl BW ([],0)).1 ((ss.take m').foldl BW ([],0)).2 [] 1) (λm'=>m'=i+1) (sC ss es p L 1):=by intro L es p he;exact⟨1,["sizes","place","streets"],_,rfl,rfl,by refine(Eq.symm hst)▸he▸?_;rfl⟩
  left
  conv=>whnf
  refine(Eq.symm e1)▸?_;refine AE (PL rfl) ?_;refine AQ (λh1=>?_) (λh1=>?_)
  .left;refine AE (PL rfl) ?_;refine AQ (λh2=>?_) (λh2=>?_)
   .left;refine SU rfl (WE (es:=x.1) (by exact oA (Nat.le_trans hlen (Nat.le_of_lt hi)))) ?_;left;refine fin [("size",.int s),("after",.int ((x.2+s)%5:Nat))] _ _ ?_;unfold BW;rw[if_neg (by rintro(q|q)<;>simp[q]at h1 h2)]
   .left;refine fin [("size",.int s),("after",.int ((x.2+s)%5:Nat))] _ _ ?_;unfold BW;rw[if_pos (.inr (by simpa using h2))]
  .left;refine fin [("size",.int s),("after",.int ((x.2+s)%5:Nat))] _ _ ?_;unfold BW;rw[if_pos (.inl (by simpa using h1))]
 .rintro _ rfl;have e:(BK ss).length=ss.length:=List.length_map ..;rw[e,List.take_length];left;exact h _ _
theorem HF{α:Type}{f:α->AV}(hf:∀x,(f x).free=true)(xs:List α):frees (xs.map f)=true:=by
 induction xs with
 |nil=>rfl
 |cons x r ih=>exact Bool.and_eq_true_iff.mpr ⟨hf x,ih⟩
theorem UY(is:List Int):frees (AJ is)=true:=HF (λ_=>rfl) _
theorem UZ(is:List Nat):frees (BK is)=true:=HF (λ_=>rfl) _
theorem EF(es:List (Nat×Nat)):frees (es.map BS)=true:=HF (λ_=>rfl) _
theorem CI{fd:FD}{as:List AV}(hfd:DD a=some fd)(h1:a≠FZ)(h2:a≠193)(h3:a≠169)(hf:frees as=true)(he:DS fd [] as [] 0=some c')(h:AX n (.execs fd.body) c' (LE c Q)):
  DI (AX (n+1)) (.fn a) as c Q:=by
 refine⟨AQ (λq=>absurd (Nat.eq_of_beq_eq_true q) h1) λ_=>AQ (λq=>absurd (Nat.eq_of_beq_eq_true q) h2) λ_=>AQ (λq=>absurd (Nat.eq_of_beq_eq_true q) h3) λ_=>AE hfd ?_⟩;show GA (frees as) _ _;rw[hf];exact AE he h
theorem XX{l:Nat}(h1:c'.st[l]? =some (.list xs))(hf:frees xs=true)(h:Q (.v (.flist xs)) c):LE c Q (.f (.ret (.loc l))) c':=by show gH (frz c'.st (.loc l)) c Q;refine AE ?_ h;show(c'.st[l]?).bind _=_;rw[h1];exact if_pos hf
theorem HU(h1:∀l,v≠ .loc l)(hf:v.free=true)(h:Q (.v v) c):LE c Q (.f (.ret v)) c':=by
 show gH (frz c'.st v) c Q;refine AE ?_ h;show BV (GF v) _ _=_;cases h:GF v with
 |none=>exact if_pos hf
 |some l=>exact absurd (CT h) (h1 l)
theorem VA{g:Int}(hes:∀e∈es,e.1<5/\e.2<5)(h:Q (.v (.flist (AJ (AW es g)))) c):DI (AX (n+41)) (.fn 219) [BB es,.int g] c Q:=by refine CI (fd:=(DD 219).getD default) rfl (by decide) (by decide) (by decide) ?_ (c':=C0 219 [("streets",BB es),("gone",.int g)] []) rfl (zW n es g hes _ λL=>XX rfl (UY _) h);show(frees (es.map BS)&&true)=true;rw[EF];rfl
theorem bA{ss:List Nat}(hl:ss.length<=6)(h:Q (.v (BB (BU ss))) c):DI (AX (n+41)) (.fn 200) [.flist (BK ss)] c Q:=by refine CI (fd:=(DD 200).getD default) rfl (by decide) (by decide) (by decide) ?_ (c':=C0 200 [("sizes",.flist (BK ss))] []) rfl (jJ n ss hl _ λp L=>XX rfl (EF _) h);show(frees (BK ss)&&true)=true;rw[UZ];rfl
inductive Jg(xs:List AV)(k i:Nat):AV->Prop
 |mk (y:AV) (h:xs[i]? =some y):Jg xs k i (.ftup [.int ((k+i:Nat):Int),y])
theorem PM(xs:List AV):∀(k i:Nat) (x:AV),(ES k xs)[i]? =some x->Jg xs k i x:=by
 induction xs with
 |nil=>exactλ_ _ _ h=>BJ h
 |cons y r ih=>
  intro k i x h;cases i with
  |zero=>exact sj h▸⟨y,rfl⟩
  |succ i=>obtain⟨z,h1⟩:=ih (k+1) i x h;exact Nat.succ_add k i▸⟨z,h1⟩
theorem PN(xs:List AV):∀k:Int,(ES k xs).length=xs.length:=by
 induction xs with
 |nil=>exactλ_=>rfl
 |cons x r ih=>exactλk=>congrArg Nat.succ (ih (k+1))
inductive Ua(xs ys:List AV)(i:Nat):AV->Prop
 |mk (a b:AV) (h:xs[i]? =some a) (h2:ys[i]? =some b):Ua xs ys i (.ftup [a,b])
theorem Gp(xs ys:List AV)(i:Nat)(x:AV)(h:(cB xs ys)[i]? =some x):Ua xs ys i x:=by obtain⟨a,b,h1,h2,h3⟩:=List.getElem?_zipWith_eq_some.mp h;exact h3▸⟨a,b,h1,h2⟩
theorem Gq(xs ys:List AV):(cB xs ys).length=min xs.length ys.length:=List.length_zipWith
theorem FF{α β:Type}(f:α->β)(l:List α):(l.flatMap λi=>[f i])=l.map f:=by
 induction l with
 |nil=>rfl
 |cons x r ih=>exact(List.flatMap_cons ..).trans (congrArg (f x:: ·) ih)
theorem LW(is:List Int):GK (AJ is)=some is:=by
 induction is with
 |nil=>rfl
 |cons x r ih=>exact congrArg (Option.map (x:: ·)) ih
noncomputable def PO(p:Nat×Nat):AV:= .ftup [.int p.1,.int p.2]
noncomputable def EY(es:List (Nat×Nat))(p:Nat):List (Nat×Nat):=(List.range es.length).flatMap λi=>if p=(es.getD i (0,0)).1\/p=(es.getD i (0,0)).2 then[(i,(es.getD i (0,0)).1+(es.getD i (0,0)).2-p)]else[]
noncomputable def IV(lo hi:Int)(ks:List Int):List Int:=(List.range ks.length).map λi=>if ks.getD i 0=hi then lo else ks.getD i 0
noncomputable def EB(ms:List Int)(a:Nat×Nat)(ks:List Int)(b:Nat×Nat):List Int:=
 if a.1<b.1/\ms.getD a.2 0=ms.getD b.2 0 then IV (min (ks.getD a.1 0) (ks.getD b.1 0)) (max (ks.getD a.1 0) (ks.getD b.1 0)) ks else ks
noncomputable def II(ms:List Int)(near:List (Nat×Nat))(ks:List Int)(a:Nat×Nat):List Int:=near.foldl (EB ms a) ks
noncomputable def CJ(es:List (Nat×Nat))(ks:List Int)(p:Nat):List Int:=(EY es p).foldl (II (AW es p) (EY es p)) ks
noncomputable def CK(es:List (Nat×Nat)):List Int:=(List.range 5).foldl (CJ es) ((List.range es.length).map λ(i:Nat)=>(i:Int))
noncomputable def HG(es:List (Nat×Nat))(ks:List Int)(l:Int):List (Nat×Nat):=(List.range es.length).flatMap λj=>if ks.getD j 0=l then[es.getD j (0,0)]else[]
noncomputable def DJ(es:List (Nat×Nat)):List (List (Nat×Nat)):=(DH (FP (CK es))).map (HG es (CK es))
noncomputable def zX(ps:List (List (Nat×Nat))):AV:= .flist (ps.map BB)
theorem PP{lo hi:Int}:(IV lo hi ks).length=ks.length:=by simp[IV]
theorem PQ{a b:Nat×Nat}:(EB ms a ks b).length=ks.length:=by unfold EB;split<;>simp[PP]
theorem foldl_len{α:Type}{f:List Int->α->List Int}(hf:∀ks x,(f ks x).length=ks.length):∀(l:List α) (ks:List Int),(l.foldl f ks).length=ks.length
 |[],_=>rfl
 |x::r,ks=>by simp only[List.foldl_cons,foldl_len hf r,hf]
theorem RY{near:List (Nat×Nat)}{a:Nat×Nat}:(II ms near ks a).length=ks.length:=foldl_len (λ_ _=>PQ) _ _
theorem HQ:(CJ es ks p).length=ks.length:=foldl_len (λ_ _=>RY) _ _
noncomputable def LX(ks:List Int):Prop:=∀i∈ks,0<=i/\i<6
theorem RE(h:LX ks)(j:Nat):0<=ks.getD j 0/\ks.getD j 0<6:=by
 rw[List.getD_eq_getElem?_getD];cases q:ks[j]? with
 |none=>exact⟨Int.le_refl _,by decide⟩
 |some x=>exact h x (List.mem_of_getElem? q)
theorem KK{α:Type}{f:List Int->α->List Int}(hf:∀ks x,LX ks->LX (f ks x)):∀(l:List α) (ks:List Int),LX ks->LX (l.foldl f ks)
 |[],_,h=>h
 |x::r,ks,h=>KK hf r _ (hf ks x h)
theorem VB{a b:Nat×Nat}(h:LX ks):LX (EB ms a ks b):=by
 unfold EB;split
 .intro i hi;obtain⟨j,_,rfl⟩:=ID hi;have h1:=RE h a.1;have h2:=RE h b.1;split
  .rcases Int.le_total (ks.getD a.1 0) (ks.getD b.1 0)with q|q
   .rw[Int.min_eq_left q];exact h1
   .rw[Int.min_eq_right q];exact h2
  .exact RE h j
 .exact h
theorem eW(hl:es.length<=6):LX (CK es):=
 KK (λks p h=>KK (λks a h=>KK (λks b h=>VB h) _ ks h) _ ks h) _ _ λi hi=>by obtain⟨j,hj,rfl⟩:=ID hi;have:=List.mem_range.mp hj;lia
theorem IW{α β:Type}{f:α->List β}(hf:∀x,(f x).length<=1):∀l:List α,(l.flatMap f).length<=l.length
 |[]=>Nat.le_refl _
 |x::r=>by simp only[List.flatMap_cons,List.length_append,List.length_cons];have:=hf x;have:=IW hf r;exact oE ‹(f x).length<=1› ‹_›
theorem zY{α:Type}{p:Prop}[Decidable p]{x:α}:(if p then[x]else[]).length<=1:=by split<;>simp
theorem zZ:(EY es p).length<=es.length:=by exact Nat.le_trans (IW (λ_=>zY) _) (Nat.le_of_eq List.length_range)
theorem oR(hes:∀e∈es,e.1<5/\e.2<5){x:Nat×Nat}(h:x∈EY es p):x.1<es.length/\x.2<5:=by
 unfold EY at h;obtain⟨i,h1,h2⟩:=List.mem_flatMap.mp h;have hi:i<es.length:=List.mem_range.mp h1;split at h2
 .rename_i q;rw[AR h2];have:=hes (es.getD i (0,0)) (by rw[List.getD_eq_getElem?_getD,List.getElem?_eq_getElem hi];exact List.getElem_mem hi);refine⟨hi,?_⟩;exact Pp q this
 .exact absurd h2 (List.not_mem_nil)
noncomputable abbrev pC(es:List (Nat×Nat))(ks pl lo hi:Option AV)(L:List (Str×AV))(lim:Nat):AC:=
 ⟨⟨((DD 224).getD default).scope,L,[("high",4),("low",3),("place",2),("kinds",1),("streets",0)]⟩,[.cell (some (BB es)),.cell ks,.cell pl,.cell lo,.cell hi],lim⟩
theorem eX(es:List (Nat×Nat)):DS ((DD 224).getD default) [] [BB es] [] 0=some (pC es none none none none [] 0):=rfl
inductive Aa(n i:Nat):AV->Prop
 |mk (h:i<n):Aa n i (.int i)
theorem MQ{x:AV}(h:(GY (n:Int))[i]? =some x):Aa n i x:=by
 simp only[GY,List.getElem?_map,Int.toNat_natCast]at h;obtain⟨k,h1,rfl⟩:=AZ h;have h2:i<n:=by simpa using(EC h1)
 obtain rfl:=sj ((List.getElem?_range h2)▸h1);exact⟨h2⟩
theorem VC{g:Int}:(AW es g).length=5:=by unfold AW;simp only[EE,EE,EE,EE];rfl
theorem Ab(x:Int)(l:List Int):(FB x l).length=l.length+1:=by
 induction l with
 |nil=>rfl
 |cons y r ih=>
  show(if x<=y then x::y::r else y::FB x r).length=_;by_cases h:x<=y
  .rw[if_pos h];rfl
  .rw[if_neg h];exact congrArg Nat.succ ih
theorem XY(l:List Int):(DH l).length=l.length:=by
 induction l with
 |nil=>rfl
 |cons x r ih=>exact(Ab x (DH r)).trans (congrArg Nat.succ ih)
theorem rQ(l:List Int):(FP l).length<=l.length:=by
 induction l with
 |nil=>exact Nat.le_refl _
 |cons x r ih=>exact Nat.succ_le_succ (Nat.le_trans (List.length_filter_le ..) ih)
theorem IX(l:List Int):(DH (FP l)).length<=l.length:=by rw[XY];exact rQ l
inductive Ub(es:List (Nat×Nat))(i:Nat):AC->Prop
 |mk (pl lo hi:Option AV):Ub es i (pC es (some (.flist (AJ ((List.range i).foldl (CJ es) ((List.range es.length).map λ(i:Nat)=>(i:Int)))))) pl lo hi [] 5)
inductive Uc(es nr:List (Nat×Nat))(ms ks:List Int)(i j:Nat):AC->Prop
 |mk (lo hi:Option AV):Uc es nr ms ks i j (pC es (some (.flist (AJ ((nr.take j).foldl (II ms nr) ks)))) (some (.int i)) lo hi [("marks",.flist (AJ ms)),("near",.flist (nr.map PO))] 5)
inductive Ni(es nr:List (Nat×Nat))(ms ks:List Int)(i t en j:Nat):AC->Prop
 |mk (lo hi:Option AV):Ni es nr ms ks i t en j (pC es (some (.flist (AJ ((nr.take j).foldl (EB ms (t,en)) ks)))) (some (.int i)) lo hi [("marks",.flist (AJ ms)),("near",.flist (nr.map PO)),("turn",.int t),("end",.int en)] 5)
theorem Ub.of{pl lo:Option AV}(e:(List.range i).foldl (CJ es) ((List.range es.length).map λ(i:Nat)=>(i:Int))=ks):Ub es i (pC es (some (.flist (AJ ks))) pl lo hi [] 5):=e▸⟨pl,lo,hi⟩
theorem Uc.of{lo:Option AV}(e:(nr.take j).foldl (II ms nr) ks=ks'):Uc es nr ms ks i j (pC es (some (.flist (AJ ks'))) (some (.int i)) lo hi [("marks",.flist (AJ ms)),("near",.flist (nr.map PO))] 5):=e▸⟨lo,hi⟩
theorem Ni.of{t en:Nat}{lo:Option AV}(e:(nr.take j).foldl (EB ms (t,en)) ks=ks'):Ni es nr ms ks i t en j (pC es (some (.flist (AJ ks'))) (some (.int i)) lo hi [("marks",.flist (AJ ms)),("near",.flist (nr.map PO)),("turn",.int t),("end",.int en)] 5):=e▸⟨lo,hi⟩
theorem QL.gen{t:Expr}{b o:List Stmt}{c1:AC}{src:SM}{items:List AV}(Inv:Nat->AC->Prop)(h0:Inv 0 (c1.rel c1.st.length))(h1:∀i c2,Inv i c2->c2.lo=c1.st.length/\FQ c1.st src c2.st)
  (h2:∀i x c2 Q',items[i]? =some x->(∀r c,lN Inv (λm=>m=i+1) c1.lo Q r c->Q' r c)->Inv i c2->on (LC c2 t x) λc3=>A (.execs b) c3 Q')
  (h3:∀c2,Inv items.length c2->A (.execs o) (c2.rel c1.lo) Q):QL A t b o c1 src items Q:=
 ⟨Inv,h0,h1,λi x c2 hx hi=>h2 i x c2 _ hx (λ_ _ h=>h) hi,h3⟩
theorem Ac(m:Nat)(es:List (Nat×Nat))(hes:∀e∈es,e.1<5/\e.2<5)(hl:es.length<=6)(Q:AB)(h:∀c,Q (.f (.ret (zX (DJ es)))) c):AX (m+80) (.execs (body 224)) (pC es none none none none [] 0) Q:=by
 left;refine⟨λi=>[.int (i:Int)],rfl,?_,?_⟩
 .intro i x hx;obtain⟨y,h1⟩:=PM _ 0 _ _ hx;rw[Nat.zero_add];left;exact Nat.zero_le _
 rw[FF,PN,show(es.map BS).length=es.length from List.length_map ..];refine⟨by simp;exact oA hl,?_⟩;have hk0:(List.range es.length).map (λ(i:Nat)=>AV.int (i:Int))=AJ ((List.range es.length).map λ(i:Nat)=>(i:Int)):=by simp only[AJ,List.map_map];rfl
 rw[hk0];left;refine⟨_,rfl,rfl,QL.gen (Ub es) ⟨none,none,none⟩ ?_ ?_ ?_⟩
 .rintro i _ ⟨pl,lo,hi⟩;exact⟨rfl,trivial⟩
 .intro i x c2 Q1 hx hQ1 hI;obtain⟨h5⟩:=MQ hx;obtain⟨pl,lo,hi⟩:=hI;generalize hks:(List.range i).foldl (CJ es) ((List.range es.length).map λ(i:Nat)=>(i:Int))=ks;have hkl:ks.length=es.length:=by rw[<-hks,foldl_len (λ_ _=>HQ)];simp
  have hnext:(List.range (i+1)).foldl (CJ es) ((List.range es.length).map λ(i:Nat)=>(i:Int))=CJ es ks i:=by rw[List.range_succ,List.foldl_append,hks];rfl
  left;refine VA hes ?_;left;refine⟨λj=>if i=(es.getD j (0,0)).1\/i=(es.getD j (0,0)).2 then[PO (j,(es.getD j (0,0)).1+(es.getD j (0,0)).2-i)]else[],rfl,?_,?_⟩
  .intro j x hx;obtain⟨y,h1⟩:=PM _ 0 _ _ hx;rw[Nat.zero_add];simp only[List.getElem?_map]at h1;obtain⟨⟨a,b⟩,hab,rfl⟩:=AZ h1;have hd:es.getD j (0,0)=(a,b):=by rw[List.getD_eq_getElem?_getD,hab];rfl
   left;refine AQ (λq=>?_) (λq=>?_)
   .have q:i=a\/i=b:=by simp at q;lia
    left;refine⟨?_,rfl,rfl,Nat.zero_le _⟩;show _=(if i=(es.getD j (0,0)).1\/i=(es.getD j (0,0)).2 then[PO (j,(es.getD j (0,0)).1+(es.getD j (0,0)).2-i)]else[]);rw[hd,if_pos q];have:(([(a:Int),(b:Int)].sum-(i:Int)):Int)=((a+b-i:Nat):Int):=(congrArg (· -(i:Int)) (show[(a:Int),(b:Int)].sum=a+b by simp)).trans (A8 q);show[AV.ftup [AV.int j,AV.int _]]=[AV.ftup [AV.int j,AV.int _]];exact(Eq.symm this)▸rfl
   .have q:¬(i=a\/i=b):=by simp at q;lia
    left;refine⟨?_,rfl,rfl,Nat.zero_le _⟩;show(if i=(es.getD j (0,0)).1\/i=(es.getD j (0,0)).2 then[PO (j,(es.getD j (0,0)).1+(es.getD j (0,0)).2-i)]else[])=[];rw[hd,if_neg q]
  have hnear:(List.range (ES 0 (es.map BS)).length).flatMap (λj=>if i=(es.getD j (0,0)).1\/i=(es.getD j (0,0)).2 then[PO (j,(es.getD j (0,0)).1+(es.getD j (0,0)).2-i)]else[])=(EY es i).map PO:=by simp only[PN,List.length_map,EY,List.map_flatMap];congr 1;funext j;split<;>rfl
  rw[hnear];have hnl:(EY es i).length<=es.length:=zZ;refine⟨by rw[List.length_map];exact oA (Nat.le_trans hnl hl),?_⟩;left;refine⟨_,rfl,rfl,QL.gen (Uc es (EY es i) (AW es i) ks i) ⟨lo,hi⟩ ?_ ?_ ?_⟩
  .rintro j _ ⟨lo,hi⟩;exact⟨rfl,trivial⟩
  .intro j x c2 Q2 hx hQ2 hI;rw[List.getElem?_map]at hx;obtain⟨⟨t,en⟩,ht,rfl⟩:=AZ hx;obtain⟨lo,hi⟩:=hI;have htk:(EY es i).take (j+1)=(EY es i).take j++[(t,en)]:=by rw[List.take_add_one,ht];rfl
   generalize hk2:((EY es i).take j).foldl (II (AW es i) (EY es i)) ks=ks2;have hk2l:ks2.length=es.length:=by rw[<-hk2,foldl_len (λ_ _=>RY)];exact hkl
   have hnext2:((EY es i).take (j+1)).foldl (II (AW es i) (EY es i)) ks=II (AW es i) (EY es i) ks2 (t,en):=by rw[htk,List.foldl_append,hk2];rfl
   have hte:=oR hes (List.mem_of_getElem? ht);left;refine⟨_,rfl,rfl,QL.gen (Ni es (EY es i) (AW es i) ks2 i t en) ⟨lo,hi⟩ ?_ ?_ ?_⟩
   .rintro j _ ⟨lo,hi⟩;exact⟨rfl,trivial⟩
   .intro j2 x c2 Q3 hx hQ3 hI;rw[List.getElem?_map]at hx;obtain⟨⟨l,f⟩,hl2,rfl⟩:=AZ hx;obtain⟨lo,hi⟩:=hI;have hlk:(EY es i).take (j2+1)=(EY es i).take j2++[(l,f)]:=by rw[List.take_add_one,hl2];rfl
    generalize hk3:((EY es i).take j2).foldl (EB (AW es i) (t,en)) ks2=ks3;have hk3l:ks3.length=es.length:=by rw[<-hk3,foldl_len (λ_ _=>PQ)];exact hk2l
    have hnext3:((EY es i).take (j2+1)).foldl (EB (AW es i) (t,en)) ks2=EB (AW es i) (t,en) ks3 (l,f):=by rw[hlk,List.foldl_append,hk3];rfl
    have hlf:=oR hes (List.mem_of_getElem? hl2);have hm5:(AW es i).length=5:=VC;generalize AW es i=ms at*;generalize EY es i=nr at*;left;refine AQ (λq1=>?_) (λq1=>?_)
    .left;refine AE (CG (by exact oA hte.2) (CA (by exact Nat.le_trans hte.2 (Nat.le_of_eq hm5.symm)))) ?_;left;refine AE (CG (by exact oA hlf.2) (CA (by exact Nat.le_trans hlf.2 (Nat.le_of_eq hm5.symm)))) ?_;left;refine AQ (λq2=>?_) (λq2=>?_)
     .left;refine AE (CG (by exact oA (Nat.le_trans hte.1 hl)) (CA (by exact Nat.le_trans hte.1 (Nat.le_of_eq hk3l.symm)))) ?_;left;refine AE (CG (by exact oA (Nat.le_trans hlf.1 hl)) (CA (by exact Nat.le_trans hlf.1 (Nat.le_of_eq hk3l.symm)))) ?_;left;refine AE (CG (by exact oA (Nat.le_trans hte.1 hl)) (CA (by exact Nat.le_trans hte.1 (Nat.le_of_eq hk3l.symm)))) ?_;left;refine AE (CG (by exact oA (Nat.le_trans hlf.1 hl)) (CA (by exact Nat.le_trans hlf.1 (Nat.le_of_eq hk3l.symm)))) ?_;left;refine⟨λj=>[.int (if ks3.getD j 0=max (ks3.getD t 0) (ks3.getD l 0)then min (ks3.getD t 0) (ks3.getD l 0)else ks3.getD j 0)],rfl,?_,?_⟩
      .intro j x hx;have hj:j<ks3.length:=by have:=(EC hx);simpa[AJ]using this
       rw[CA hj]at hx;(replace hx:=sj hx;subst hx);left;refine AQ (λq=>?_) (λq=>?_)
       .left;refine⟨?_,rfl,rfl,Nat.zero_le _⟩;show _=[AV.int (if ks3.getD j 0=max (ks3.getD t 0) (ks3.getD l 0)then min (ks3.getD t 0) (ks3.getD l 0)else ks3.getD j 0)];rw[if_pos (of_decide_eq_true q)]
       .left;refine⟨?_,rfl,rfl,Nat.zero_le _⟩;show _=[AV.int (if ks3.getD j 0=max (ks3.getD t 0) (ks3.getD l 0)then min (ks3.getD t 0) (ks3.getD l 0)else ks3.getD j 0)];rw[if_neg (of_decide_eq_false q)]
      rw[FF];have hrec:(List.range (AJ ks3).length).map (λj=>AV.int (if ks3.getD j 0=max (ks3.getD t 0) (ks3.getD l 0)then min (ks3.getD t 0) (ks3.getD l 0)else ks3.getD j 0))=AJ (IV (min (ks3.getD t 0) (ks3.getD l 0)) (max (ks3.getD t 0) (ks3.getD l 0)) ks3):=by rw[show(AJ ks3).length=ks3.length from List.length_map ..,AJ,IV,List.map_map];rfl
      rw[hrec];refine⟨by show(AJ _).length<=1000;simp only[AJ,List.length_map,PP];exact oA (Nat.le_trans (Nat.le_of_eq hk3l) hl),?_⟩;left;refine hQ3 _ _ ⟨5,["marks","near","turn","end"],_,rfl,rfl,Ni.of (hnext3.trans ?_)⟩;exact if_pos ⟨by simpa using q1,of_decide_eq_true q2⟩
     .left;refine hQ3 _ _ ⟨5,["marks","near","turn","end"],_,rfl,rfl,Ni.of (hnext3.trans ?_)⟩;exact if_neg λq=>of_decide_eq_false q2 q.2
    .left;refine hQ3 _ _ ⟨5,["marks","near","turn","end"],_,rfl,rfl,Ni.of (hnext3.trans ?_)⟩;exact if_neg λq=>of_decide_eq_false q1 (Int.ofNat_lt.mpr q.1)
   .rintro _ ⟨lo,hi⟩;rw[List.length_map,List.take_length];left;refine hQ2 _ _ ⟨5,["marks","near"],_,rfl,rfl,Uc.of hnext2⟩
  .rintro _ ⟨lo,hi⟩;rw[List.length_map,List.take_length];left;refine hQ1 _ _ ⟨5,[],_,rfl,rfl,Ub.of hnext⟩
 .rintro _ ⟨pl,lo,hi⟩;refine(Eq.symm (show(GY 5).length=5 from rfl))▸?_;have hkf:(List.range 5).foldl (CJ es) ((List.range es.length).map λ(i:Nat)=>(i:Int))=CK es:=rfl;refine(Eq.symm hkf)▸?_;have hkl:(CK es).length=es.length:=by rw[CK,foldl_len (λ_ _=>HQ)];simp
  left;refine⟨CK es,LW _,⟨by exact oE (Nat.le_of_eq hkl) hl,eW hl⟩,?_⟩;left;generalize hlab:DH (FP (CK es))=labs;refine⟨λj=>[BB (HG es (CK es) (labs.getD j 0))],rfl,?_,?_⟩
  .intro j x hx;have hj:j<labs.length:=by have:=(EC hx);simpa using this
   have hx:=hx.symm.trans (CA hj);(replace hx:=sj hx;subst hx);left;generalize hlb:labs.getD j 0=lab;refine⟨λk=>if(CK es).getD k 0=lab then[BS (es.getD k (0,0))]else[],rfl,?_,?_⟩
   .intro k x hx;obtain⟨y,z,h1,h2⟩:=Gp _ _ _ _ hx;simp only[List.getElem?_map]at h1;obtain⟨e,he,rfl⟩:=AZ h1;have hk:k<(CK es).length:=by have:=(EC h2);simpa[AJ]using this
    have h2:=h2.symm.trans (CA hk);(replace h2:=sj h2;subst h2);have hd:es.getD k (0,0)=e:=by rw[List.getD_eq_getElem?_getD,he];rfl
    left;refine AQ (λq=>?_) (λq=>?_)
    .left;refine⟨?_,rfl,rfl,Nat.zero_le _⟩;show _=(if(CK es).getD k 0=lab then[BS (es.getD k (0,0))]else[]);rw[if_pos (of_decide_eq_true q),hd]
    .left;refine⟨?_,rfl,rfl,Nat.zero_le _⟩;show(if(CK es).getD k 0=lab then[BS (es.getD k (0,0))]else[])=[];rw[if_neg (of_decide_eq_false q)]
   have hg:(List.range (cB (es.map BS) (AJ (CK es))).length).flatMap (λk=>if(CK es).getD k 0=lab then[BS (es.getD k (0,0))]else[])=(HG es (CK es) lab).map BS:=by simp only[Gq,List.length_map,show(AJ (CK es)).length=(CK es).length from List.length_map ..,hkl,Nat.min_self,HG,List.map_flatMap];congr 1;funext j;split<;>rfl
   rw[hg];have hgl:(HG es (CK es) lab).length<=es.length:=by exact Nat.le_trans (IW (λ_=>zY) _) (Nat.le_of_eq List.length_range)
   refine⟨by rw[List.length_map];exact oA (Nat.le_trans hgl hl),?_⟩;left;refine cH (EF _) ?_;refine⟨?_,rfl,rfl,Nat.le_refl _⟩;rfl
  rw[FF,show(labs.map AV.int).length=labs.length from List.length_map ..];have hfin:(List.range labs.length).map (λj=>BB (HG es (CK es) (labs.getD j 0)))=(DJ es).map BB:=by
   simp only[DJ,List.map_map,hlab];apply List.ext_getElem
   .simp
   .intro j h1 h2;have hj:j<labs.length:=by simpa using h1
    simp[List.getElem_map,List.getD_eq_getElem?_getD,List.getElem?_eq_getElem hj]
  rw[hfin];refine⟨?_,?_⟩
  .simp only[List.length_map,DJ,List.length_map];have h1:(DH (FP (CK es))).length<=(CK es).length:=IX _;exact oA (Nat.le_trans (Nat.le_trans h1 (Nat.le_of_eq hkl)) hl)
  left;exact h _
theorem SV(h:xs.length<=1000):blt st "len" [.flist xs]=some (.int xs.length):=by show(if xs.length<=1000 then some (AV.int xs.length)else none)=_;rw[if_pos h]
theorem eY(h:xs.length<=1000):TO st (.flist xs)=some (!xs.isEmpty):=by show(if xs.length<=1000 then some (!xs.isEmpty)else none)=_;rw[if_pos h]
noncomputable def RZ(ps:List (Nat×Nat)):List Int:=ps.flatMap λe=>[(e.1:Int),(e.2:Int)]
noncomputable def AT(ps:List (Nat×Nat)):List Int:=DH (FP (RZ ps))
noncomputable abbrev DL:=List (Int×Int)
noncomputable def EM(so:DL):List (AV×AV):=so.map λe=>(.int e.1,.int e.2)
noncomputable def JY(so:DL)(k:Int):Bool:=so.any λe=>decide (e.1=k)
noncomputable def KL(so:DL)(k:Int):Int:=match so.find? λe=>decide (e.1=k)with
 |some e=>e.2
 |none=>0
noncomputable def DM(so:DL)(a b:Int):DL:=if JY so a=true/\JY so b=false then so++[(b,1-KL so a)]else so
noncomputable def CD(so:DL)(e:Nat×Nat):DL:=DM (DM so e.1 e.2) e.2 e.1
noncomputable def HH(ps:List (Nat×Nat))(so:DL):DL:=ps.foldl CD so
noncomputable def LY(ps:List (Nat×Nat)):Nat->DL->DL
 |0,so=>so
 |n+1,so=>HH ps (LY ps n so)
noncomputable def DW(ps:List (Nat×Nat)):DL:=LY ps (AT ps).length [((AT ps).getD 0 0,0)]
noncomputable def PR(ps:List (Nat×Nat))(so:DL):List (Nat×Nat):=(List.range ps.length).flatMap λi=>if KL so (ps.getD i (0,0)).1=KL so (ps.getD i (0,0)).2 then[ps.getD i (0,0)]else[]
noncomputable def VD(n:Nat):Int:=[1,1,1,2,6,24].getD n 0
noncomputable def EQ(ps:List (Nat×Nat)):Int:=
 if ps.length<=(AT ps).length then(AT ps).length-1
 else if(PR ps (DW ps)).isEmpty then Int.fdiv (VD (AT ps).length) 2 else VD (AT ps).length
noncomputable def SW(ps:List (Nat×Nat)):Bool:=Nat.ble ps.length (AT ps).length||ps.all λe=>JY (DW ps) e.1&&JY (DW ps) e.2
theorem jK(k:Int)(so:DL):TM (.int k) (EM so)=some (if JY so k then some (.int (KL so k))else none):=by
 induction so with
 |nil=>rfl
 |cons e r ih=>show((some (decide (e.1=k))).bind λb=>cond b (some (some (AV.int e.2))) (TM (.int k) (EM r)))=_;rw[ih];unfold JY KL;rw[List.any_cons,List.find?_cons];cases decide (e.1=k)<;>rfl
theorem LZ(h:so≠[])(k:Int):IN (.int k) (EM so)=some (if JY so k then some (.int (KL so k))else none):=by
 cases so with
 |nil=>exact absurd rfl h
 |cons e r=>exact jK k (e::r)
theorem rR{k v:Int}(h:JY so k=false):NA (.int k) (.int v) (EM so)=EM (so++[(k,v)]):=by
 induction so with
 |nil=>rfl
 |cons e r ih=>obtain⟨h1,h2⟩:=A6 (show(decide (e.1=k)||JY r k)=false from h);show BV (some (decide (e.1=k))) (λb=>cond b ((AV.int e.1,AV.int v)::EM r) ((AV.int e.1,AV.int e.2)::NA (.int k) (.int v) (EM r))) ((AV.int e.1,AV.int e.2)::NA (.int k) (.int v) (EM r))=_;rw[h1,ih h2];rfl
theorem MA{l:Nat}{es:List (AV×AV)}(h:st[l]? =some (.dict es g)):BN st (.loc l)=none:=by show(st[l]?).bind KX=_;rw[h];rfl
theorem RF{l:Nat}{es:List (AV×AV)}(h:st[l]? =some (.dict es g)):NE st (.loc l)=some es:=by show(st[l]?).bind YZ=_;rw[h];rfl
theorem eZ{l:Nat}{k:Int}(h1:st[l]? =some (.dict (EM so) g))(h2:so≠[]):pP st (.int k) (.loc l)=some (JY so k):=by show BV (BN st (.loc l)) _ ((NE st (.loc l)).bind λes=>(IN (.int k) es).map (·.isSome))=_;rw[MA h1,RF h1];show(IN _ _).map _=_;rw[LZ h2];cases JY so k<;>rfl
theorem Ad{l:Nat}{k:Int}(h1:st[l]? =some (.dict (EM so) g))(h2:so≠[]):GL st .In (.int k) (.loc l)=some (JY so k):=eZ h1 h2
theorem XZ{l:Nat}{k:Int}(h1:st[l]? =some (.dict (EM so) g))(h2:so≠[]):GL st .NotIn (.int k) (.loc l)=some (!JY so k):=by show(pP st _ _).map _=_;rw[eZ h1 h2];rfl
theorem MR{l:Nat}{k:Int}(h1:st[l]? =some (.dict (EM so) g))(h2:so≠[])(h3:JY so k=true):ZB st (.loc l) (.int k)=some (.int (KL so k)):=by show BV (BN st (.loc l)) _ ((NE st (.loc l)).bind λes=>(IN (.int k) es).bind id)=_;rw[MA h1,RF h1];show(IN _ _).bind _=_;rw[LZ h2,h3];rfl
theorem YA{l:Nat}{g':Obj}{k v:Int}(h1:st[l]? =some (.dict (EM so) g))(h2:so≠[])(h3:JY so k=false)(h4:so.length<=1000):ZC st (.loc l) (.int k) (.int v) g'=some (st.set l (.dict (EM (so++[(k,v)])) g')):=by
 have e:Ci st (.loc l) (.int k) (.int v)=some (λg=>st.set l (.dict (EM (so++[(k,v)])) g)):=by show(st[l]?).bind _=_;rw[h1];show(if Nat.ble (EM so).length 1000=true then(IN (.int k) (EM so)).map (λ_ g=>st.set l (.dict (NA (.int k) (.int v) (EM so)) g))else none)=_;have hb:Nat.ble (EM so).length 1000=true:=Nat.ble_eq_true_of_le (Nat.le_trans (Nat.le_of_eq (List.length_map ..)) h4);rw[if_pos hb,LZ h2,rR h3];rfl
 exact congrArg (Option.map (· g')) e
theorem rS(h:n<6):ZB st (.ftup [.int 1,.int 1,.int 1,.int 2,.int 6,.int 24]) (.int (n:Int))=some (.int (VD n)):=by
 have:n=0\/n=1\/n=2\/n=3\/n=4\/n=5:=by exact A3 h
 rcases this with rfl|rfl|rfl|rfl|rfl|rfl<;>rfl
theorem IJ{a b:Int}:so.length<=(DM so a b).length/\(DM so a b).length<=so.length+1:=by unfold DM;split<;>simp
noncomputable abbrev oC(ps:List (Nat×Nat))(L:List (Str×AV))(S:List AO)(lim:Nat):AC:=⟨⟨((DD 229).getD default).scope,("part",BB ps)::L,[("sorts",0)]⟩,S,lim⟩
theorem bB(ps:List (Nat×Nat)):DS ((DD 229).getD default) [] [BB ps] [] 0=some (oC ps [] [.cell none] 0):=rfl
theorem PS:∀l:List (Nat×Nat),(RZ l).length=2*l.length
 |[]=>rfl
 |e::r=>by show([(e.1:Int),(e.2:Int)]++RZ r).length=2*(r.length+1);rw[List.length_append,PS r];show 2+2*r.length=_;exact Nat.add_comm _ _
theorem jL(ps:List (Nat×Nat)):(AT ps).length<=2*ps.length:=by rw[<-PS ps];exact IX _
theorem VE{α β:Type}[Inhabited α](d:α)(f:α->List β):∀l:List α,(List.range l.length).flatMap (λi=>f (l.getD i d))=l.flatMap f
 |[]=>rfl
 |x::r=>by simp only[List.length_cons,List.range_succ_eq_map,List.flatMap_cons,List.flatMap_cons,List.flatMap_map];congr 1;exact VE d f r
theorem Ud{t:DL}{k:Int}(h:JY so k=true):JY (so++t) k=true:=by unfold JY at*;rw[List.any_append,h];rfl
theorem fA(h:ps≠[]):0<(AT ps).length:=by
 cases ps with
 |nil=>exact absurd rfl h
 |cons e r=>simp only[AT,XY];show 0<(FP ((e.1:Int)::_)).length;simp only[FP];exact Nat.succ_pos _
noncomputable abbrev oS(ps:List (Nat×Nat))(so:DL)(g:Obj)(L:List (Str×AV)):AC:=oC ps (("places",.flist (AJ (AT ps)))::L) [.cell (some (.loc 1)),.dict (EM so) g] 2
theorem bC:so.length<=(CD so e).length/\(CD so e).length<=so.length+2:=by unfold CD;have h1:=IJ (so:=so) (a:=e.1) (b:=e.2);have h2:=IJ (so:=DM so e.1 e.2) (a:=e.2) (b:=e.1);exact⟨Nat.le_trans h1.1 h2.1,Nat.le_trans h2.2 (Nat.succ_le_succ h1.2)⟩
theorem JL:∀(ps:List (Nat×Nat)) (so:DL),so.length<=(HH ps so).length/\(HH ps so).length<=so.length+2*ps.length
 |[],so=>⟨Nat.le_refl _,Nat.le_refl _⟩
 |e::r,so=>by have h1:=bC (so:=so) (e:=e);have h2:=JL r (CD so e);show so.length<=(HH r (CD so e)).length/\(HH r (CD so e)).length<=so.length+2*(r.length+1);exact⟨Nat.le_trans h1.1 h2.1,Nat.le_trans h2.2 (Nat.le_trans (Nat.add_le_add_right h1.2 _) (Nat.le_of_eq (by rw[Nat.add_assoc,Nat.add_comm 2];rfl)))⟩
theorem RG(ps:List (Nat×Nat))(so:DL):∀n,so.length<=(LY ps n so).length/\(LY ps n so).length<=so.length+2*ps.length*n
 |0=>⟨Nat.le_refl _,Nat.le_refl _⟩
 |n+1=>by have h1:=RG ps so n;have h2:=JL ps (LY ps n so);simp only[Nat.mul_succ];show so.length<=(HH ps (LY ps n so)).length/\_;exact⟨by exact Nat.le_trans h1.1 h2.1,by show(HH ps (LY ps n so)).length<=_;exact oE h1.2 h2.2⟩
noncomputable def Ue(s:Stmt):List Stmt:=BV (Cc s) (λt=>t.2.2.1) []
noncomputable def Jh(i:Nat):Stmt:=(Ue ((Ue ((body 229).getD 3 default)).getD 0 default)).getD i default
theorem Uf{s:Stmt}{b:List Stmt}(e:b=s::r)(h:AX n (.exec s) c (VY λx c1=>match x with
  | .next=>AX n (.execs r) c1 Q
  |x=>Q (.f x) c1)):AX (n+1) (.execs b) c Q:=by subst e;exact h
theorem Ug{s:DL}(hne:s≠[])(hl:s.length<=300)(k:∀g',Q (.f .next) (oS ps (DM s a b) g' [("spare",v),("one",.int a),("other",.int b)])):
  AX (m+50) (.exec (Jh 0)) (oS ps s g [("spare",v),("one",.int a),("other",.int b)]) Q:=by
 conv=>whnf
 refine AE (Ad rfl hne) ?_;refine AQ (λa1=>?_) (λa1=>?_)
 .left;refine AE (XZ rfl hne) ?_;refine AQ (λa2=>?_) (λa2=>?_)
  .left;refine AE (MR rfl hne a1) ?_;left;intro g2;refine AE (YA rfl hne (by simpa using a2) (oA hl)) ?_;have hh:DM s a b=s++[((b:Int),1-KL s a)]:=if_pos ⟨a1,by simpa using a2⟩;exact(hh▸k g2:Q _ (oS ps (s++[((b:Int),1-KL s a)]) g2 _))
  .have hh:DM s a b=s:=if_neg λq=>by simp[q.2]at a2
   exact(hh▸k g:Q _ (oS ps s g _))
 .have hh:DM s a b=s:=if_neg λq=>tJ (q.1.symm.trans a1);exact(hh▸k g:Q _ (oS ps s g _))
theorem Uh{s:DL}(hne:s≠[])(hl:s.length<=300)(k:∀g',Q (.f .next) (oS ps (DM s b a) g' [("spare",v),("one",.int a),("other",.int b)])):
  AX (m+50) (.exec (Jh 1)) (oS ps s g [("spare",v),("one",.int a),("other",.int b)]) Q:=by
 conv=>whnf
 refine AE (Ad rfl hne) ?_;refine AQ (λa1=>?_) (λa1=>?_)
 .left;refine AE (XZ rfl hne) ?_;refine AQ (λa2=>?_) (λa2=>?_)
  .left;refine AE (MR rfl hne a1) ?_;left;intro g2;refine AE (YA rfl hne (by simpa using a2) (oA hl)) ?_;have hh:DM s b a=s++[((a:Int),1-KL s b)]:=if_pos ⟨a1,by simpa using a2⟩;exact(hh▸k g2:Q _ (oS ps (s++[((a:Int),1-KL s b)]) g2 _))
  .have hh:DM s b a=s:=if_neg λq=>by simp[q.2]at a2
   exact(hh▸k g:Q _ (oS ps s g _))
 .have hh:DM s b a=s:=if_neg λq=>tJ (q.1.symm.trans a1);exact(hh▸k g:Q _ (oS ps s g _))
inductive Zv(ps:List (Nat×Nat))(i:Nat):AC->Prop
 |mk (g:Obj) (h:i<=(AT ps).length):Zv ps i (oS ps (LY ps i [((AT ps).getD 0 0,0)]) g [])
inductive Ui(ps:List (Nat×Nat))(so:DL)(v:AV)(j:Nat):AC->Prop
 |mk (g:Obj):Ui ps so v j (oS ps ((ps.take j).foldl CD so) g [("spare",v)])
theorem Ui.of{s:DL}(e:(ps.take j).foldl CD so=s):Ui ps so v j (oS ps s g [("spare",v)]):=e▸⟨g⟩
theorem rT(m:Nat)(ps:List (Nat×Nat))(hes:∀e∈ps,e.1<5/\e.2<5)(hl:ps.length<=6)(h0:ps≠[])(hk:SW ps=true)(Q:AB)(h:∀c,Q (.f (.ret (.int (EQ ps)))) c):AX (m+80) (.execs (body 229)) (oC ps [] [.cell none] 0) Q:=by
 left;have hpl:(AT ps).length<=12:=by have:=jL ps;lia
 refine⟨λi=>[.int (ps.getD i (0,0)).1,.int (ps.getD i (0,0)).2],rfl,?_,?_⟩
 .intro i x hx;rw[List.getElem?_map]at hx;obtain⟨e,he,rfl⟩:=AZ hx;have hd:ps.getD i (0,0)=e:=by rw[List.getD_eq_getElem?_getD,he];rfl
  left;refine⟨λk=>if k=0 then[.int e.1]else[.int e.2],rfl,?_,?_⟩
  .intro k x hx;have hk2:k=0/\x= .int e.1\/k=1/\x= .int e.2:=by
    rcases k with _|_|k
    .simp at hx;exact .inl ⟨rfl,hx.symm⟩
    .simp at hx;exact .inr ⟨rfl,hx.symm⟩
    .simp at hx
   rcases hk2 with⟨rfl,rfl⟩|⟨rfl,rfl⟩
   .left;exact Nat.zero_le _
   .left;exact Nat.zero_le _
  refine⟨?_,rfl,rfl,Nat.zero_le _⟩;show _=[AV.int (ps.getD i (0,0)).1,AV.int (ps.getD i (0,0)).2];rw[hd];rfl
 have hends:(List.range (ps.map BS).length).flatMap (λi=>[AV.int (ps.getD i (0,0)).1,AV.int (ps.getD i (0,0)).2])=AJ (RZ ps):=by rw[List.length_map];refine(VE (0,0) (λe:Nat×Nat=>[AV.int e.1,AV.int e.2]) ps).trans ?_;simp only[AJ,RZ,List.map_flatMap];rfl
 rw[hends];refine⟨by simp only[AJ,List.length_map,PS];exact oA (Nat.mul_le_mul_left _ hl),?_⟩;left;refine⟨_,LW _,⟨by rw[PS];lia,λi hi=>?_⟩,?_⟩
 .obtain⟨e,he,hi⟩:=List.mem_flatMap.mp hi;have:=hes e he;rcases AN hi with rfl|hi
  .exact⟨Int.natCast_nonneg _,Int.ofNat_lt.mpr (Nat.lt_succ_of_lt this.1)⟩
  .obtain rfl:=AR hi;exact⟨Int.natCast_nonneg _,Int.ofNat_lt.mpr (Nat.lt_succ_of_lt this.2)⟩
 left;refine AE (SV (by rw[List.length_map];exact oA hl)) ?_;left;refine AE (SV (by show(AJ (AT ps)).length<=1000;simp only[AJ,List.length_map];exact oA hpl)) ?_;left;have hpv:(List.map AV.int (DH (FP (RZ ps))))=AJ (AT ps):=rfl;have hplen:(AJ (AT ps)).length=(AT ps).length:=List.length_map ..;refine AQ (λq1=>?_) (λq1=>?_)
 .left;refine AE (SV (by rw[hpv,hplen];exact oA hpl)) ?_;left;have q1:ps.length<=(AT ps).length:=by have:=of_decide_eq_true q1;rw[hpv,hplen,List.length_map]at this;exact Int.ofNat_le.mp this
  have e:EQ ps=((List.map AV.int (DH (FP (RZ ps)))).length:Int)-1:=by rw[hpv,hplen];unfold EQ;rw[if_pos q1]
  replace h:=e▸h;exact h _
 have q1:¬ps.length<=(AT ps).length:=by have:=of_decide_eq_false q1;rw[hpv,hplen,List.length_map]at this;exactλq=>this (Int.ofNat_le.mpr q)
 have hp0:0<(AT ps).length:=fA h0;left;refine AE (CG (a:=0) (by exact Nat.succ_pos _) (CA (is:=AT ps) hp0)) ?_;left;intro g;left;refine⟨_,rfl,rfl,QL.gen (Zv ps) ⟨g,Nat.zero_le _⟩ ?_ ?_ ?_⟩
 .rintro i _ ⟨g,_⟩;exact⟨rfl,trivial⟩
 .rintro i x _ Q1 hx hQ1 ⟨g,_⟩;have hi:i<(AT ps).length:=by have:=(EC hx);simpa[AT]using this
  have hx:=hx.symm.trans (CA (is:=AT ps) hi);(replace hx:=sj hx;subst hx);have hsl:=RG ps [((AT ps).getD 0 0,0)] i;generalize hs:LY ps i [((AT ps).getD 0 0,0)]=so at hsl;have hsl1:1<=so.length:=hsl.1;have hsl2:so.length<=145:=by have h1:=hsl.2;have h2:2*ps.length*i<=12*12:=Nat.mul_le_mul (by exact Nat.mul_le_mul_left _ hl) (by exact Nat.le_trans (Nat.le_of_lt hi) hpl);simp only[List.length_cons,List.length_nil]at h1;exact oE h2 h1
  left;refine⟨_,rfl,rfl,QL.gen (Ui ps so (.int ((AT ps).getD i 0))) ⟨g⟩ ?_ ?_ ?_⟩
  .rintro j _ ⟨g⟩;exact⟨rfl,trivial⟩
  .intro j x c2 Q2 hx hQ2 hI;rw[List.getElem?_map]at hx;obtain⟨⟨a,b⟩,hab,rfl⟩:=AZ hx;have hj:=(EC hab);have htk:ps.take (j+1)=ps.take j++[(a,b)]:=by rw[List.take_add_one,hab];rfl
   have hrl:=JL (ps.take j) so;have hnext:(ps.take (j+1)).foldl CD so=CD ((ps.take j).foldl CD so) (a,b):=by rw[htk,List.foldl_append];rfl
   have hrl:so.length<=((ps.take j).foldl CD so).length/\((ps.take j).foldl CD so).length<=so.length+2*(ps.take j).length:=hrl;obtain⟨g⟩:=hI;generalize (ps.take j).foldl CD so=s2 at*;have hne:s2≠[]:=λq=>by
    have h1:s2.length=0:=by rw[q];rfl
    have:=hrl.1;exact oJ hsl1 hrl.1 (Nat.le_of_eq h1)
   have hs2:s2.length<=200:=by
    have htl:(ps.take j).length<=ps.length:=by rw[List.length_take];exact Nat.min_le_right _ _
    exact oA (Nat.le_trans hrl.2 (Nat.add_le_add hsl2 (Nat.mul_le_mul_left 2 (Nat.le_trans htl hl))))
   have hne1:DM s2 a b≠[]:=λq=>hne (List.length_eq_zero_iff.mp (Nat.le_zero.mp (Nat.le_trans IJ.1 (Nat.le_of_eq (congrArg List.length q)))));refine AE rfl (Uf rfl (Ug (a:=a) (b:=b) hne (Nat.le_trans hs2 (by decide)) λg1=>LV (Uf rfl (Uh (a:=a) (b:=b) hne1 (Nat.le_trans IJ.2 (oA (Nat.succ_le_succ hs2))) λg2=>LV (Gn ?_)))));exact hQ2 _ _ ⟨2,["part","places","spare"],_,rfl,rfl,Ui.of hnext⟩
  .rintro _ ⟨g⟩;rw[List.length_map,List.take_length];left;refine hQ1 _ _ ⟨2,["part","places"],_,rfl,rfl,?_⟩;have e:LY ps (i+1) [((AT ps).getD 0 0,0)]=ps.foldl CD so:=congrArg (List.foldl CD · ps) hs;exact(e▸⟨g,hi⟩:Zv ps (i+1) (oS ps (ps.foldl CD so) g []))
 .rintro _ ⟨g,_⟩;rw[show(List.map AV.int (DH (FP (RZ ps)))).length=(AT ps).length from List.length_map ..];have hsF:LY ps (AT ps).length [((AT ps).getD 0 0,0)]=DW ps:=rfl;rw[hsF];have hne:DW ps≠[]:=λq=>by have:=(RG ps [((AT ps).getD 0 0,0)] (AT ps).length).1;rw[hsF,q]at this;simp at this
  have hkk:∀e∈ps,JY (DW ps) e.1=true/\JY (DW ps) e.2=true:=by
   intro e he;rcases Bool.or_eq_true_iff.mp hk with q|q
   .exact absurd (Nat.le_of_ble_eq_true q) q1
   .exact BG (CW q e he)
  left;refine AE (SV (by rw[hplen];exact oA hpl)) ?_;left;rw[hplen];refine AE (rS (by exact Nat.le_trans (Nat.lt_of_not_le q1) hl)) ?_;left;refine⟨λi=>if KL (DW ps) (ps.getD i (0,0)).1=KL (DW ps) (ps.getD i (0,0)).2 then[.int (ps.getD i (0,0)).1]else[],rfl,?_,?_⟩
  .intro i x hx;rw[List.getElem?_map]at hx;obtain⟨e,he,rfl⟩:=AZ hx;have hd:ps.getD i (0,0)=e:=by rw[List.getD_eq_getElem?_getD,he];rfl
   have hke:=hkk e (List.mem_of_getElem? he);left
   conv=>whnf
   refine AE (MR rfl hne hke.1) ?_;left;refine AE (MR rfl hne hke.2) ?_;left;refine AQ (λq=>?_) (λq=>?_)
   .left;refine⟨?_,rfl,rfl,Nat.zero_le _⟩;show _=(if KL (DW ps) (ps.getD i (0,0)).1=KL (DW ps) (ps.getD i (0,0)).2 then[AV.int (ps.getD i (0,0)).1]else[]);rw[hd,if_pos (of_decide_eq_true q)]
   .left;refine⟨?_,rfl,rfl,Nat.zero_le _⟩;show(if KL (DW ps) (ps.getD i (0,0)).1=KL (DW ps) (ps.getD i (0,0)).2 then[AV.int (ps.getD i (0,0)).1]else[])=[];rw[hd,if_neg (of_decide_eq_false q)]
  have hcl:(List.range (ps.map BS).length).flatMap (λi=>if KL (DW ps) (ps.getD i (0,0)).1=KL (DW ps) (ps.getD i (0,0)).2 then[AV.int (ps.getD i (0,0)).1]else[])=(PR ps (DW ps)).map λe=>AV.int e.1:=by simp only[List.length_map,PR,List.map_flatMap];congr 1;funext j;split<;>rfl
  rw[hcl];have hcll:(PR ps (DW ps)).length<=ps.length:=by exact Nat.le_trans (IW (λ_=>zY) _) (Nat.le_of_eq List.length_range)
  refine⟨by rw[List.length_map];exact oA (Nat.le_trans hcll hl),?_⟩;left;refine AE (eY (by rw[List.length_map];exact oA (Nat.le_trans hcll hl))) ?_;have hemp:((PR ps (DW ps)).map λe=>AV.int e.1).isEmpty=(PR ps (DW ps)).isEmpty:=by cases PR ps (DW ps)<;>rfl
  rw[hemp];have e:EQ ps=if(PR ps (DW ps)).isEmpty then Int.fdiv (VD (AT ps).length) 2 else VD (AT ps).length:=by unfold EQ;rw[if_neg q1]
  refine AQ (λq=>?_) (λq=>?_)
  .left;rw[e,if_neg (by intro z;rw[z]at q;exact ME q)]at h;exact h _
  .left;rw[e,if_pos (by cases hz:(PR ps (DW ps)).isEmpty with|true=>rfl|false=>rw[hz]at q;exact tJ q)]at h;exact h _
theorem jM(hes:∀e∈es,e.1<5/\e.2<5)(hl:es.length<=6)(h:Q (.v (zX (DJ es))) c):DI (AX (n+81)) (.fn 224) [BB es] c Q:=by refine CI (fd:=(DD 224).getD default) rfl (by decide) (by decide) (by decide) ?_ (eX es) (Ac n es hes hl _ λc'=>HU (λl q=>nomatch q) (HF (f:=BB) (λx=>EF x) (DJ es)) h);show(frees (es.map BS)&&true)=true;rw[EF];rfl
theorem fB(hes:∀e∈ps,e.1<5/\e.2<5)(hl:ps.length<=6)(h0:ps≠[])(hk:SW ps=true)(h:Q (.v (.int (EQ ps))) c):DI (AX (n+81)) (.fn 229) [BB ps] c Q:=by refine CI (fd:=(DD 229).getD default) rfl (by decide) (by decide) (by decide) ?_ (bB ps) (rT n ps hes hl h0 hk _ λc'=>HU (λl q=>nomatch q) rfl h);show(frees (ps.map BS)&&true)=true;rw[EF];rfl
noncomputable def CS(ms:List Int)(home:Nat)(w:Int)(p:List (Nat×Nat)):Int:=if ms.getD (p.getD 0 (0,0)).1 0=ms.getD home 0 then w*EQ p else w
noncomputable def bD(es:List (Nat×Nat))(home:Nat):Int:=(DJ es).foldl (CS (AW es (-1)) home) 1
noncomputable def IC(es:List (Nat×Nat))(home:Nat):List Int:=(List.range 5).map λi=>if(AW es (-1)).getD i 0=(AW es (-1)).getD home 0 then bD es home else 0
noncomputable def RH(es:List (Nat×Nat)):Bool:=(DJ es).all λp=> !p.isEmpty&&(SW p&&Nat.ble (EQ p).natAbs 1000)
theorem rU{l:Int}(h:e∈HG es ks l):e∈es:=by
 unfold HG at h;obtain⟨j,h1,h2⟩:=List.mem_flatMap.mp h;have hj:j<es.length:=List.mem_range.mp h1;split at h2
 .simp only[AR h2,List.getD_eq_getElem?_getD,List.getElem?_eq_getElem hj];exact List.getElem_mem hj
 .exact absurd h2 (List.not_mem_nil)
theorem rV{l:Int}:(HG es ks l).length<=es.length:=by have:=IW (f:=λj=>if ks.getD j 0=l then[es.getD j (0,0)]else[]) (λx=>by split<;>simp) (List.range es.length);rw[List.length_range]at this;exact this
theorem rW{p:List (Nat×Nat)}(h:p∈DJ es):p.length<=es.length/\∀e∈p,e∈es:=by obtain⟨l,_,rfl⟩:=ID h;exact⟨rV,λe he=>rU he⟩
theorem jN:(CK es).length=es.length:=by rw[CK,foldl_len (λ_ _=>HQ)];simp
theorem rX:(DJ es).length<=es.length:=by simp only[DJ,List.length_map];have:=IX (CK es);rw[jN]at this;exact this
theorem oU{i j:Int}(h1:i.natAbs<2^62)(h2:j.natAbs<2^62):TN st .Mult (.int i) (.int j)=some (.int (i*j)):=by show(if i.natAbs<2^62/\j.natAbs<2^62 then some (AV.int (i*j))else none)=_;rw[if_pos ⟨h1,h2⟩]
theorem YB(ms:List Int)(home:Nat):∀(ps:List (List (Nat×Nat))) (w:Int),(∀p∈ps,(EQ p).natAbs<=1000)->(ps.foldl (CS ms home) w).natAbs<=w.natAbs*1000^ps.length
 |[],w,_=>by simp
 |p::r,w,h=>by
  simp only[List.foldl_cons,List.length_cons];refine Nat.le_trans (YB ms home r _ λq hq=>h q (.tail _ hq)) ?_;have h1:(CS ms home w p).natAbs<=w.natAbs*1000:=by
   unfold CS;split
   .rw[Int.natAbs_mul];exact Nat.mul_le_mul_left _ (h p (.head _))
   .exact Nat.le_add_left _ _
  calc _<=w.natAbs*1000*1000^r.length:=Nat.mul_le_mul_right _ h1
   _=w.natAbs*1000^(r.length+1):=by simp only[Nat.mul_assoc,Nat.pow_succ,Nat.mul_comm 1000]
noncomputable abbrev wC(es:List (Nat×Nat))(home:Nat)(ms ws:Option AV)(L:List (Str×AV))(lim:Nat):AC:=
 ⟨⟨((DD 234).getD default).scope,("streets",BB es)::L,[("ways",2),("marks",1),("home",0)]⟩,[.cell (some (.int home)),.cell ms,.cell ws],lim⟩
theorem jO(es:List (Nat×Nat))(home:Nat):DS ((DD 234).getD default) [] [BB es,.int home] [] 0=some (wC es home none none [] 0):=rfl
theorem Gr(m:Nat)(es:List (Nat×Nat))(home:Nat)(hh:home<5)(hes:∀e∈es,e.1<5/\e.2<5)(hl:es.length<=6)(hk:RH es=true)(Q:AB)(h:∀c,Q (.f (.ret (.flist (AJ (IC es home))))) c):AX (m+120) (.execs (body 234)) (wC es home none none [] 0) Q:=by
 left;refine VA hes ?_;left;refine jM hes hl ?_;left;have hm5:(AW es (-1)).length=5:=VC;refine⟨_,rfl,rfl,λi c=>c=wC es home (some (.flist (AJ (AW es (-1))))) (some (.int (((DJ es).take i).foldl (CS (AW es (-1)) home) 1))) [] 3,rfl,?_,?_,?_⟩
 .rintro i _ rfl;exact⟨rfl,trivial⟩
 .intro i x c2 hx hI;rw[List.getElem?_map]at hx;obtain⟨p,hp,rfl⟩:=AZ hx;have hpm:=rW (List.mem_of_getElem? hp);have htk:(DJ es).take (i+1)=(DJ es).take i++[p]:=by rw[List.take_add_one,hp];rfl
  have hnext:((DJ es).take (i+1)).foldl (CS (AW es (-1)) home) 1=CS (AW es (-1)) home (((DJ es).take i).foldl (CS (AW es (-1)) home) 1) p:=by rw[htk,List.foldl_append];rfl
  have hb:(((DJ es).take i).foldl (CS (AW es (-1)) home) 1).natAbs<=1000^6:=by
   refine Nat.le_trans (YB _ _ _ 1 (λp hp=>?_)) ?_
   .have:=CW hk p (List.mem_of_mem_take hp);simp only[Bool.and_eq_true]at this;exact Nat.le_of_ble_eq_true this.2.2
   .have h1:((DJ es).take i).length<=6:=by rw[List.length_take];exact Nat.le_trans (Nat.min_le_right ..) (Nat.le_trans (rX (es:=es)) hl)
    rw[show(1:Int).natAbs=1 from rfl,Nat.one_mul];exact Nat.pow_le_pow_right (by decide) h1
  have hkp:=CW hk p (List.mem_of_getElem? hp);simp only[Bool.and_eq_true]at hkp;obtain⟨k1,k2,k3⟩:=hkp;have hp0:p≠[]:=λq=>by replace k1:=q▸k1;exact ME k1
  obtain⟨e,r,rfl⟩:=List.exists_cons_of_ne_nil hp0;have he:=hes e (hpm.2 e (.head _));subst hI;generalize ((DJ es).take i).foldl (CS (AW es (-1)) home) 1=w at*;left
  conv=>whnf
  refine AE (CG (by exact oA he.1) (CA (by exact Nat.le_trans he.1 (Nat.le_of_eq hm5.symm)))) ?_;left;refine AE (CG (by exact oA hh) (CA (by exact Nat.le_trans hh (Nat.le_of_eq hm5.symm)))) ?_;left;refine AQ (λq=>?_) (λq=>?_)
  .left;refine fB (λe he=>hes e (hpm.2 e he)) (Nat.le_trans hpm.1 hl) hp0 k2 ?_;have hb2:(EQ (e::r)).natAbs<=1000:=Nat.le_of_ble_eq_true k3;refine AE (oU (Nat.lt_of_le_of_lt hb (by decide)) (Nat.lt_of_le_of_lt hb2 (by decide))) ?_;left;refine⟨3,["streets"],_,rfl,rfl,?_⟩;show _=wC es home _ (some (.int (((DJ es).take (i+1)).foldl (CS (AW es (-1)) home) 1))) [] 3;rw[hnext,show CS (AW es (-1)) home w (e::r)=w*EQ (e::r)from if_pos (of_decide_eq_true q)];rfl
  .left;refine⟨3,["streets"],_,rfl,rfl,?_⟩;show _=wC es home _ (some (.int (((DJ es).take (i+1)).foldl (CS (AW es (-1)) home) 1))) [] 3;rw[hnext,show CS (AW es (-1)) home w (e::r)=w from if_neg (of_decide_eq_false q)];rfl
 .rintro _ rfl;rw[List.length_map,List.take_length];left;refine⟨λi=>[.int (if(AW es (-1)).getD i 0=(AW es (-1)).getD home 0 then bD es home else 0)],rfl,?_,?_⟩
  .intro i x hx;have hi:i<(AW es (-1)).length:=by have:=(EC hx);simpa[AJ]using this
   have hx:=hx.symm.trans (CA hi);(replace hx:=sj hx;subst hx);left
   conv=>whnf
   refine AE (CG (by exact oA hh) (CA (by exact Nat.le_trans hh (Nat.le_of_eq hm5.symm)))) ?_;left;refine AQ (λq=>?_) (λq=>?_)
   .left;refine⟨?_,rfl,rfl,Nat.zero_le _⟩;show _=[AV.int (if(AW es (-1)).getD i 0=(AW es (-1)).getD home 0 then bD es home else 0)];rw[if_pos (of_decide_eq_true q)];rfl
   .left;refine⟨?_,rfl,rfl,Nat.zero_le _⟩;show _=[AV.int (if(AW es (-1)).getD i 0=(AW es (-1)).getD home 0 then bD es home else 0)];rw[if_neg (of_decide_eq_false q)]
  rw[FF,show(AJ (AW es (-1))).length=5 from(List.length_map ..).trans hm5];have e:(List.range 5).map (λi=>AV.int (if(AW es (-1)).getD i 0=(AW es (-1)).getD home 0 then bD es home else 0))=AJ (IC es home):=by simp only[AJ,IC,List.map_map];rfl
  rw[e];refine⟨by simp only[AJ,IC,List.length_map,List.length_map];decide,?_⟩;left;exact h _
theorem rY{home:Nat}(hh:home<5)(hes:∀e∈es,e.1<5/\e.2<5)(hl:es.length<=6)(hk:RH es=true)(h:Q (.v (.flist (AJ (IC es home)))) c):DI (AX (n+121)) (.fn 234) [BB es,.int home] c Q:=by refine CI (fd:=(DD 234).getD default) rfl (by decide) (by decide) (by decide) ?_ (jO es home) (Gr n es home hh hes hl hk _ λc'=>HU (λl q=>nomatch q) (UY _) h);show(frees (es.map BS)&&true)=true;rw[EF];rfl
theorem Ae(h:Q (.v (.bool (decide (s=[32])))) c):DI (AX (n+21)) (.fn 162) [.str s] c Q:=by refine CI (fd:=(DD 162).getD default) rfl (by decide) (by decide) (by decide) rfl rfl ?_;left;exact h
theorem Gs(h:Q (.v (.bool (VW.contains (i:Int)))) c):DI (AX (n+21)) (.fn 109) [.str [i]] c Q:=by refine CI (fd:=(DD 109).getD default) rfl (by decide) (by decide) (by decide) rfl rfl ?_;left;exact h
noncomputable def NZ(i:Nat):List Nat:=match Br.lookup (i:Int)with
 |some s=>s.cps.toList
 |none=>QG [i]
theorem Af(h:s.all (Nat.blt · 128)=true)(hl:s.length<=1000):gG "lower" s [] st=some (.str (QG s)):=by have e:gG "lower" s [] st=if(s.all (Nat.blt · 128)&&Nat.ble s.length 1000)=true then some (.str (QG s))else none:=rfl;rw[e,h,Nat.ble_eq_true_of_le hl];rfl
theorem join_ok(h:join xs=some t)(hl:xs.length<=1000)(ht:t.length<=1000):gG "join" [] [.flist xs] st=some (.str t):=by show(if xs.length<=1000 then(join xs).bind λt=>if t.length<=1000 then some (AV.str t)else none else none)=_;rw[if_pos hl,h];exact if_pos ht
theorem MS(ts:List (List Nat)):join (List.map AV.str ts)=some ts.flatten:=by
 induction ts with
 |nil=>rfl
 |cons t r ih=>exact congrArg (Option.map (t++ ·)) ih
theorem Gt(hi:Br.lookup (i:Int)=none->i<128)(h:Q (.v (.str (NZ i))) c):DI (AX (n+31)) (.fn 155) [.str [i]] c Q:=by
 refine CI (fd:=(DD 155).getD default) rfl (by decide) (by decide) (by decide) rfl rfl ?_;cases hb:Br.lookup (i:Int)with
 |none=>
  have e1:TL (i:Int)= .none:=by unfold TL;rw[hb];rfl
  have e2:NZ i=QG [i]:=by unfold NZ;rw[hb]
  left;refine FM.mk ?_;left
  conv=>whnf
  refine(Eq.symm e1)▸?_;left;refine MP (Af (s:=[i]) (by have:=hi hb;simp[Nat.blt];exact Nat.le_of_succ_le_succ this) (by exact Nat.succ_pos _)) ?_;simp only[e2]at h;left;exact h
 |some s=>
  have e1:TL (i:Int)= .str s.cps.toList:=by unfold TL;rw[hb];rfl
  have e2:NZ i=s.cps.toList:=by unfold NZ;rw[hb]
  replace h:=e2▸h;left;refine FM.mk ?_;left
  conv=>whnf
  refine(Eq.symm e1)▸?_;left;exact h
noncomputable def GS(s:List Nat):List Nat:=((s.filter λ(c:Nat)=> !VW.contains (c:Int)).map NZ).flatten
noncomputable def GD(s:List Nat):Bool:=s.all λ(c:Nat)=>VW.contains (c:Int)||(Br.lookup (c:Int)).isSome||Nat.blt c 128
theorem rZ(s:List Nat):s.flatMap (λ(c:Nat)=>if VW.contains (c:Int)then[]else[AV.str (NZ c)])=((s.filter λ(c:Nat)=> !VW.contains (c:Int)).map NZ).map AV.str:=by
 induction s with
 |nil=>rfl
 |cons c r ih=>rw[List.flatMap_cons,ih,List.filter_cons];cases VW.contains (c:Int)<;>rfl
theorem fE(m:Nat)(s:List Nat)(hs:s.length<=100)(hk:GD s=true)(hp:(GS s).length<=1000)(Q:AB)(h:∀c,Q (.f (.ret (.str (GS s)))) c):AX (m+60) (.execs (body 186)) (C0 186 [("word",.str s)] []) Q:=by
 left;refine⟨λi=>if VW.contains ((s.getD i 0:Nat):Int)then[]else[.str (NZ (s.getD i 0))],rfl,?_,?_⟩
 .intro i x hx;simp only[AK,List.getElem?_map]at hx;obtain⟨ch,hc,rfl⟩:=AZ hx;have hd:s.getD i 0=ch:=by rw[List.getD_eq_getElem?_getD,hc];rfl
  have hkc:=CW hk ch (List.mem_of_getElem? hc);left;refine Gs ?_;cases hb:VW.contains (ch:Int)with
  |true=>left;refine⟨?_,rfl,rfl,Nat.zero_le _⟩;show(if VW.contains ((s.getD i 0:Nat):Int)then[]else[AV.str (NZ (s.getD i 0))])=[];rw[hd,hb];rfl
  |false=>
   rw[hb]at hkc;have hi:Br.lookup (ch:Int)=none->ch<128:=λq=>by rw[q]at hkc;simp[Nat.blt]at hkc;exact Nat.succ_le_succ hkc
   left;refine Gt hi ?_;left;refine⟨?_,rfl,rfl,Nat.zero_le _⟩;show _=(if VW.contains ((s.getD i 0:Nat):Int)then[]else[AV.str (NZ (s.getD i 0))]);rw[hd,hb];rfl
 have hR:(List.range (AK s).length).flatMap (λi=>if VW.contains ((s.getD i 0:Nat):Int)then[]else[AV.str (NZ (s.getD i 0))])=((s.filter λ(c:Nat)=> !VW.contains (c:Int)).map NZ).map AV.str:=by rw[show(AK s).length=s.length from List.length_map ..];refine(VE 0 (λ(c:Nat)=>if VW.contains (c:Int)then[]else[AV.str (NZ c)]) s).trans ?_;exact rZ s
 rw[hR];have hl1:(s.filter λ(c:Nat)=> !VW.contains (c:Int)).length<=s.length:=List.length_filter_le _ _;refine⟨by rw[List.length_map,List.length_map];exact oA (Nat.le_trans hl1 hs),?_⟩;left;refine MP (join_ok (MS ((s.filter λ(c:Nat)=> !VW.contains (c:Int)).map NZ)) (by rw[List.length_map,List.length_map];exact oA (Nat.le_trans hl1 hs)) hp) ?_;left;exact h _
theorem WF(hs:s.length<=100)(hk:GD s=true)(hp:(GS s).length<=1000)(h:Q (.v (.str (GS s))) c):DI (AX (n+61)) (.fn 186) [.str s] c Q:=
 CI (fd:=(DD 186).getD default) rfl (by decide) (by decide) (by decide) rfl rfl (fE n s hs hk hp _ λc'=>HU (λl q=>nomatch q) rfl h)
noncomputable def Nj:List Nat:=[173,847,6150,6155,6156,6157,8203,8204,8205,8288,65279]
noncomputable def EZ(p:Nat):List Nat:=if p<11 then[Nj.getD p 0]else if p<27 then[65013+p]else[]
noncomputable def GT:List Nat:=[97,65,119808,119860,119912,120016,120172,120224,120276,120328,120380,120432]
noncomputable def GU(c t:Nat):List Nat:=EZ (t/12%28)++(if 97<=c/\c<=122 then[GT.getD (t%12) 0+c-97]else[c])
theorem fF(a b:Nat):Int.fdiv (a:Int) (b:Int)=((a/b:Nat):Int):=by rw[Int.fdiv_eq_ediv_of_nonneg _ (Int.natCast_nonneg _)];rfl
theorem Ag(h:x<1114112):blt st "chr" [.int (x:Int)]=some (.str [x]):=by show(FO (x:Int)).bind _=_;rw[eT (oA h)];show(bif Nat.blt x 1114112 then some (AV.str [x])else none)=_;rw[show Nat.blt x 1114112=true from Nat.ble_eq_true_of_le h];rfl
theorem VF{c:Nat}(h1:a<1000)(h2:s[a]? =some c):ZB st (.str s) (.int (a:Int))=some (.str [c]):=by show(FO (a:Int)).bind _=_;rw[FT h1];exact congrArg (Option.map λc=>AV.str [c]) h2
theorem sA{x:AV}(h1:a<1000)(h2:xs[a]? =some x):ZB st (.ftup xs) (.int (a:Int))=some x:=by show(FO (a:Int)).bind _=_;rw[FT h1];exact h2
theorem MT{c:Nat}:cF [a] [c]=decide (a<=c):=by
 show(if a=c then true else decide (a<c))=_;by_cases h:a=c
 .subst h;simp
 .rw[if_neg h];exact decide_eq_decide.mpr (by lia)
theorem sB(h:k<12):([.int 97,.int 65,.int 119808,.int 119860,.int 119912,.int 120016,.int 120172,.int 120224,.int 120276,.int 120328,.int 120380,.int 120432]:List AV)[k]? =some (.int (GT.getD k 0:Nat)):=by show(GT.map λ(n:Nat)=>AV.int (n:Int))[k]? =_;rw[List.getElem?_map,List.getD_eq_getElem?_getD,List.getElem?_eq_getElem (show k<GT.length from h)];rfl
theorem Ah(h:k<12):GT.getD k 0<=120432/\65<=GT.getD k 0:=by
 have:∀k,k<12->GT.getD k 0<=120432/\65<=GT.getD k 0:=by decide
 exact this k h
theorem Gu(h:p<11):([173,847,6150,6155,6156,6157,8203,8204,8205,8288,65279]:List Nat)[p]? =some (Nj.getD p 0):=by
 have:∀p,p<11->Nj[p]? =some (Nj.getD p 0):=by decide
 exact this p h
theorem add_str(h:s.length+t.length<=1000):TN st .Add (.str s) (.str t)=some (.str (s++t)):=by show(if s.length+t.length<=1000 then some (AV.str (s++t))else none)=_;rw[if_pos h]
theorem OA{c t:Nat}{U:List Nat}(hU:U.length<=1)(h:∀k,Q (.f (.ret (.str (U++if 97<=c/\c<=122 then[GT.getD (t%12) 0+c-97]else[c])))) k):
  AX (m+57) (.execs ((body 176).drop 3)) (C0 176 [("sign",.str [c]),("turn",.int t),("place",.int p),("unseen",.str U)] []) Q:=by
 have e2:Int.fmod (t:Int) 12=((t%12:Nat):Int):=HT t 12;have hk:t%12<12:=Nat.mod_lt _ (by decide)
 conv=>whnf
 refine AQ (λq1=>?_) (λq1=>?_)
 .left;refine AQ (λq2=>?_) (λq2=>?_)
  .have c1:97<=c:=of_decide_eq_true (MT.symm.trans q1);have c2:c<=122:=of_decide_eq_true (MT.symm.trans q2);replace h:=(if_pos (And.intro c1 c2):_=[GT.getD (t%12) 0+c-97])▸h;left
   conv=>whnf
   rw[e2];generalize hkk:t%12=k at*;refine AE (sA (x:= .int (GT.getD k 0:Nat)) (oA hk) (sB hk)) ?_;left;refine AE ((show blt _ "chr" [.int (((GT.getD k 0:Nat):Int)+(c:Int)-97)]=some (.str [GT.getD k 0+c-97])by rw[show(((GT.getD k 0:Nat):Int)+(c:Int)-97)=((GT.getD k 0+c-97:Nat):Int)from Vr c1];exact Ag (oE (Ah hk).1 c2))) ?_
   left;refine AE (add_str (oA (Nat.add_le_add_right hU 1))) ?_;left;exact h _
  .replace h:=(if_neg (λq:97<=c/\c<=122=>of_decide_eq_false (MT.symm.trans q2) q.2):_=[c])▸h;left;refine AE (add_str (oA (Nat.add_le_add_right hU 1))) ?_;left;exact h _
 .replace h:=(if_neg (λq:97<=c/\c<=122=>of_decide_eq_false (MT.symm.trans q1) q.1):_=[c])▸h;left;refine AE (add_str (oA (Nat.add_le_add_right hU 1))) ?_;left;exact h _
theorem jP{t t':AY}(h:AX n t c Q)(e1:t=t')(e2:c=c'):AX n t' c' Q:=by subst e1 e2;exact h
theorem jQ(m:Nat)(c t:Nat)(hc:c<1000)(Q:AB)(h:∀k,Q (.f (.ret (.str (GU c t)))) k):AX (m+60) (.execs (body 176)) (C0 176 [("sign",.str [c]),("turn",.int t)] []) Q:=by
 have e1:Int.fmod (Int.fdiv (t:Int) 12) 28=((t/12%28:Nat):Int):=by rw[show Int.fdiv (t:Int) 12=((t/12:Nat):Int)from fF t 12];exact HT (t/12) 28
 have hp:t/12%28<28:=Nat.mod_lt _ (by decide);left
 conv=>whnf
 refine(Eq.symm e1)▸?_;generalize hpp:t/12%28=p at*;replace h:∀k,Q (.f (.ret (.str (EZ p++if 97<=c/\c<=122 then[GT.getD (t%12) 0+c-97]else[c])))) k:=hpp▸h;refine AQ (λp1=>?_) (λp1=>?_)
 .have p1:p<11:=Int.ofNat_lt.mp (of_decide_eq_true p1);left;refine AE (VF (c:=Nj.getD p 0) (oA p1) (Gu p1)) ?_;have hU:EZ p=[Nj.getD p 0]:=if_pos p1;left;exact AE rfl (AE rfl (LV (GR (jP (OA (p:=p) (U:=[Nj.getD p 0]) (Nat.le_refl 1) (hU▸h)) rfl rfl))))
 .have p1:¬p<11:=λq=>of_decide_eq_false p1 (Int.ofNat_lt.mpr q);left;refine AQ (λp2=>?_) (λp2=>?_)
  .have p2:p<27:=Int.ofNat_lt.mp (of_decide_eq_true p2);left;refine AE ((show blt _ "chr" [.int ((65013:Int)+(p:Int))]=some (.str [65013+p])from Ag (x:=65013+p) (by exact oD p2))) ?_;have hU:EZ p=[65013+p]:=(if_neg p1).trans (if_pos p2);left;exact AE rfl (AE rfl (LV (GR (GR (jP (OA (p:=p) (U:=[65013+p]) (Nat.le_refl 1) (hU▸h)) rfl rfl)))))
  .have p2:¬p<27:=λq=>of_decide_eq_false p2 (Int.ofNat_lt.mpr q);have hU:EZ p=([]:List Nat):=(if_neg p1).trans (if_neg p2);exact GR (GR (jP (OA (p:=p) (U:=[]) (Nat.zero_le 1) (hU▸h)) rfl rfl))
theorem bE{t:Nat}(hx:x<1000)(h:Q (.v (.str (GU x t))) c):DI (AX (n+61)) (.fn 176) [.str [x],.int t] c Q:=
 CI (fd:=(DD 176).getD default) rfl (by decide) (by decide) (by decide) rfl rfl (jQ n x t hx _ λc'=>HU (λl q=>nomatch q) rfl h)
noncomputable def DX(name:List Nat)(seed:Nat):List (List Nat):=(List.range name.length).map λi=>GU (name.getD i 0) (seed*(i+1)+i)
noncomputable def EO(c:Nat):List Nat:=if c=34\/c=92 then[92,c]else[c]
noncomputable def CU(name:List Nat)(seed q:Nat):List Nat:=
 if q=0 then((DX name seed).flatten.map λc=>[92,c]).flatten else[34]++((DX name seed).flatten.map EO).flatten++[34]
noncomputable abbrev D6(name:List Nat)(seed:Nat)(q:Nat)(L:List (Str×AV)):AC:=⟨⟨((DD 181).getD default).scope,("name",.str name)::("quoted",.int q)::L,[("seed",0)]⟩,[.cell (some (.int seed))],0⟩
theorem WG(name:List Nat)(seed q:Nat):DS ((DD 181).getD default) [] [.str name,.int seed,.int q] [] 0=some (D6 name seed q []):=rfl
theorem sD{c t:Nat}:(GU c t).length<=2:=by unfold GU EZ;rw[List.length_append];split<;>split<;>(try split)<;>simp
noncomputable def GV(c:Nat):List Nat:=[92,c]
theorem KM{α β:Type}(d:α)(f:α->β):∀l:List α,(List.range l.length).map (λi=>f (l.getD i d))=l.map f
 |[]=>rfl
 |x::r=>by simp only[List.length_cons,List.range_succ_eq_map,List.map_cons,List.map_cons,List.map_map];congr 1;exact KM d f r
theorem EU{α:Type}(f:α->List Nat)(h:∀x,(f x).length<=2):∀l:List α,(l.map f).flatten.length<=2*l.length
 |[]=>Nat.le_refl _
 |x::r=>by simp only[List.map_cons,List.flatten_cons,List.length_append,List.length_cons];have:=h x;have:=EU f h r;exact oE ‹(f x).length<=2› ‹_›
theorem MU{name:List Nat}{seed:Nat}:(DX name seed).flatten.length<=2*name.length:=by have:=EU (λi=>GU (name.getD i 0) (seed*(i+1)+i)) (λ_=>sD) (List.range name.length);rw[List.length_range]at this;exact this
theorem jR(m:Nat)(name:List Nat)(seed q:Nat)(hn:name.length<=10)(hc:∀c∈name,c<1000)(hs:seed<1000000000)(Q:AB)(h:∀k,Q (.f (.ret (.str (CU name seed q)))) k):AX (m+120) (.execs (body 181)) (D6 name seed q []) Q:=by
 left;refine⟨λi=>[.str (GU (name.getD i 0) (seed*(i+1)+i))],rfl,?_,?_⟩
 .intro i x hx;obtain⟨y,h1⟩:=PM _ 0 _ _ hx;rw[Nat.zero_add];simp only[AK,List.getElem?_map]at h1;obtain⟨c,h2,rfl⟩:=AZ h1;have hd:name.getD i 0=c:=by rw[List.getD_eq_getElem?_getD,h2];rfl
  have hi:i<10:=by have:=(EC h2);exact Nat.le_trans this hn
  have hcc:=hc c (List.mem_of_getElem? h2);left
  conv=>whnf
  refine AE (oU (i:=(seed:Int)) (j:=(i:Int)+1) (by simp only[Int.natAbs_natCast];exact Nat.lt_trans hs (by decide)) (by omega)) ?_;left
  conv=>whnf
  rw[show(seed:Int)*((i:Int)+1)+(i:Int)=((seed*(i+1)+i:Nat):Int)by push_cast;rfl];refine bE hcc ?_;left;refine⟨?_,rfl,rfl,Nat.zero_le _⟩;show _=[AV.str (GU (name.getD i 0) (seed*(i+1)+i))];rw[hd]
 rw[FF,PN,show(AK name).length=name.length from List.length_map ..];have e1:(List.range name.length).map (λi=>AV.str (GU (name.getD i 0) (seed*(i+1)+i)))=(DX name seed).map AV.str:=by simp only[DX,List.map_map];rfl
 rw[e1];have hsl:(DX name seed).length=name.length:=by simp[DX]
 have hfl:(DX name seed).flatten.length<=20:=Nat.le_trans MU (by exact Nat.mul_le_mul_left _ hn);refine⟨by rw[List.length_map];exact oA (Nat.le_trans (Nat.le_of_eq hsl) hn),?_⟩;left;refine MP (join_ok (MS (DX name seed)) (by rw[List.length_map];exact oA (Nat.le_trans (Nat.le_of_eq hsl) hn)) (by exact oA hfl)) ?_;left;generalize hss:(DX name seed).flatten=ss at*;refine AQ (λq0=>?_) (λq0=>?_)
 .have q0:q≠0:=by have:=of_decide_eq_true q0;lia
  left;refine⟨λi=>[.str (EO (ss.getD i 0))],rfl,?_,?_⟩
  .intro i x hx;simp only[AK,List.getElem?_map]at hx;obtain⟨c,h2,rfl⟩:=AZ hx;have hd:ss.getD i 0=c:=by rw[List.getD_eq_getElem?_getD,h2];rfl
   left;refine AQ (λq1=>?_) (λq1=>?_)
   .have q1:c=34\/c=92:=by have:([34,92]:List Nat).contains c=true:=q1;simpa using this
    left;refine⟨?_,rfl,rfl,Nat.zero_le _⟩;show _=[AV.str (EO (ss.getD i 0))];rw[hd,EO,if_pos q1];rfl
   .have q1:¬(c=34\/c=92):=by have:([34,92]:List Nat).contains c=false:=q1;simpa using this
    left;refine⟨?_,rfl,rfl,Nat.zero_le _⟩;show _=[AV.str (EO (ss.getD i 0))];rw[hd,EO,if_neg q1]
  rw[FF,show(AK ss).length=ss.length from List.length_map ..];have e2:(List.range ss.length).map (λi=>AV.str (EO (ss.getD i 0)))=(ss.map EO).map AV.str:=by rw[List.map_map];exact KM 0 (λc=>AV.str (EO c)) ss
  rw[e2];refine⟨by rw[List.length_map,List.length_map];exact oA hfl,?_⟩;left;have hfl2:(ss.map EO).flatten.length<=40:=by have:=EU EO (λc=>by unfold EO;split<;>simp) ss;lia
  refine MP (join_ok (MS _) (by rw[List.length_map,List.length_map];exact oA hfl) (by exact oA hfl2)) ?_;left;refine AE (add_str (s:=[34]) (by simp only[List.length_cons,List.length_nil];exact oD hfl2)) ?_;left;refine AE (add_str (t:=[34]) (by simp only[List.length_cons,List.length_nil,List.length_append];exact oD hfl2)) ?_;left;have e:CU name seed q=[34]++(ss.map EO).flatten++[34]:=by unfold CU;rw[if_neg q0,hss]
  replace h:=e▸h;exact h _
 .have q0:q=0:=by have:=of_decide_eq_false q0;lia
  left;refine⟨λi=>[.str (GV (ss.getD i 0))],rfl,?_,?_⟩
  .intro i x hx;simp only[AK,List.getElem?_map]at hx;obtain⟨c,h2,rfl⟩:=AZ hx;have hd:ss.getD i 0=c:=by rw[List.getD_eq_getElem?_getD,h2];rfl
   left;refine⟨?_,rfl,rfl,Nat.zero_le _⟩;show _=[AV.str [92,ss.getD i 0]];rw[hd];rfl
  rw[FF,show(AK ss).length=ss.length from List.length_map ..];have e2:(List.range ss.length).map (λi=>AV.str (GV (ss.getD i 0)))=(ss.map GV).map AV.str:=by rw[List.map_map];exact KM 0 (λc=>AV.str (GV c)) ss
  rw[e2];refine⟨by rw[List.length_map,List.length_map];exact oA hfl,?_⟩;left;have hfl2:(ss.map GV).flatten.length<=40:=by have:=EU GV (λc=>by unfold GV;exact Nat.le_refl _) ss;lia
  refine MP (join_ok (MS _) (by rw[List.length_map,List.length_map];exact oA hfl) (by exact oA hfl2)) ?_;left;have e:CU name seed q=(ss.map GV).flatten:=by unfold CU;rw[if_pos q0,hss];rfl
  replace h:=e▸h;exact h _
theorem bF{name:List Nat}{seed:Nat}(hn:name.length<=10)(hc:∀c∈name,c<1000)(hs:seed<1000000000)(h:Q (.v (.str (CU name seed q))) c):DI (AX (n+121)) (.fn 181) [.str name,.int seed,.int q] c Q:=
 CI (fd:=(DD 181).getD default) rfl (by decide) (by decide) (by decide) rfl (WG name seed q) (jR n name seed q hn hc hs _ λc'=>HU (λl q=>nomatch q) rfl h)
noncomputable abbrev bG(L:List (Str×AV))(S:List AO)(lim:Nat):AC:=⟨⟨(KF (DA 29)).scope,L,[("text",5),("found",4),("ways",3),("word",2),("drawn",1)]⟩,S,lim⟩
theorem enter_law(ns:List Int):DS (KF (DA 29)) [] [.flist (AJ ns)] [.tab] 0=some (bG [("script",.flist (AJ ns))] [.tab,.cell none,.cell none,.cell none,.cell none,.cell none] 0):=rfl
noncomputable def RI(ns:List Int):List Nat:=(ns.take 24).map λn=>(Int.fmod n 1000000).toNat
theorem Ai(h:xs.length<=1000)(hn:n<1000):cG st (.flist xs) none (some (n:Int)) none=some (.flist (xs.take n)):=by show(if xs.length<=1000 then(cut xs none (some (n:Int)) none).map AV.flist else none)=_;rw[if_pos h];show((FO (n:Int)).bind λb=>some ((xs.take b).drop 0)).map AV.flist=_;rw[FT hn];rfl
theorem Aj(h:n<=24)(ha:a<8):(NO a n n).length<=n:=by
 have:∀n,n<25->∀a,a<8->(NO a n n).length<=n:=by decide+kernel
 exact this n (Nat.lt_succ_of_le h) a ha
theorem fG(h:xs.length<=24)(hn:n<8):cG st (.flist xs) (some (n:Int)) none (some 8)=some (.flist (every (NO n xs.length xs.length) xs)):=by show(if xs.length<=1000 then(cut xs (some (n:Int)) none (some 8)).map AV.flist else none)=_;rw[if_pos (oA h)];show((FO (n:Int)).bind λa=>if(8:Int)=8 then Qa xs (NO a xs.length xs.length)else none).map AV.flist=_;rw[FT (oA hn)];show(if(8:Int)=8 then(if(NO n xs.length xs.length).length<=xs.length then some (every (NO n xs.length xs.length) xs)else none)else none).map AV.flist=_;rw[if_pos rfl,if_pos (Aj h hn)];rfl
theorem sE{α β:Type}(f:α->β)(r:List Nat)(xs:List α):every r (xs.map f)=(every r xs).map f:=by unfold every;rw[List.map_filterMap];exact congrArg (λg=>List.filterMap g r) (funext λi=>List.getElem?_map)
theorem Nk{is:List Int}:blt st "sum" [.flist (AJ is)]=some (.int is.sum):=by show((some (AJ is)).bind GK).map (λis=>AV.int is.sum)=_;rw[Option.bind_some,LW];rfl
noncomputable def FK(ns:List Nat):List Int:=ns.map λ(n:Nat)=>(n:Int)
theorem jS(ns:List Nat):BK ns=AJ (FK ns):=by simp only[BK,AJ,FK,List.map_map];rfl
theorem fH:∀ns:List Nat,(FK ns).sum=((ns.sum:Nat):Int)
 |[]=>rfl
 |n::r=>by show(n:Int)+(FK r).sum=_;simp only[fH r,List.sum_cons];push_cast;rfl
theorem jT{d:List Nat}(h:d.length<=24)(hi:i<8):cG st (.flist (BK d)) (some (i:Int)) none (some 8)=some (.flist (AJ (FK (every (NO i d.length d.length) d)))):=by have hl:(BK d).length=d.length:=List.length_map ..;refine(fG (hl▸h) hi).trans ?_;rw[hl,<-jS];exact congrArg (λl=>some (AV.flist l)) (sE ..)
theorem Ak{ns:List Nat}:blt st "sum" [.flist (AJ (FK ns))]=some (.int (ns.sum:Nat)):=Nk.trans (by rw[fH])
noncomputable def VG:List Nat:=[0,0,2,2,3,1,12,45]
noncomputable def FU(d:List Nat)(p:Nat):Nat:=(every (NO p d.length d.length) d).sum+VG.getD p 0
noncomputable def jU:List Nat:=[97,34,92,35,98,99,100,101,97,34,92,35,98,99,100,101]
noncomputable def IY(s0 s1 s2 s3 s4 s5:Nat):Nat->List Nat
 |0=>[s0,s1,s2,s3,s4,s5]
 |1=>[s0,s1,s2,s2,s2,s2]
 |2=>[s0,s1,s2,s3,s4]
 |_=>[s0,s1,s2,s3,s3,s3]
theorem BQ{l:Option Int}{out r:List Int}{s:Nat}(h:1<=s/\s<=4):GW (n+1) l out ((s:Int)::r)=GW n (some s) (out++[(s:Int)]) r:=by show(if(s:Int)=127 then some out else if(s:Int)=0 then l.map (λy=>out++List.replicate (n+1) y)else GW n (some s) (out++[(s:Int)]) r)=_;rw[if_neg (by lia),if_neg (by lia)]
section
variable{s0 s1 s2 s3 s4 s5:Nat}(h0:1<=s0/\s0<=4)(h1:1<=s1/\s1<=4)(h2:1<=s2/\s2<=4)(h3:1<=s3/\s3<=4)(h4:1<=s4/\s4<=4)(h5:1<=s5/\s5<=4)
include h0 h1 h2 h3 h4 h5
theorem Al:GW 6 none [] (FK [s0,s1,s2,s3,s4,s5])=some (FK (IY s0 s1 s2 s3 s4 s5 0)):=by simp only[FK,List.map_cons,List.map_nil,BQ h0,BQ h1,BQ h2,BQ h3,BQ h4,BQ h5];rfl
theorem Am:GW 6 none [] (FK [s0,s1,s2,0,s4,s5])=some (FK (IY s0 s1 s2 s3 s4 s5 1)):=by simp only[FK,List.map_cons,List.map_nil,BQ h0,BQ h1,BQ h2];rfl
theorem An:GW 6 none [] (FK [s0,s1,s2,s3,s4,127])=some (FK (IY s0 s1 s2 s3 s4 s5 2)):=by simp only[FK,List.map_cons,List.map_nil,BQ h0,BQ h1,BQ h2,BQ h3,BQ h4];rfl
theorem Ao:GW 6 none [] (FK [s0,s1,s2,s3,0,s5])=some (FK (IY s0 s1 s2 s3 s4 s5 3)):=by simp only[FK,List.map_cons,List.map_nil,BQ h0,BQ h1,BQ h2,BQ h3];rfl
end
theorem Pk{is r:List Int}(h1:GK xs=some is)(h2:GW 6 none [] is=some r)(h:Q (.v (.flist (r.map .int))) c):DI (AX (n+1)) (.fn 193) [.flist xs] c Q:=⟨AE h1 (AE h2 h)⟩
theorem w4(x:Nat):1<=1+x%4/\1+x%4<=4:=by lia
theorem jV(is:List Int):JC (KZ 3) (AJ is) (AJ is)=some true:=by
 induction is with
 |nil=>rfl
 |cons i r ih=>show((some (decide (i=i))).bind λa=>(JC (KZ 3) (AJ r) (AJ r)).map (a&& ·))=_;rw[ih,decide_eq_true rfl];rfl
theorem Gv(is:List Int):GL st .NotEq (.flist (AJ is)) (.flist (AJ is))=some false:=by
 have:VX (.flist (AJ is)) (.flist (AJ is))=some true:=by show(bif Nat.beq (AJ is).length (AJ is).length then JC (KZ 3) (AJ is) (AJ is)else some false)=_;rw[Nat.beq_refl];exact jV is
 show(VX (.flist (AJ is)) (.flist (AJ is))).map _=_;rw[this];rfl
theorem Ap{M:Nat}:∀l:List Nat,(∀x∈l,x<=M)->l.sum<=l.length*M
 |[],_=>by exact Nat.zero_le _
 |x::r,h=>by simp only[List.sum_cons,List.length_cons,Nat.succ_mul];have:=h x (.head _);have:=Ap r λy hy=>h y (.tail _ hy);exact oE ‹_› ‹x<=M›
theorem sF{α:Type}{r:List Nat}{l:List α}{x:α}(h:x∈every r l):x∈l:=by obtain⟨i,_,h2⟩:=List.mem_filterMap.mp h;exact List.mem_of_getElem? h2
theorem oV{d:List Nat}(hl:d.length<=24)(hv:∀x∈d,x<1000000)(hp:p<8):FU d p<100000000:=by
 have h1:(every (NO p d.length d.length) d).sum<=(every (NO p d.length d.length) d).length*1000000:=Ap _ λx hx=>Nat.le_of_lt (hv x (sF hx));have h2:(every (NO p d.length d.length) d).length<=24:=Nat.le_trans (List.length_filterMap_le ..) (Nat.le_trans (Aj hl hp) hl);have h4:VG.getD p 0<=45:=by
  have:∀p,p<8->VG.getD p 0<=45:=by decide
  exact this p hp
 have h5:=Nat.mul_le_mul_right 1000000 h2;show(every (NO p d.length d.length) d).sum+VG.getD p 0<_;exact Nat.lt_of_le_of_lt (Nat.add_le_add (Nat.le_trans h1 h5) h4) (by decide)
noncomputable abbrev Ji(ns:List Int)(d:List Nat)(cs:List Nat)(sz:List Nat)(home:Int)(tail:Nat)(row:AV)(ws:List Nat):AC:=
 bG [("script",.flist (AJ ns)),("cells",.flist (BK cs)),("sizes",.flist (BK sz)),("home",.int home),("tail",.int tail),("row",row),("want",.flist (BK ws))]
  [.tab,.cell (some (.flist (BK d))),.cell none,.cell none,.cell none,.cell none,.list [.int 0],.list [.int 127],.list [.int 0]] 0
theorem Zw(m:Nat)(ns:List Int)(hn:ns.length<=63)(Q:AB)
  (k:∀c0 c1 c2 c3 c4 c5 c6 c7 d row t,c6<100000000->c7<100000000->c6%4=t->AX (m+293) (.execs ((body 239).drop 7)) (Ji ns d [c0,c1,c2,c3,c4,c5,c6,c7] [1+c0%4,1+c1%4,1+c2%4,1+c3%4,1+c4%4,1+c5%4] (Int.fmod (Int.fdiv (c6:Int) 4) 5) t row (IY (1+c0%4) (1+c1%4) (1+c2%4) (1+c3%4) (1+c4%4) (1+c5%4) t)) Q):AX (m+300) (.execs (body 239)) (bG [("script",.flist (AJ ns))] [.tab,.cell none,.cell none,.cell none,.cell none,.cell none] 0) Q:=by
 left;refine AE (Ai (n:=24) (by simp only[AJ,List.length_map];exact oA hn) (by decide)) ?_;left;refine⟨λi=>[.int (Int.fmod ((ns.take 24).getD i 0) 1000000)],rfl,?_,?_⟩
 .intro i x hx;simp only[AJ,<-List.map_take,List.getElem?_map]at hx;obtain⟨z,hz,rfl⟩:=AZ hx;have hd:(ns.take 24).getD i 0=z:=by rw[List.getD_eq_getElem?_getD,hz];rfl
  left;refine⟨?_,rfl,rfl,Nat.zero_le _⟩;show _=[AV.int (Int.fmod ((ns.take 24).getD i 0) 1000000)];rw[hd]
 have e1:(List.range ((AJ ns).take 24).length).flatMap (λi=>[AV.int (Int.fmod ((ns.take 24).getD i 0) 1000000)])=BK (RI ns):=by simp only[FF,AJ,<-List.map_take,List.length_map];refine(KM 0 (λz=>AV.int (Int.fmod z 1000000)) (ns.take 24)).trans ?_;simp only[BK,RI,List.map_map];refine List.map_congr_left λz _=>?_;have:0<=Int.fmod z 1000000:=Int.fmod_nonneg_of_pos _ (by decide);show AV.int _=AV.int ((Int.fmod z 1000000).toNat:Int);rw[Int.toNat_of_nonneg this]
 rw[e1];have hdl:(RI ns).length<=24:=by simp only[RI,List.length_map,List.length_take];exact Nat.min_le_left _ _
 have hdv:∀x∈RI ns,x<1000000:=by intro x hx;obtain⟨z,_,rfl⟩:=ID hx;have h1:0<=Int.fmod z 1000000:=Int.fmod_nonneg_of_pos _ (by decide);have h2:Int.fmod z 1000000<1000000:=Int.fmod_lt_of_pos _ (by decide);exact(Int.toNat_lt h1).mpr h2
 generalize RI ns=d at*;refine⟨by simp only[BK,List.length_map];exact oA hdl,?_⟩;left;refine⟨λi=>[.int (FU d i:Nat)],rfl,?_,?_⟩
 .intro i x hx;have hi:i<8:=by have:=(EC hx);exact this
  have hx:x= .ftup [.int (i:Int),.int (VG.getD i 0:Nat)]:=by
   have:i=0\/i=1\/i=2\/i=3\/i=4\/i=5\/i=6\/i=7:=by lia
   rcases this with rfl|rfl|rfl|rfl|rfl|rfl|rfl|rfl<;>((replace hx:=sj hx;subst hx);rfl)
  subst hx;left
  conv=>whnf
  refine AE (jT hdl hi) ?_;left;refine AE Ak ?_;left;exact Nat.zero_le _
 show _/\_;have e2:(List.range (ES 0 [AV.int 0,AV.int 0,AV.int 2,AV.int 2,AV.int 3,AV.int 1,AV.int 12,AV.int 45]).length).flatMap (λi=>[AV.int (FU d i:Nat)])=BK [FU d 0,FU d 1,FU d 2,FU d 3,FU d 4,FU d 5,FU d 6,FU d 7]:=rfl;rw[e2];have hb6:FU d 6<100000000:=oV hdl hdv (by decide);have hb7:FU d 7<100000000:=oV hdl hdv (by decide);generalize FU d 0=c0 at*;generalize FU d 1=c1 at*;generalize FU d 2=c2 at*;generalize FU d 3=c3 at*;generalize FU d 4=c4 at*;generalize FU d 5=c5 at*;generalize FU d 6=c6 at*;generalize FU d 7=c7 at*;refine⟨by show 8<=1000;decide,?_⟩;left;refine⟨λi=>[.int (1+[c0,c1,c2,c3,c4,c5].getD i 0%4:Nat)],rfl,?_,?_⟩
 .intro i x hx;have hi:i<6:=by have:=(EC hx);exact this
  have hx:x= .int ([c0,c1,c2,c3,c4,c5].getD i 0:Nat):=by
   have:i=0\/i=1\/i=2\/i=3\/i=4\/i=5:=by exact A3 hi
   rcases this with rfl|rfl|rfl|rfl|rfl|rfl<;>((replace hx:=sj hx;subst hx);rfl)
  subst hx;left;refine⟨?_,rfl,rfl,Nat.zero_le _⟩;rw[show Int.fmod (([c0,c1,c2,c3,c4,c5].getD i 0:Nat):Int) 4=(([c0,c1,c2,c3,c4,c5].getD i 0%4:Nat):Int)from HT _ 4];show[AV.int (1+(([c0,c1,c2,c3,c4,c5].getD i 0%4:Nat):Int))]=[AV.int ((1+[c0,c1,c2,c3,c4,c5].getD i 0%4:Nat):Int)];rfl
 show _/\_;have e3:(List.range (List.drop 0 (List.take 6 (BK [c0,c1,c2,c3,c4,c5,c6,c7]))).length).flatMap (λi=>[AV.int (1+[c0,c1,c2,c3,c4,c5].getD i 0%4:Nat)])=BK [1+c0%4,1+c1%4,1+c2%4,1+c3%4,1+c4%4,1+c5%4]:=rfl;rw[e3];refine⟨by show 6<=1000;decide,?_⟩;left
 conv=>whnf
 rw[show Int.fmod (c6:Int) 4=((c6%4:Nat):Int)from HT c6 4];have h4:c6%4<4:=Nat.mod_lt _ (by decide);have:c6%4=0\/c6%4=1\/c6%4=2\/c6%4=3:=by exact E3 h4
 rcases this with h4|h4|h4|h4
 .rw[h4];left;refine⟨AE (Al (s0:=1+c0%4) (s1:=1+c1%4) (s2:=1+c2%4) (s3:=1+c3%4) (s4:=1+c4%4) (s5:=1+c5%4) (w4 _) (w4 _) (w4 _) (w4 _) (w4 _) (w4 _)) ?_⟩;left;refine AQ (λq=>absurd q (by simp)) (λ_=>GR ?_);exact k c0 c1 c2 c3 c4 c5 c6 c7 d (.flist (AJ (FK [(1+c0%4),(1+c1%4),(1+c2%4),(1+c3%4),(1+c4%4),(1+c5%4)]))) 0 hb6 hb7 h4
 .rw[h4];left;refine⟨AE (Am (s0:=1+c0%4) (s1:=1+c1%4) (s2:=1+c2%4) (s3:=1+c3%4) (s4:=1+c4%4) (s5:=1+c5%4) (w4 _) (w4 _) (w4 _) (w4 _) (w4 _) (w4 _)) ?_⟩;left;refine AQ (λq=>absurd q (by simp)) (λ_=>GR ?_);exact k c0 c1 c2 c3 c4 c5 c6 c7 d (.flist (AJ (FK [(1+c0%4),(1+c1%4),(1+c2%4),0,(1+c4%4),(1+c5%4)]))) 1 hb6 hb7 h4
 .rw[h4];left;refine⟨AE (An (s0:=1+c0%4) (s1:=1+c1%4) (s2:=1+c2%4) (s3:=1+c3%4) (s4:=1+c4%4) (s5:=1+c5%4) (w4 _) (w4 _) (w4 _) (w4 _) (w4 _) (w4 _)) ?_⟩;left;refine AQ (λq=>absurd q (by simp)) (λ_=>GR ?_);exact k c0 c1 c2 c3 c4 c5 c6 c7 d (.flist (AJ (FK [(1+c0%4),(1+c1%4),(1+c2%4),(1+c3%4),(1+c4%4),127]))) 2 hb6 hb7 h4
 .rw[h4];left;refine⟨AE (Ao (s0:=1+c0%4) (s1:=1+c1%4) (s2:=1+c2%4) (s3:=1+c3%4) (s4:=1+c4%4) (s5:=1+c5%4) (w4 _) (w4 _) (w4 _) (w4 _) (w4 _) (w4 _)) ?_⟩;left;refine AQ (λq=>absurd q (by simp)) (λ_=>GR ?_);exact k c0 c1 c2 c3 c4 c5 c6 c7 d (.flist (AJ (FK [(1+c0%4),(1+c1%4),(1+c2%4),(1+c3%4),0,(1+c5%4)]))) 3 hb6 hb7 h4
theorem MB(h:s.length<=1000)(hn:n<1000):cG st (.str s) (some (n:Int)) none none=some (.str (s.drop n)):=by show(if s.length<=1000 then(cut s (some (n:Int)) none none).map AV.str else none)=_;rw[if_pos h];show((FO (n:Int)).bind λa=>some ((s.take s.length).drop a)).map AV.str=_;rw[FT hn];show some (AV.str ((s.take s.length).drop n))=_;rw[List.take_length]
theorem PT(h:s.length<=1000)(hn:n<1000):cG st (.str s) none (some (n:Int)) none=some (.str (s.take n)):=by show(if s.length<=1000 then(cut s none (some (n:Int)) none).map AV.str else none)=_;rw[if_pos h];show((FO (n:Int)).bind λb=>some ((s.take b).drop 0)).map AV.str=_;rw[FT hn];rfl
noncomputable def VH(k:Nat):List Nat:=(jU.drop k).take 4
noncomputable def EN(k home:Nat):List Nat:=(VH k).take home++[32]++(VH k).drop home
noncomputable def fI(k home seed q:Nat):List Nat:=[32]++CU (EN k home) seed q++[10]
theorem Gw:∀k,k<8->(VH k).length=4:=by decide
theorem fJ:∀k,k<8->∀h,h<5->(EN k h).length=5/\∀c∈EN k h,c<1000:=by decide
theorem fK{name:List Nat}{seed:Nat}(h:name.length<=10):(CU name seed q).length<=42:=by
 have h1:=MU (name:=name) (seed:=seed);unfold CU;split
 .have:=EU (λc=>[92,c]) (λc=>by exact Nat.le_refl _) (DX name seed).flatten;lia
 .have:=EU EO (λc=>by unfold EO;split<;>simp) (DX name seed).flatten;simp only[List.length_append,List.length_cons,List.length_nil];lia
noncomputable def nsOf(v:AV)(p:Nat):List (Str×AV):=[("lineno",.int 1),("instream",v),("whitespace",.str [10,9,13,32]),("pushback",.loc p)]
theorem Nl(h:Q (.v (.loc 11)) ⟨fr,[x0,x1,x2,x3,x4,x5,x6,x7,x8,x9,x10,.inst FZ 12,.ns (nsOf v 13),.list []],lo⟩):DI (AX (n+40)) (.fn 87) [v] ⟨fr,[x0,x1,x2,x3,x4,x5,x6,x7,x8,x9,x10],lo⟩ Q:=by refine DI.mk ?_;left;exact h
theorem Nm{x11 x12 x13 x14 x15:AO}(h:Q (.v (.loc 16)) ⟨fr,[x0,x1,x2,x3,x4,x5,x6,x7,x8,x9,x10,x11,x12,x13,x14,x15,.inst FZ 17,.ns (nsOf v 18),.list []],lo⟩):DI (AX (n+40)) (.fn 87) [v] ⟨fr,[x0,x1,x2,x3,x4,x5,x6,x7,x8,x9,x10,x11,x12,x13,x14,x15],lo⟩ Q:=by refine DI.mk ?_;left;exact h
structure A9 where
 a0:AO
 a1:AO
 a2:AO
 a3:AO
 a4:AO
 a5:AO
 a6:AO
 a7:AO
 a8:AO
noncomputable abbrev A9.l(a:A9):List AO:=[a.a0,a.a1,a.a2,a.a3,a.a4,a.a5,a.a6,a.a7,a.a8]
noncomputable abbrev CB(az:A9)(T:List Nat)(gone:List Nat)(line:Int)(push:List AV)(ex:List AO):List AO:=
 az.a0::az.a1::az.a2::az.a3::az.a4::az.a5::az.a6::az.a7::az.a8:: .cell (some (.str T)):: .cell (some (.loc 14)):: .inst FZ 12:: .ns [("lineno",.int 1),("instream",.none),("whitespace",.str [10,9,13,32]),("pushback",.loc 13),("read",.loc 15)]:: .list []::
 .list (AK gone):: .clos [("text",9),("gone",10)]:: .inst FZ 17:: .ns [("lineno",.int line),("instream",.loc 11),("whitespace",.str [10,9,13,32]),("pushback",.loc 18)]:: .list push::ex
theorem jW{a2 a3 a4 a5:AO}
  (h:Q (.v (.loc 16)) ⟨fr,CB ⟨.dead,a1,a2,a3,a4,a5,a6,a7,a8⟩ T [] 1 [] [],lo⟩):DI (AX (n+60)) (.fn 169) [.str T] ⟨fr,[.tab,a1,a2,a3,a4,a5,a6,a7,a8],lo⟩ Q:=by
 refine DI.mk ?_;left;refine Nl ?_;left;refine Nm ?_;left;exact h
noncomputable abbrev Jj(v1 v2 v3 v5 v6:AV)(home:Nat)(ws tk pl:List Nat):List (Str×AV):=
 [("script",v1),("cells",v2),("sizes",v3),("home",.int home),("tail",v5),("row",v6),("want",.flist (BK ws)),("tokens",.str tk),("plain",.str pl),("lexer",.loc 16)]
theorem Zx(m:Nat)(ns:List Int)(d cs sz:List Nat)(c0 c1 c2 c3 c4 c5 c6 c7 tail:Nat)(row:AV)(ws:List Nat)(h6:c6<100000000)(h7:c7<100000000)(Q:AB)
  (k:AX (m+290) (.execs ((body 239).drop 10)) (bG (Jj (.flist (AJ ns)) (.flist (BK [c0,c1,c2,c3,c4,c5,c6,c7])) (.flist (BK sz)) (.int tail) row (c6/4%5) ws (VH (c7%8)) (EN (c7%8) (c6/4%5)))
   (CB ⟨.dead,.cell (some (.flist (BK d))),.cell none,.cell none,.cell none,.cell none,.list [.int 0],.list [.int 127],.list [.int 0]⟩ (fI (c7%8) (c6/4%5) (c6+c7) (c7%2)) [] 1 [] []) 0) Q):
  AX (m+293) (.execs ((body 239).drop 7)) (Ji ns d [c0,c1,c2,c3,c4,c5,c6,c7] sz (Int.fmod (Int.fdiv (c6:Int) 4) 5) tail row ws) Q:=by
 have hk:c7%8<8:=Nat.mod_lt _ (by decide);have hh:c6/4%5<5:=Nat.mod_lt _ (by decide);have e1:Int.fmod (Int.fdiv (c6:Int) 4) 5=((c6/4%5:Nat):Int):=by rw[show Int.fdiv (c6:Int) 4=((c6/4:Nat):Int)from fF c6 4];exact HT (c6/4) 5
 rw[e1];have e7:Int.fmod (c7:Int) 8=((c7%8:Nat):Int):=HT c7 8;have e2:Int.fmod (c7:Int) 2=((c7%2:Nat):Int):=HT c7 2;have htl:=Gw _ hk;have hpl:=fJ _ hk _ hh;left
 conv=>whnf
 rw[e7];refine AE (MB (s:=jU) (by decide) (by exact oA hk)) ?_;left;refine AE (PT (n:=4) (by rw[List.length_drop];show 16-_<=1000;simp+arith) (by decide)) ?_;rw[show(jU.drop (c7%8)).take 4=VH (c7%8)from rfl];left;refine AE (PT (by exact oB htl) (by exact oA hh)) ?_;left;refine AE (add_str (t:=[32]) (by simp only[List.length_take,List.length_cons,List.length_nil];exact oA (Nat.succ_le_succ (Nat.le_trans (Nat.min_le_right ..) (Nat.le_of_eq htl))))) ?_;left;refine AE (MB (by exact oB htl) (by exact oA hh)) ?_;left;refine AE (add_str (by simp only[List.length_append,List.length_drop,List.length_take,List.length_cons,List.length_nil];exact oA (Nat.add_le_add (Nat.succ_le_succ (Nat.le_trans (Nat.min_le_right ..) (Nat.le_of_eq htl))) (Nat.le_trans (Nat.sub_le ..) (Nat.le_of_eq htl))))) ?_;rw[show(VH (c7%8)).take (c6/4%5)++[32]++(VH (c7%8)).drop (c6/4%5)=EN (c7%8) (c6/4%5)from rfl];generalize hpf:EN (c7%8) (c6/4%5)=pl at*;left
 conv=>whnf
 rw[e2];refine bF (name:=pl) (seed:=c6+c7) (q:=c7%2) (by exact oB hpl.1) hpl.2 (by exact oE h6 h7) ?_;have hwl:=fK (name:=pl) (seed:=c6+c7) (q:=c7%2) (by exact oB hpl.1);left;refine AE (add_str (s:=[32]) (by simp only[List.length_cons,List.length_nil];exact oD hwl)) ?_;left;refine AE (add_str (t:=[10]) (by simp only[List.length_append,List.length_cons,List.length_nil];exact oD hwl)) ?_;left;refine jW ?_;rw[show[32]++CU pl (c6+c7) (c7%2)++[10]=fI (c7%8) (c6/4%5) (c6+c7) (c7%2)by rw[fI,hpf]];refine AE rfl ?_;refine AE rfl ?_;exact LV k
theorem SA{l:Nat}(h1:st[l]? =some (.list xs))(h:xs.length<=1000):blt st "len" [.loc l]=some (.int xs.length):=by show(BN st (.loc l)).bind _=_;rw[IU h1];exact if_pos h
theorem WH(h:s.length<=1000)(ha:a<1000)(hb:b<1000):cG st (.str s) (some (a:Int)) (some (b:Int)) none=some (.str ((s.take b).drop a)):=by show(if s.length<=1000 then(cut s (some (a:Int)) (some (b:Int)) none).map AV.str else none)=_;rw[if_pos h];show((FO (a:Int)).bind λa=>(FO (b:Int)).bind λb=>some ((s.take b).drop a)).map AV.str=_;rw[FT ha,FT hb];rfl
theorem jX{l:Nat}(h:xs.length+s.length<=1000):SD "extend" st l xs [.str s]=some (.none,st.set l (.list (xs++AK s))):=by have e:SD "extend" st l xs [.str s]=if xs.length+s.length<=1000 then some (.none,st.set l (.list (xs++AK s)))else none:=rfl;rw[e,if_pos h]
theorem bH{l:Nat}{g:List Nat}(h:g.length+s.length<=1000):SD "extend" st l (AK g) [.str s]=some (.none,st.set l (.list (AK (g++s)))):=by rw[jX (by rw[show(AK g).length=g.length from List.length_map ..];exact h)];simp[AK]
noncomputable def BP(T gone:List Nat):List Nat:=(T.take (gone.length+1)).drop gone.length
theorem jY{gone:List Nat}{line:Int}{push:List AV}(hT:T.length<=100)(hg:gone.length<=100)
  (h:Q (.v (.str (BP T gone))) ⟨fr,CB az T (gone++BP T gone) line push ex,lo⟩):
  FM (AX (n+60)) (.loc 11) "read" [.int 1] ⟨fr,CB az T gone line push ex,lo⟩ Q:=by
 have hcl:(AK gone).length=gone.length:=List.length_map ..;have hpl:(BP T gone).length<=1:=by simp only[BP,List.length_drop,List.length_take];exact Nat.sub_le_of_le_add (Nat.le_trans (Nat.min_le_left ..) (Nat.le_of_eq (Nat.add_comm ..)))
 refine FM.mk ?_;left;refine AE (SA rfl (by rw[hcl];exact oA hg)) ?_;left;refine AE (SA rfl (by rw[hcl];exact oA hg)) ?_;left;refine(Eq.symm hcl)▸?_;refine AE (WH (a:=gone.length) (b:=gone.length+1) (by exact oA hT) (by exact oD hg) (by exact oD hg)) ?_;left;rw[show(T.take (gone.length+1)).drop gone.length=BP T gone from rfl];refine SU rfl (bH (by exact oE hg hpl)) ?_;left;exact h
noncomputable abbrev D7(L:List (Str×AV))(S:List AO)(lo:Nat):AC:=⟨⟨((DD 70).getD default).scope,L,[]⟩,S,lo⟩
theorem FY{gone:List Nat}{line:Int}{push:List AV}(hT:T.length<=100)(hg:gone.length<=100)
  (h:∀L,Q (.f (.ret (.str (BP T gone)))) (D7 L (CB az T (gone++BP T gone) (if BP T gone=[10]then line+1 else line) push ex) lo)):
  AX (n+80) (.execs (body 70)) (D7 [("self",.loc 16)] (CB az T gone line push ex) lo) Q:=by
 left;refine jY hT hg ?_;left;refine AQ (λq=>?_) (λq=>?_)
 .have q:BP T gone=[10]:=of_decide_eq_true q;replace h:=(if_pos q)▸h;left;exact h _
 .have q:¬BP T gone=[10]:=of_decide_eq_false q;replace h:=(if_neg q)▸h;left;exact h _
noncomputable abbrev Bs(tok:List Nat)(L:List (Str×AV))(S:List AO)(lo:Nat):AC:=⟨⟨((DD 77).getD default).scope,("self",.loc 16)::("token",.str tok)::("fiter",.loc 19)::L,[]⟩,S,lo⟩
theorem GI{g r:List Nat}:BP (g++x::r) g=[x]:=by unfold BP;rw[List.take_append,List.take_of_length_le (by exact Nat.le_succ _),show g.length+1-g.length=1 by simp+arith];rw[List.drop_append,List.drop_length,Nat.sub_self];rfl
theorem Pl{g:List Nat}:BP g g=[]:=by unfold BP;rw[List.take_of_length_le (by exact Nat.le_succ _),List.drop_length]
theorem OB{gone:List Nat}{line:Int}{push:List AV}(hT:T.length<=100)(hg:gone.length<=100)
  (h:Q (.v (.str (BP T gone))) ⟨fr,CB az T (gone++BP T gone) (if BP T gone=[10]then line+1 else line) push ex,lo⟩):
  FM (AX (n+81)) (.loc 16) "_read_char" [] ⟨fr,CB az T gone line push ex,lo⟩ Q:=by
 refine eS rfl rfl rfl rfl rfl rfl ?_;exact FY hT hg λL=>h
noncomputable def EG(s:List Nat):List Nat:=[32,34]++(s.map EO).flatten++[34,10]
inductive Zy(az:A9)(s:List Nat):Nat->AC->Prop
 |a:Zy az s 2 (Bs [] [] (CB az (EG s) [] 1 [] [.citer 16 70]) 20)
 |b:Zy az s 1 (Bs [] [] (CB az (EG s) [32] 1 [] [.citer 16 70]) 20)
inductive Uj(az:A9)(s:List Nat):Nat->AC->Prop
 |mk (j:Nat) (x:List Nat) (h:j<=s.length):Uj az s (s.length-j) (Bs (s.take j) [("ch",.str x)] (CB az (EG s) ([32,34]++((s.take j).map EO).flatten) 1 [] [.citer 16 70]) 20)
theorem Uj.of{a b x:List Nat}(h:j<=s.length)(e1:s.take j=a)(e2:[32,34]++(a.map EO).flatten=b):Uj az s (s.length-j) (Bs a [("ch",.str x)] (CB az (EG s) b 1 [] [.citer 16 70]) 20):=by subst e1 e2;exact⟨j,x,h⟩
theorem sG(hs:s.length<=40)(h10:10∉s)
  (h:∀c,c.st=CB az (EG s) ([32,34]++(s.map EO).flatten++[34]) 1 [] [.citer 16 70]->Q (.f (.ret (.str s))) c):
  AX (n+150) (.execs (body 77)) ⟨⟨((DD 77).getD default).scope,[("self",.loc 16)],[]⟩,CB az (EG s) [] 1 [] [],lo⟩ Q:=by
 have hTl:(EG s).length<=100:=by have:=EU EO (λc=>by unfold EO;split<;>simp) s;simp only[EG,List.length_append,List.length_cons,List.length_nil];lia
 left;refine⟨Zy az s,2,.a,?_⟩;rintro m c2 (_|_)
 .refine⟨rfl,rfl,?_⟩;have hp:BP (EG s) []=[32]:=rfl;refine AE rfl (AE rfl ?_);refine FY (gone:=[]) hTl (by decide) λL=>?_;refine(Eq.symm hp)▸?_;left;exact⟨20,["self","token","fiter"],1,rfl,by decide,.b⟩
 .refine⟨rfl,rfl,?_⟩;have hp:BP (EG s) [32]=[34]:=rfl;refine AE rfl (AE rfl ?_);refine FY (gone:=[32]) hTl (by decide) λL=>?_;refine(Eq.symm hp)▸?_;left;refine⟨Uj az s,s.length,⟨0,[34],Nat.zero_le _⟩,?_⟩;rintro m _ ⟨j,x,hj⟩;refine⟨rfl,rfl,?_⟩;have hgl:([32,34]++((s.take j).map EO).flatten).length<=90:=by
   have:=EU EO (λc=>by unfold EO;split<;>simp) (s.take j);have:(s.take j).length<=s.length:=by rw[List.length_take];exact Nat.min_le_right _ _
   simp only[List.length_append,List.length_cons,List.length_nil];lia
  have htl:(s.take j).length<=s.length:=by rw[List.length_take];exact Nat.min_le_right _ _
  by_cases hjl:j=s.length
  .subst hjl;have hp:BP (EG s) ([32,34]++((s.take s.length).map EO).flatten)=[34]:=by rw[List.take_length];exact GI
   refine AE rfl (AE rfl ?_);refine FY (gone:=[32,34]++((s.take s.length).map EO).flatten) hTl (by exact oA hgl) λL=>?_;refine(Eq.symm hp)▸(Eq.symm List.take_length)▸?_;left;exact h _ rfl
  .have hjlt:j<s.length:=by exact Nat.lt_of_le_of_ne hj hjl
   generalize hc:s[j]=c;have htk:s.take (j+1)=s.take j++[c]:=by rw[List.take_add_one,List.getElem?_eq_getElem hjlt,hc];rfl
   have hsp:EG s=([32,34]++((s.take j).map EO).flatten)++(EO c++(((s.drop (j+1)).map EO).flatten++[34,10])):=by
    have:s=s.take (j+1)++s.drop (j+1):=(List.take_append_drop _ _).symm;simp only[EG]
    conv=>lhs;rw[this]
    rw[htk];simp[List.append_assoc]
   have hc10:c≠10:=λq=>h10 (by refine q▸hc▸?_;exact List.getElem_mem hjlt);have hnext:([32,34]++((s.take (j+1)).map EO).flatten)=[32,34]++((s.take j).map EO).flatten++EO c:=by rw[htk];simp
   generalize hG:[32,34]++((s.take j).map EO).flatten=G at*;have fin:∀x g',g'=G++EO c->ON (Uj az s) (λm'=>m'<s.length-j) (Bs (s.take j++[c]) [("ch",.str x)] (CB az (EG s) g' 1 [] [.citer 16 70]) 20):=by rintro x _ rfl;exact⟨20,["self","token","fiter","ch"],s.length-(j+1),rfl,by exact Nat.sub_lt_sub_left hjlt (Nat.lt_succ_self _),.of hjlt htk (htk▸hnext)⟩
   have n10:¬([c]:List Nat)=[10]:=by simpa using hc10
   by_cases hq:c=34\/c=92
   .have he:EO c=[92,c]:=if_pos hq;have hp:BP (EG s) G=[92]:=by rw[hsp,he];exact GI
    have hp2:BP (EG s) (G++[92])=[c]:=by rw[hsp,he,show G++([92,c]++(((s.drop (j+1)).map EO).flatten++[34,10]))=(G++[92])++c::(((s.drop (j+1)).map EO).flatten++[34,10])by simp];exact GI
    refine AE rfl (AE rfl ?_);refine FY (gone:=G) hTl (by exact oA hgl) λL=>?_;refine(Eq.symm hp)▸?_;left;refine OB (gone:=G++[92]) hTl (by simp only[List.length_append,List.length_cons,List.length_nil];exact oD hgl) ?_;rw[hp2,if_neg n10];left;refine AE (add_str (t:=[c]) (by simp only[List.length_cons,List.length_nil];exact oE htl hs)) ?_;exact fin [c] (G++[92]++[c]) (by rw[he];simp)
   .have he:EO c=[c]:=if_neg hq;have hp:BP (EG s) G=[c]:=by rw[hsp,he];exact GI
    have h34:c≠34:=λq=>hq (.inl q);have h92:c≠92:=λq=>hq (.inr q);refine AE rfl (AE rfl ?_);refine FY (gone:=G) hTl (by exact oA hgl) λL=>?_;rw[hp,if_neg n10];left
    conv=>whnf
    refine AQ (λq=>?_) (λ_=>?_)
    .exact absurd (of_decide_eq_true q) (λz=>h34 (List.cons.inj z).1)
    left;refine AQ (λq=>?_) (λ_=>?_)
    .exact absurd (of_decide_eq_true q) (λz=>h92 (List.cons.inj z).1)
    left;refine AE (add_str (t:=[c]) (by simp only[List.length_cons,List.length_nil];exact oE htl hs)) ?_;exact fin [c] (G++[c]) (by rw[he])
noncomputable def JM(s:List Nat):List Nat:=[32]++(s.map GV).flatten++[10]
inductive Zz(az:A9)(c0:Nat)(r0:List Nat):Nat->AC->Prop
 |a:Zz az c0 r0 2 (Bs [] [] (CB az (JM (c0::r0)) [] 1 [] [.citer 16 70]) 20)
 |b:Zz az c0 r0 1 (Bs [] [] (CB az (JM (c0::r0)) [32] 1 [] [.citer 16 70]) 20)
inductive Uk(az:A9)(s:List Nat):Nat->AC->Prop
 |mk (j:Nat) (x:List Nat) (h:j<=s.length):Uk az s (s.length-j) (Bs (s.take j) [("ch",.str x)] (CB az (JM s) ([32]++((s.take j).map GV).flatten) 1 [] [.citer 16 70]) 20)
theorem Uk.of{a b x:List Nat}(h:j<=s.length)(e1:s.take j=a)(e2:[32]++(a.map GV).flatten=b):Uk az s (s.length-j) (Bs a [("ch",.str x)] (CB az (JM s) b 1 [] [.citer 16 70]) 20):=by subst e1 e2;exact⟨j,x,h⟩
theorem Nn(hs:s.length<=40)(h0:s≠[])(h10:10∉s)
  (h:∀c,c.st=CB az (JM s) (JM s) 2 [] [.citer 16 70]->Q (.f (.ret (.str s))) c):
  AX (n+150) (.execs (body 77)) ⟨⟨((DD 77).getD default).scope,[("self",.loc 16)],[]⟩,CB az (JM s) [] 1 [] [],lo⟩ Q:=by
 have hTl:(JM s).length<=100:=by have:=EU GV (λc=>by unfold GV;exact Nat.le_refl _) s;simp only[JM,List.length_append,List.length_cons,List.length_nil];lia
 obtain⟨c0,r0,rfl⟩:=List.exists_cons_of_ne_nil h0;have hc0:¬([c0]:List Nat)=[10]:=λq=>h10 (by cases q;exact .head _);left;refine⟨Zz az c0 r0,2,.a,?_⟩;rintro m c2 (_|_)
 .refine⟨rfl,rfl,?_⟩;have hp:BP (JM (c0::r0)) []=[32]:=rfl;refine AE rfl (AE rfl ?_);refine FY (gone:=[]) hTl (by decide) λL=>?_;refine(Eq.symm hp)▸?_;left;exact⟨20,["self","token","fiter"],1,rfl,by decide,.b⟩
 .refine⟨rfl,rfl,?_⟩;have hp:BP (JM (c0::r0)) [32]=[92]:=rfl;have hp2:BP (JM (c0::r0)) ([32]++[92])=[c0]:=rfl;refine AE rfl (AE rfl ?_);refine FY (gone:=[32]) hTl (by decide) λL=>?_;refine(Eq.symm hp)▸?_;left;refine OB (gone:=[32]++[92]) hTl (by decide) ?_;rw[hp2,if_neg hc0];left;generalize hss:c0::r0=s at*;have h1:1<=s.length:=by refine hss▸?_;simp
  have ht1:s.take 1=[c0]:=by refine hss▸?_;rfl
  refine⟨Uk az s,s.length-1,.of h1 ht1 rfl,?_⟩;rintro m _ ⟨j,x,hj⟩;refine⟨rfl,rfl,?_⟩;have hgl:([32]++((s.take j).map GV).flatten).length<=90:=by
   have:=EU GV (λc=>by unfold GV;exact Nat.le_refl _) (s.take j);have:(s.take j).length<=s.length:=by rw[List.length_take];exact Nat.min_le_right _ _
   simp only[List.length_append,List.length_cons,List.length_nil];lia
  have htl:(s.take j).length<=s.length:=by rw[List.length_take];exact Nat.min_le_right _ _
  by_cases hjl:j=s.length
  .subst hjl;have hp:BP (JM s) ([32]++((s.take s.length).map GV).flatten)=[10]:=by rw[List.take_length];exact GI
   refine AE rfl (AE rfl ?_);refine FY (gone:=[32]++((s.take s.length).map GV).flatten) hTl (by exact oA hgl) λL=>?_;refine(Eq.symm hp)▸(Eq.symm List.take_length)▸?_;left;exact h _ rfl
  .have hjlt:j<s.length:=by exact Nat.lt_of_le_of_ne hj hjl
   generalize hc:s[j]=c;have htk:s.take (j+1)=s.take j++[c]:=by rw[List.take_add_one,List.getElem?_eq_getElem hjlt,hc];rfl
   have hsp:JM s=([32]++((s.take j).map GV).flatten)++([92,c]++(((s.drop (j+1)).map GV).flatten++[10])):=by
    have:s=s.take (j+1)++s.drop (j+1):=(List.take_append_drop _ _).symm;simp only[JM]
    conv=>lhs;rw[this]
    rw[htk];simp[List.append_assoc,GV]
   have hc10:c≠10:=λq=>h10 (by refine q▸hc▸?_;exact List.getElem_mem hjlt);have hnext:([32]++((s.take (j+1)).map GV).flatten)=[32]++((s.take j).map GV).flatten++[92,c]:=by rw[htk];simp[GV]
   generalize hG:[32]++((s.take j).map GV).flatten=G at*;have fin:∀x g',g'=G++[92,c]->ON (Uk az s) (λm'=>m'<s.length-j) (Bs (s.take j++[c]) [("ch",.str x)] (CB az (JM s) g' 1 [] [.citer 16 70]) 20):=by rintro x _ rfl;exact⟨20,["self","token","fiter","ch"],s.length-(j+1),rfl,by exact Nat.sub_lt_sub_left hjlt (Nat.lt_succ_self _),.of hjlt htk (htk▸hnext)⟩
   have n10:¬([c]:List Nat)=[10]:=by simpa using hc10
   have hp:BP (JM s) G=[92]:=by rw[hsp];exact GI
   have hp2:BP (JM s) (G++[92])=[c]:=by rw[hsp,show G++([92,c]++(((s.drop (j+1)).map GV).flatten++[10]))=(G++[92])++c::(((s.drop (j+1)).map GV).flatten++[10])by simp];exact GI
   refine AE rfl (AE rfl ?_);refine FY (gone:=G) hTl (by exact oA hgl) λL=>?_;refine(Eq.symm hp)▸?_;left;refine OB (gone:=G++[92]) hTl (by simp only[List.length_append,List.length_cons,List.length_nil];exact oD hgl) ?_;rw[hp2,if_neg n10];left;refine AE (add_str (t:=[c]) (by simp only[List.length_cons,List.length_nil];exact oE htl hs)) ?_;exact fin [c] (G++[92]++[c]) (by simp)
theorem Aq(m:Nat)(xs:List Bool)(b:Int)(i:Nat)(hi:i<xs.length)(h1:JB (xs.getD i false)=b)(h2:∀j,j<i->JB (xs.getD j false)≠b)(Q:AB)(h:∀c,Q (.f (.ret (.int i))) c):AX (m+30) (.execs (body 35)) (C0 35 [("a",.flist (xs.map .bool)),("b",.int b)] []) Q:=by
 left;refine⟨_,rfl,rfl,λj c=>j<=i/\c=C0 35 [("a",.flist (xs.map .bool)),("b",.int b)] [],⟨Nat.zero_le _,rfl⟩,?_,?_,?_⟩
 .rintro j _ ⟨_,rfl⟩;exact⟨rfl,trivial⟩
 .rintro j x _ hx ⟨hj,rfl⟩;obtain⟨y,h3⟩:=PM _ 0 _ _ hx;rw[Nat.zero_add];simp only[List.getElem?_map]at h3;obtain⟨z,hz,rfl⟩:=AZ h3;have hd:xs.getD j false=z:=by rw[List.getD_eq_getElem?_getD,hz];rfl
  left;refine AQ (λq=>?_) (λq=>?_)
  .have q:JB z=b:=of_decide_eq_true q;have:j=i:=by
    rcases Nat.lt_or_ge j i with h4|h4
    .exact absurd (by rw[hd];exact q) (h2 j h4)
    .exact Nat.le_antisymm hj h4
   subst this;left;exact h _
  .have q:¬JB z=b:=of_decide_eq_false q;have:j≠i:=λe=>q (by rw[<-hd,e];exact h1);left;exact⟨0,["a","b"],_,rfl,rfl,by exact Nat.lt_of_le_of_ne hj this,rfl⟩
 .rintro _ ⟨hj,_⟩;simp only[PN,List.length_map]at hj;exact Nat.not_le_of_lt hi hj
theorem VI{xs:List Bool}{b:Int}(hi:i<xs.length)(h1:JB (xs.getD i false)=b)(h2:∀j,j<i->JB (xs.getD j false)≠b)(h:Q (.v (.int i)) c):DI (AX (n+31)) (.fn 35) [.flist (xs.map .bool),.int b] c Q:=by refine CI (fd:=(DD 35).getD default) rfl (by decide) (by decide) (by decide) ?_ rfl (Aq n xs b i hi h1 h2 _ λc'=>HU (λl q=>nomatch q) rfl h);show(frees (xs.map .bool)&&true)=true;rw[HF (λ_=>rfl)];rfl
theorem jZ{xs:List Bool}(h:Q (.v (.int (xs.countP id:Nat))) c):DI (AX (n+31)) (.fn 21) [.flist (xs.map .bool),.int 1] c Q:=by refine CI (fd:=(DD 21).getD default) rfl (by decide) (by decide) (by decide) ?_ rfl (jH n xs _ λc'=>HU (λl q=>nomatch q) rfl h);show(frees (xs.map .bool)&&true)=true;rw[HF (λ_=>rfl)];rfl
theorem YC:∀p,p<28->(EZ p).all (λ(c:Nat)=>VW.contains (c:Int))=true/\10∉EZ p:=by decide+kernel
theorem sH:∀k,k<12->∀c,c<5->GS [GT.getD k 0+(97+c)-97]=[97+c]/\GD [GT.getD k 0+(97+c)-97]=true/\GT.getD k 0+(97+c)-97≠10:=by decide+kernel
theorem Gx:∀c∈[34,92,35,32],GS [c]=[c]/\GD [c]=true:=by decide+kernel
theorem YD(a b:List Nat):GS (a++b)=GS a++GS b:=by simp[GS]
theorem VJ:∀l:List (List Nat),GS l.flatten=(l.map GS).flatten
 |[]=>rfl
 |x::r=>by simp only[List.flatten_cons,YD,VJ r];rfl
theorem kA(a b:List Nat):GD (a++b)=(GD a&&GD b):=by simp[GD]
theorem bI(h:p<28):GS (EZ p)=[]/\GD (EZ p)=true:=by
 have h1:=(YC p h).1;constructor
 .unfold GS;rw[show(EZ p).filter (λ(c:Nat)=> !VW.contains (c:Int))=[]from List.filter_eq_nil_iff.mpr λc hc=>by have:=CW h1 c hc;rw[this];decide];rfl
 .unfold GD;rw[List.all_eq_true];intro c hc;rw[CW h1 c hc];rfl
noncomputable def kB:List Nat:=[97,98,99,100,101,34,92,35,32]
theorem OC{c t:Nat}(hc:c∈kB):GS (GU c t)=[c]/\GD (GU c t)=true/\10∉GU c t:=by
 have hp:t/12%28<28:=Nat.mod_lt _ (by decide);have hk:t%12<12:=Nat.mod_lt _ (by decide);have hu:=bI hp;have hu10:=(YC _ hp).2;unfold GU;have key:∀tl:List Nat,GS tl=[c]/\GD tl=true/\10∉tl->GS (EZ (t/12%28)++tl)=[c]/\GD (EZ (t/12%28)++tl)=true/\10∉EZ (t/12%28)++tl:=by
  rintro tl ⟨k1,k2,k3⟩;simp only[YD,kA,hu.1,hu.2,k1,k2];refine⟨rfl,rfl,λq=>?_⟩;rcases HV q with q|q
  .exact hu10 q
  .exact k3 q
 by_cases hl:97<=c/\c<=122
 .refine(Eq.symm (if_pos hl))▸?_;have h5:c<102:=by
   have:∀c∈kB,c<102:=by decide
   exact this c hc
  have:=sH (t%12) hk (c-97) (Nat.sub_lt_left_of_lt_add hl.1 h5);rw[Nat.add_sub_of_le hl.1]at this;exact key _ ⟨this.1,this.2.1,by simpa usingλq=>this.2.2 q.symm⟩
 .refine(Eq.symm (if_neg hl))▸?_;have h4:c∈[34,92,35,32]:=by
   have:∀c∈kB,¬(97<=c/\c<=122)->c∈[34,92,35,32]:=by decide
   exact this c hc hl
  have:=Gx c h4;refine key _ ⟨this.1,this.2,?_⟩;have:∀c∈([34,92,35,32]:List Nat),c≠10:=by decide
  simpa usingλq=>this c h4 q.symm
theorem YE{seed:Nat}(h:∀c∈pl,c∈kB):GS (DX pl seed).flatten=pl/\GD (DX pl seed).flatten=true/\10∉(DX pl seed).flatten:=by
 have hm:∀i,i<pl.length->pl.getD i 0∈kB:=λi hi=>by rw[List.getD_eq_getElem?_getD,List.getElem?_eq_getElem hi];exact h _ (List.getElem_mem hi)
 refine⟨?_,?_,?_⟩
 .simp only[VJ,DX,List.map_map];have:(List.range pl.length).map (GS∘ λi=>GU (pl.getD i 0) (seed*(i+1)+i))=(List.range pl.length).map λi=>[pl.getD i 0]:=
   List.map_congr_left λi hi=>(OC (hm i (List.mem_range.mp hi))).1
  rw[this];have e:(List.range pl.length).map (λi=>[pl.getD i 0])=pl.map λc=>[c]:=KM 0 (λc=>[c]) pl;rw[e];clear e this hm h;induction pl with
  |nil=>rfl
  |cons c r ih=>simp only[List.map_cons,List.flatten_cons,ih];rfl
 .unfold GD;rw[List.all_eq_true];intro x hx;obtain⟨l,hl,hx⟩:=List.mem_flatten.mp hx;obtain⟨i,hi,rfl⟩:=ID hl;exact CW (OC (hm i (List.mem_range.mp hi))).2.1 x hx
 .intro hx;obtain⟨l,hl,hx⟩:=List.mem_flatten.mp hx;obtain⟨i,hi,rfl⟩:=ID hl;exact(OC (hm i (List.mem_range.mp hi))).2.2 hx
theorem kC:∀k,k<8->∀h,h<5->∀c∈EN k h,c∈kB:=by decide
theorem kD{seed:Nat}(hn:pl.length<=10)(h0:pl≠[])(hp:∀c∈pl,c∈kB)
  (h:∀T gone line,(T=gone++[10]/\line=1\/T=gone/\line=2)->T.length<=100->Q (.v (.str (DX pl seed).flatten)) ⟨fr,CB az T gone line [] [.citer 16 70],lo⟩):
  FM (AX (n+151)) (.loc 16) "get_token" [] ⟨fr,CB az ([32]++CU pl seed q++[10]) [] 1 [] [],lo⟩ Q:=by
 have hw:=YE (seed:=seed) hp;have hl:=MU (name:=pl) (seed:=seed);have hs0:(DX pl seed).flatten≠[]:=λe=>h0 (by have:=hw.1;rw[e]at this;exact this.symm);refine eS rfl rfl rfl rfl rfl rfl ?_;by_cases hq:q=0
 .have e:[32]++CU pl seed q++[10]=JM (DX pl seed).flatten:=by unfold CU JM;rw[if_pos hq];rfl
  refine(Eq.symm e)▸?_;refine Nn (by lia) hs0 hw.2.2 λc hc=>?_;show Q _ ⟨fr,c.st,lo⟩;rw[hc];exact h _ _ _ (.inr ⟨rfl,rfl⟩) (by have:=EU GV (λc=>by unfold GV;exact Nat.le_refl _) (DX pl seed).flatten;simp only[JM,List.length_append,List.length_cons,List.length_nil];lia)
 .have e:[32]++CU pl seed q++[10]=EG (DX pl seed).flatten:=by unfold CU EG;rw[if_neg hq];simp
  refine(Eq.symm e)▸?_;refine sG (by lia) hw.2.2 λc hc=>?_;show Q _ ⟨fr,c.st,lo⟩;rw[hc];exact h _ _ _ (.inl ⟨by simp[EG],rfl⟩) (by have:=EU EO (λc=>by unfold EO;split<;>simp) (DX pl seed).flatten;simp only[EG,List.length_append,List.length_cons,List.length_nil];lia)
noncomputable def HR(home:Nat):List Bool:=(List.range 5).map λi=>decide (i=home)
theorem sI:∀k,k<8->∀h,h<5->(EN k h).map (λc=>decide ([c]=[32]))=HR h:=by decide
theorem bJ:∀h,h<5->(HR h).countP id=1/\(HR h).length=5/\JB ((HR h).getD h false)=1/\(∀j,j<h->JB ((HR h).getD j false)≠1)/\
  JB ((HR h).getD (if h=0 then 1 else 0) false)=0/\(∀j,j<(if h=0 then 1 else 0)->JB ((HR h).getD j false)≠0):=by decide
theorem sJ:∀k,k<8->(VH k).contains 32=false:=by decide
noncomputable abbrev Jk(v1 v2 v3 v5 v6:AV)(home:Nat)(ws tk pl:List Nat)(bs:List Bool):List (Str×AV):=
 [("script",v1),("cells",v2),("sizes",v3),("home",.int home),("tail",v5),("row",v6),("want",.flist (BK ws)),("tokens",.str tk),("plain",.str pl),("lexer",.loc 16),("blanks",.flist (bs.map .bool))]
theorem A0(m:Nat){home seed:Nat}{ws:List Nat}(hh:home<5)(hk:k<8)(Q:AB)
  (h:∀T gone line,(T=gone++[10]/\line=1\/T=gone/\line=2)->T.length<=100->
   AX (m+286) (.execs ((body 239).drop 14)) (bG (Jk v1 v2 v3 v5 v6 home ws (VH k) (EN k home) (HR home))
    (CB ⟨.dead,a1,.cell (some (.str (EN k home))),.cell none,.cell none,.cell none,a6,a7,a8⟩ T gone line [] [.citer 16 70]) 0) Q):
  AX (m+290) (.execs ((body 239).drop 10)) (bG (Jj v1 v2 v3 v5 v6 home ws (VH k) (EN k home)) (CB ⟨.dead,a1,.cell none,.cell none,.cell none,.cell none,a6,a7,a8⟩ (fI k home seed q) [] 1 [] []) 0) Q:=by
 have hpl:=fJ k hk home hh;have hnine:=kC k hk home hh;have hw:=YE (seed:=seed) hnine;have hl:=MU (name:=EN k home) (seed:=seed);have hb:=sI k hk home hh;have htb:=sJ k hk;rw[show fI k home seed q=[32]++CU (EN k home) seed q++[10]from rfl];generalize EN k home=pl at*;generalize VH k=tk at*;left;refine kD (by exact oB hpl.1) (by intro e;subst e;simp at hpl) hnine λT gone line hT hlen=>?_;have h:=h T gone line hT hlen;left;refine WF (by lia) hw.2.1 (by rw[hw.1];exact oB hpl.1) ?_;rw[hw.1];left;refine⟨λi=>[.bool (decide ([pl.getD i 0]=[32]))],rfl,?_,?_⟩
 .intro i x hx;simp only[AK,List.getElem?_map]at hx;obtain⟨c,h2,rfl⟩:=AZ hx;have hd:pl.getD i 0=c:=by rw[List.getD_eq_getElem?_getD,h2];rfl
  left;refine Ae ?_;left;refine⟨?_,rfl,rfl,Nat.zero_le _⟩;show _=[AV.bool (decide ([pl.getD i 0]=[32]))];rw[hd]
 rw[FF,show(AK pl).length=pl.length from List.length_map ..];have e1:(List.range pl.length).map (λi=>AV.bool (decide ([pl.getD i 0]=[32])))=(HR home).map .bool:=by rw[<-hb,List.map_map];exact KM 0 (λc=>AV.bool (decide ([c]=[32]))) pl
 rw[e1];have hbf:=bJ home hh;generalize HR home=bs at*;refine⟨by rw[List.length_map];exact oB hbf.2.1,?_⟩;left;refine AQ (λq=>?_) (λq=>?_)
 .have q:(!decide (pl=pl))=true:=q;rw[decide_eq_true rfl]at q;exact HE q
 clear q;left;refine AQ (λq=>?_) (λq=>?_)
 .have q:(!(!tk.contains 32))=true:=q;rw[htb]at q;exact HE q
 clear q;left;refine jZ ?_;rw[hbf.1];left;refine VI (i:=home) (by exact Nat.le_trans hh (Nat.le_of_eq hbf.2.1.symm)) hbf.2.2.1 hbf.2.2.2.1 ?_;left;refine VI (i:=if home=0 then 1 else 0) (by split<;>omega) hbf.2.2.2.2.1 hbf.2.2.2.2.2 ?_;left;refine AQ (λq=>?_) (λq=>?_)
 .have q:home≠0:=by have:=of_decide_eq_true q;lia
  refine(Eq.symm (if_neg q))▸?_;left;refine AQ (λq=>?_) (λq=>?_)
  .have q:(!(decide ((1:Int)=1)&&(decide ((home:Int)=home)&&(decide ((0:Int)=0)&&true))))=true:=q;simp at q
  exact GR h
 .have q:home=0:=by have:=of_decide_eq_false q;lia
  refine(Eq.symm (if_pos q))▸?_;left;refine AQ (λq=>?_) (λq=>?_)
  .have q:(!(decide ((1:Int)=1)&&(decide ((home:Int)=home)&&(decide ((1:Int)=1)&&true))))=true:=q;simp at q
  exact GR h
theorem sK{l:Nat}(h1:st[l]? =some (.list xs))(h:xs.length<=1000):TO st (.loc l)=some (!xs.isEmpty):=by show(BN st (.loc l)).bind _=_;rw[IU h1];exact if_pos h
noncomputable def FG(ws:List (List Nat)):List AV:=ws.map .str
theorem fL:(FG ws).length=ws.length:=List.length_map ..
theorem kG{l:Nat}{x:AV}(h:xs.length<=1000):SD "append" st l xs [x]=some (.none,st.set l (.list (xs++[x]))):=by have e:SD "append" st l xs [x]=if xs.length<=1000 then some (.none,st.set l (.list (xs++[x])))else none:=rfl;rw[e,if_pos h]
theorem Gy{l:Nat}{x:AV}(h:xs.length<=1000):SD "pop" st l (x::xs) [.int 0]=some (x,st.set l (.list xs)):=by have e:SD "pop" st l (x::xs) [.int 0]=if xs.length<=1000 then some (x,st.set l (.list xs))else none:=rfl;rw[e,if_pos h]
theorem YF{gone:List Nat}{line:Int}(hw:ws.length<=1000)
  (h:Q (.v .none) ⟨fr,CB az T gone line (FG (ws++[w])) ex,lo⟩):
  FM (AX (n+60)) (.loc 16) "push_token" [.str w] ⟨fr,CB az T gone line (FG ws) ex,lo⟩ Q:=by
 rw[show FG (ws++[w])=FG ws++[.str w]from List.map_append ..]at h;refine FM.mk ?_;left;refine SU rfl (kG (by rw[fL];exact hw)) ?_;exact h
theorem fM{gone:List Nat}{line:Int}(hw:ws.length<1000)
  (h:Q (.v (.str w)) ⟨fr,CB az T gone line (FG ws) ex,lo⟩):
  FM (AX (n+60)) (.loc 16) "get_token" [] ⟨fr,CB az T gone line (FG (w::ws)) ex,lo⟩ Q:=by
 refine FM.mk ?_;left;refine AE (sK rfl (by simp only[fL,List.length_cons];exact hw)) ?_;left;refine SU rfl (Gy (by rw[List.length_map];exact(Nat.le_of_lt hw))) ?_;exact h
theorem kH:BP T T=[]:=by unfold BP;rw[List.drop_eq_nil_iff,List.length_take];exact Nat.min_le_right _ _
noncomputable abbrev D8(L:List (Str×AV))(S:List AO)(lo:Nat):AC:=⟨⟨((DD 77).getD default).scope,("self",.loc 16)::("token",.str [])::("fiter",.loc 22)::L,[]⟩,S,lo⟩
inductive eI(az:A9)(T gone:List Nat)(e0 e1 e2:AO):Nat->AC->Prop
 |a (h:T=gone++[10]):eI az T gone e0 e1 e2 1 (D8 [] (CB az T gone 1 [] [e0,e1,e2,.citer 16 70]) 23)
 |b (L:List (Str×AV)):eI az T gone e0 e1 e2 0 (D8 L (CB az T T 2 [] [e0,e1,e2,.citer 16 70]) 23)
theorem sL{e0 e1 e2:AO}{gone:List Nat}{line:Int}(hT:T.length<=100)(hl:T=gone++[10]/\line=1\/T=gone/\line=2)
  (h:∀x,Q (.v (.str [])) ⟨fr,CB az T T 2 [] [e0,e1,e2,x],lo⟩):
  FM (AX (n+150)) (.loc 16) "get_token" [] ⟨fr,CB az T gone line [] [e0,e1,e2],lo⟩ Q:=by
 refine FM.mk ?_;left;refine⟨eI az T gone e0 e1 e2,if line=1 then 1 else 0,?_,?_⟩
 .rcases hl with⟨h1,rfl⟩|⟨rfl,rfl⟩
  .exact .a h1
  .exact .b []
 rintro m c2 (⟨h1⟩|⟨L⟩)
 .refine⟨rfl,rfl,?_⟩;have hp:BP T gone=[10]:=by rw[h1];exact GI
  refine AE rfl (AE rfl ?_);have hg:gone.length<=100:=by have:=congrArg List.length h1;rw[List.length_append]at this;exact oE hT (Nat.le_of_eq this.symm)
  refine FY hT hg λL=>?_;refine(Eq.symm hp)▸(Eq.symm (if_pos rfl))▸h1▸?_;left;exact⟨24-1,["self","token","fiter"],0,rfl,by decide,.b []⟩
 .refine⟨rfl,rfl,?_⟩;have hp:BP T T=[]:=kH;refine AE rfl (AE rfl ?_);refine FY hT hT λL=>?_;rw[hp,if_neg (by simp),List.append_nil];left;exact h _
noncomputable def SX(es:List (Nat×Nat))(p:Nat):List Nat:=(List.range es.length).flatMap λj=>if p=(es.getD j (0,0)).1\/p=(es.getD j (0,0)).2 then[(es.getD j (0,0)).1+(es.getD j (0,0)).2-p]else[]
noncomputable def VK(es:List (Nat×Nat)):AV:= .flist ((List.range 5).map λp=> .flist (BK (SX es p)))
noncomputable def FV(w:List Nat)(h p:Nat):List Nat:=(w.set h (w.getD p 0)).set p 32
noncomputable abbrev Dict:=List (List Nat×Int)
noncomputable def DV(D:Dict):List (AV×AV):=D.map λe=>(.str e.1,.int e.2)
noncomputable def EH(D:Dict)(t:List Nat):Bool:=D.any λe=>decide (e.1=t)
noncomputable def OD(t:List Nat)(i:Int):Dict->Dict
 |[]=>[(t,i)]
 |e::r=>if e.1=t then(e.1,i)::r else e::OD t i r
theorem kJ(t:List Nat)(D:Dict):∃o,TM (.str t) (DV D)=some o/\o.isSome=EH D t:=by
 induction D with
 |nil=>exact⟨none,rfl,rfl⟩
 |cons e r ih=>
  obtain⟨o,h1,h2⟩:=ih;have hx:TM (.str t) (DV (e::r))=cond (decide (e.1=t)) (some (some (.int e.2))) (TM (.str t) (DV r)):=rfl;rw[hx];show∃o:Option AV,_/\o.isSome=(decide (e.1=t)||EH r t);cases decide (e.1=t)with
  |true=>exact⟨_,rfl,rfl⟩
  |false=>exact⟨o,h1,h2⟩
theorem VL(hD:D≠[])(t:List Nat):∃o,IN (.str t) (DV D)=some o/\o.isSome=EH D t:=by
 cases D with
 |nil=>exact absurd rfl hD
 |cons e r=>exact kJ t (e::r)
theorem sM(t:List Nat)(i:Int)(D:Dict):NA (.str t) (.int i) (DV D)=DV (OD t i D):=by
 induction D with
 |nil=>rfl
 |cons e r ih=>
  have hx:NA (.str t) (.int i) (DV (e::r))=cond (decide (e.1=t)) ((.str e.1,.int i)::DV r) ((.str e.1,.int e.2)::NA (.str t) (.int i) (DV r)):=rfl;rw[hx,ih];show _=DV (if e.1=t then(e.1,i)::r else e::OD t i r);by_cases h:e.1=t
  .rw[decide_eq_true h,if_pos h];rfl
  .rw[decide_eq_false h,if_neg h];rfl
theorem YG{l:Nat}{g':Obj}{i:Int}(h1:st[l]? =some (.dict (DV D) g'))(hD:D≠[])(hl:D.length<=1000):
  ZC st (.loc l) (.str t) (.int i) g=some (st.set l (.dict (DV (OD t i D)) g)):=by
 obtain⟨o,h2,_⟩:=VL hD t;have e:Ci st (.loc l) (.str t) (.int i)=some (λg=>st.set l (.dict (DV (OD t i D)) g)):=by show(st[l]?).bind _=_;rw[h1];show(if Nat.ble (DV D).length 1000=true then(IN (.str t) (DV D)).map (λ_ g=>st.set l (.dict (NA (.str t) (.int i) (DV D)) g))else none)=_;rw[if_pos (Nat.ble_eq_true_of_le ((List.length_map ..).symm▸hl)),h2,sM];rfl
 exact congrArg (Option.map (· g)) e
theorem sN{l:Nat}(h1:st[l]? =some (.dict (DV D) g))(hD:D≠[]):GL st .NotIn (.str t) (.loc l)=some (!EH D t):=by show(pP st (.str t) (.loc l)).map (! ·)=_;show(BV (BN st (.loc l)) _ ((NE st (.loc l)).bind λes=>(IN (.str t) es).map (·.isSome))).map (! ·)=_;rw[MA h1,RF h1];obtain⟨o,h2,h3⟩:=VL hD t;show((IN (.str t) (DV D)).map (·.isSome)).map (! ·)=_;rw[h2,<-h3];rfl
theorem bK(x:Nat)(l:List Nat):∀i:Nat,CQ x l=some i->i<l.length:=by
 induction l with
 |nil=>exactλ_ h=>nomatch h
 |cons y r ih=>
  intro i h;rcases KE (show(if y=x then some 0 else(CQ x r).map (· +1))=some i from h)with⟨_,h⟩|⟨_,h⟩
  .exact sj h▸Nat.succ_pos _
  .obtain⟨j,h1,rfl⟩:=AZ h;exact Nat.succ_le_succ (ih j h1)
theorem Vp:blt st "sum" [BS e]=some (.int ((e.1:Int)+((e.2:Int)+0))):=rfl
theorem No:(SX es p).length<=es.length:=by exact Nat.le_trans (IW (λ_=>zY) _) (Nat.le_of_eq List.length_range)
noncomputable abbrev Ar(L:List (Str×AV))(w:List Nat):AF:=⟨((DD 205).getD default).scope,("lexer",.loc 16)::("word",.str w)::L,[("streets",20)]⟩
theorem Np{gone:List Nat}{line:Int}(hl:es.length<=6)
  (h:∀g,AX (n+210) (.execs ((body 205).drop 4)) ⟨Ar [("near",VK es),("holes",.loc 21),("text",.str w)] w,CB az T gone line (FG []) [.citer 16 70,.cell (some (BB es)),.dict (DV [(w,-1)]) g],20⟩ (GO ⟨fr,CB az T gone line [] [.citer 16 70],lo⟩ Q)):
  DI (AX (n+215)) (.fn 205) [.loc 16,.str w,BB es] ⟨fr,CB az T gone line [] [.citer 16 70],lo⟩ Q:=by
 refine DI.mk ?_;left;refine⟨λi=>[.flist (BK (SX es i))],rfl,?_,?_⟩
 .intro i x hx;obtain⟨h5⟩:=MQ hx;left;refine⟨λj=>if i=(es.getD j (0,0)).1\/i=(es.getD j (0,0)).2 then[.int (((es.getD j (0,0)).1+(es.getD j (0,0)).2-i:Nat):Int)]else[],rfl,?_,?_⟩
  .intro j x hx;rw[List.getElem?_map]at hx;obtain⟨⟨a,b⟩,hab,rfl⟩:=AZ hx;have hd:es.getD j (0,0)=(a,b):=by rw[List.getD_eq_getElem?_getD,hab];rfl
   left;refine AQ (λq=>?_) (λq=>?_)
   .have q:i=a\/i=b:=by simp at q;lia
    left;refine⟨?_,rfl,rfl,Nat.zero_le _⟩;show _=(if i=(es.getD j (0,0)).1\/i=(es.getD j (0,0)).2 then[AV.int (((es.getD j (0,0)).1+(es.getD j (0,0)).2-i:Nat):Int)]else[]);rw[hd,if_pos q];have:(([(a:Int),(b:Int)].sum-(i:Int)):Int)=((a+b-i:Nat):Int):=(congrArg (· -(i:Int)) (show[(a:Int),(b:Int)].sum=a+b by simp)).trans (A8 q);show[AV.int _]=[AV.int _];rw[this]
   .have q:¬(i=a\/i=b):=by simp at q;lia
    left;refine⟨?_,rfl,rfl,Nat.zero_le _⟩;show(if i=(es.getD j (0,0)).1\/i=(es.getD j (0,0)).2 then[AV.int (((es.getD j (0,0)).1+(es.getD j (0,0)).2-i:Nat):Int)]else[])=[];rw[hd,if_neg q]
  have hnear:(List.range (es.map BS).length).flatMap (λj=>if i=(es.getD j (0,0)).1\/i=(es.getD j (0,0)).2 then[AV.int (((es.getD j (0,0)).1+(es.getD j (0,0)).2-i:Nat):Int)]else[])=BK (SX es i):=by simp only[List.length_map,SX,BK,List.map_flatMap];congr 1;funext j;split<;>rfl
  rw[hnear];have hnl:(SX es i).length<=es.length:=No;refine⟨by simp only[BK,List.length_map];exact oA (Nat.le_trans hnl hl),?_⟩;left;exact cH (UZ _) ⟨rfl,rfl,rfl,Nat.le_refl _⟩
 rw[FF,show(GY 5).length=5 from rfl];refine⟨by simp,?_⟩;rw[show AV.flist ((List.range 5).map λi=>AV.flist (BK (SX es i)))=VK es from rfl];left;intro g;have h:=h g;left;refine YF (ws:=[]) (by decide) ?_;left;refine fM (ws:=[]) (by decide) ?_;refine AE rfl ?_;exact h
theorem PU:EH D t=true↔ ∃e∈D,e.1=t:=by unfold EH;rw[List.any_eq_true];simp
theorem fO{e:List Nat×Int}(h:e∈D):EH D e.1=true:=PU.mpr ⟨e,h,rfl⟩
theorem PV{t:List Nat}{i:Int}:∀{D:Dict},EH D t=false->OD t i D=D++[(t,i)]
 |[],_=>rfl
 |e::r,h=>by
  have h1:¬e.1=t:=λq=>by simp only[EH,List.any_cons,decide_eq_true q]at h;exact BZ h
  have h2:EH r t=false:=by simp only[EH,List.any_cons,decide_eq_false h1,Bool.false_or]at h;exact h
  rw[OD,if_neg h1,PV h2];rfl
theorem PW{t:List Nat}{i:Int}:∀{D:Dict} {e:List Nat×Int},(D.map (·.1)).Nodup->EH D t=true->e∈OD t i D->(e.1=t/\e.2=i)\/(e∈D/\e.1≠t)
 |[],_,_,h,_=>by simp[EH]at h
 |d::r,e,hn,h,he=>by
  simp only[OD]at he;simp only[List.map_cons,List.nodup_cons]at hn;split at he
  .next h1=>
   rcases AN he with rfl|he
   .exact .inl ⟨h1,rfl⟩
   .exact .inr ⟨.tail _ he,λq=>hn.1 (by rw[h1,<-q];exact List.mem_map_of_mem he)⟩
  .next h1=>
   rcases AN he with rfl|he
   .exact .inr ⟨.head _,h1⟩
   .have h2:EH r t=true:=by simp only[EH,List.any_cons,decide_eq_false h1,Bool.false_or]at h;exact h
    rcases PW hn.2 h2 he with h3|⟨h3,h4⟩
    .exact .inl h3
    .exact .inr ⟨.tail _ h3,h4⟩
theorem RJ{t:List Nat}{i:Int}:∀{D:Dict},EH D t=true->(OD t i D).map (·.1)=D.map (·.1)
 |[],h=>by simp[EH]at h
 |d::r,h=>by
  simp only[OD];split
  .next h1=>rfl
  .next h1=>
   have h2:EH r t=true:=by simp only[EH,List.any_cons,decide_eq_false h1,Bool.false_or]at h;exact h
   rw[List.map_cons,RJ h2];rfl
theorem sO{D':Dict}(h:D'.map (·.1)=D.map (·.1))(t:List Nat):EH D' t=EH D t:=by
 have:∀D:Dict,EH D t=(D.map (·.1)).any λw=>decide (w=t):=λD=>by rw[List.any_map];rfl
 simp only[this,this,h]
theorem YH{α:Type}[DecidableEq α]:∀{l S:List α},l.Nodup->(∀x∈l,x∈S)->l.length<=S.length
 |[],_,_,_=>Nat.zero_le _
 |x::r,S,hn,h=>by simp only[List.nodup_cons]at hn;have hx:x∈S:=h x (.head _);have h2:∀y∈r,y∈S.erase x:=λy hy=>(List.mem_erase_of_ne (λ(q:y=x)=>hn.1 (by rw[<-q];exact hy))).mpr (h y (.tail _ hy));have:=YH hn.2 h2;rw[List.length_erase_of_mem hx]at this;have:=List.length_pos_of_mem hx;exact Nat.add_le_of_le_sub (by assumption) (by assumption)
structure fP(es:List (Nat×Nat))(S:List (List Nat))(w0:List Nat):Prop where
 start:w0∈S
 len:S.length<=500
 ok:∀w∈S,w.length=5/\∃i,i<5/\CQ 32 w=some i/\∀p∈SX es i,p<5/\FV w i p∈S
structure MI(es:List (Nat×Nat))(S:List (List Nat))(w0:List Nat)(D:Dict)(todo:List (List Nat)):Prop where
 nd:(D.map (·.1)).Nodup
 sub:∀e∈D,e.1∈S
 st:EH D w0=true
 dn:∀e∈D,e.1∈todo\/∃i:Nat,CQ 32 e.1=some i/\e.2=i/\∀p∈SX es i,EH D (FV e.1 i p)=true
 tin:∀w∈todo,EH D w=true
 tl:todo.length<=D.length
theorem MI.len{es S w0 D todo}(h:MI es S w0 D todo):D.length<=S.length:=by have:=YH h.nd (λx hx=>by obtain⟨e,he,rfl⟩:=ID hx;exact h.sub e he);rwa[List.length_map]at this
theorem MI.ne{es S w0 D todo}(h:MI es S w0 D todo):D≠[]:=λq=>by have:=h.st;rw[q]at this;simp[EH]at this
theorem MI.inS{es S w0 D todo}(h:MI es S w0 D todo)(ht:EH D t=true):t∈S:=by obtain⟨e,he,rfl⟩:=PU.mp ht;exact h.sub e he
theorem MI.first{es S w0}(g:fP es S w0):MI es S w0 [(w0,-1)] [w0]where
 nd:=by simp
 sub:=by intro e he;rw[List.mem_singleton]at he;subst he;exact g.start
 st:=by simp[EH]
 dn:=by intro e he;rw[List.mem_singleton]at he;subst he;exact .inl (.head _)
 tin:=by intro w hw;rw[List.mem_singleton]at hw;subst hw;simp[EH]
 tl:=Nat.le_refl _
structure MJ(es:List (Nat×Nat))(S:List (List Nat))(w0:List Nat)(D:Dict)(q:List (List Nat))(t:List Nat)(i:Nat)(ps:List Nat):Prop where
 mi:MI es S w0 D (t::q)
 val:∀e∈D,e.1=t->e.2=i
 ps:∀p∈ps,EH D (FV t i p)=true
theorem MJ.first{es S w0 D q t i}(h:MI es S w0 D (t::q)):MJ es S w0 (OD t (i:Nat) D) q t i []:=by
 have ht:=h.tin t (.head _);have hk:=RJ (i:=(i:Int)) ht;have hh:=λw=>sO hk w;refine⟨⟨by rw[hk];exact h.nd,?_,by rw[hh];exact h.st,?_,λw hw=>by rw[hh];exact h.tin w hw,?_⟩,?_,λp hp=>nomatch hp⟩
 .intro e he;rcases PW h.nd ht he with h1|h1
  .rw[h1.1];exact h.inS ht
  .exact h.sub e h1.1
 .intro e he;rcases PW h.nd ht he with h1|h1
  .refine(Eq.symm h1.1)▸?_;exact .inl (.head _)
  .rcases h.dn e h1.1 with h2|⟨j,h2,h3,h4⟩
   .exact .inl h2
   .exact .inr ⟨j,h2,h3,λp hp=>by rw[hh];exact h4 p hp⟩
 .have:=congrArg List.length hk;rw[List.length_map,List.length_map]at this;rw[this];exact h.tl
 .intro e he h1;rcases PW h.nd ht he with h2|h2
  .exact h2.2
  .exact absurd h1 h2.2
theorem MJ.old{es S w0 D q t i ps p}(h:MJ es S w0 D q t i ps)(hp:EH D (FV t i p)=true):MJ es S w0 D q t i (ps++[p]):=
 ⟨h.mi,h.val,λx hx=>by
  rcases HV hx with hx|hx
  .exact h.ps x hx
  .rw[List.mem_singleton]at hx;subst hx;exact hp⟩
theorem MJ.new{es S w0 D q t i ps p}(h:MJ es S w0 D q t i ps)(hf:EH D (FV t i p)=false)(hS:FV t i p∈S):MJ es S w0 (OD (FV t i p) (-1) D) (q++[FV t i p]) t i (ps++[p]):=by
 rw[PV hf];generalize hx:FV t i p=f at*;have mono:∀w,EH D w=true->EH (D++[(f,-1)]) w=true:=λw hw=>by simp only[EH,List.any_append];simp only[EH]at hw;rw[hw];rfl
 have hff:EH (D++[(f,-1)]) f=true:=fO (e:=(f,-1)) (List.mem_append_right _ (.head _));have ht:=h.mi.tin t (.head _);refine⟨⟨?_,?_,mono _ h.mi.st,?_,?_,?_⟩,?_,?_⟩
 .simp only[List.map_append,List.nodup_append];refine⟨h.mi.nd,by simp,?_⟩;intro a ha b hb q;simp only[List.map_cons,List.map_nil,List.mem_singleton]at hb;obtain⟨e,he,rfl⟩:=ID ha;have:=fO he;rw[q,hb,hf]at this;exact HE this
 .intro e he;rcases HV he with he|he
  .exact h.mi.sub e he
  .rw[List.mem_singleton]at he;subst he;exact hS
 .intro e he;rcases HV he with he|he
  .rcases h.mi.dn e he with h2|⟨j,h2,h3,h4⟩
   .refine .inl ?_;rcases AN h2 with h2|h2
    .rw[h2];exact .head _
    .exact .tail _ (List.mem_append_left _ h2)
   .exact .inr ⟨j,h2,h3,λp hp=>mono _ (h4 p hp)⟩
  .rw[List.mem_singleton]at he;subst he;exact .inl (.tail _ (List.mem_append_right _ (.head _)))
 .intro w hw;rcases AN hw with rfl|hw
  .exact mono _ ht
  .rcases HV hw with hw|hw
   .exact mono _ (h.mi.tin w (.tail _ hw))
   .rw[List.mem_singleton]at hw;subst hw;exact hff
 .have:=h.mi.tl;simp only[List.length_cons,List.length_append,List.length_nil]at*;exact Nat.succ_le_succ this
 .intro e he h1;rcases HV he with he|he
  .exact h.val e he h1
  .rw[List.mem_singleton]at he;subst he;have h1:f=t:=h1;replace hf:=ht▸h1▸hf;exact BZ hf
 .intro x hx';rcases HV hx' with hx'|hx'
  .exact mono _ (h.ps x hx')
  .rw[List.mem_singleton]at hx';subst hx';rw[hx];exact hff
theorem MJ.last{es S w0 D q t}(h:MJ es S w0 D q t i (SX es i))(hi:CQ 32 t=some i):MI es S w0 D q:=by
 refine⟨h.mi.nd,h.mi.sub,h.mi.st,?_,λw hw=>h.mi.tin w (.tail _ hw),by have:=h.mi.tl;simp only[List.length_cons]at this;exact Nat.le_trans (Nat.le_add_right _ _) this⟩;intro e he;by_cases h1:e.1=t
 .exact .inr ⟨i,by rw[h1];exact hi,h.val e he h1,λp hp=>by rw[h1];exact h.ps p hp⟩
 .rcases h.mi.dn e he with h2|h2
  .rcases AN h2 with h2|h2
   .exact absurd h2 h1
   .exact .inl h2
  .exact .inr h2
theorem bL{l:Nat}{x:AV}(h1:c.st[l]? =some (.list xs))(hp:p<1000)(hx:xs[p]? =some x)(h:Q (.v x) c):DI (AX (n+20)) (.fn 28) [.loc l,.int (p:Int)] c Q:=by refine DI.mk ?_;left;refine AE (UX h1 hp hx) ?_;exact h
theorem sP{l:Nat}(h1:st[l]? =some (.list xs))(hp:p<1000)(hl:p<xs.length):ZC st (.loc l) (.int (p:Int)) v g=some (st.set l (.list (xs.set p v))):=by exact eU h1 hp hl
theorem PX{l:Nat}{ys:List AV}(h1:c.st[l]? =some (.list xs))(hp:p<1000)(hl:p<xs.length)(hy:xs.set p v=ys)(h:Q (.v .none) ⟨c.fr,c.st.set l (.list ys),c.lo⟩):DI (AX (n+20)) (.fn 42) [.loc l,.int (p:Int),v] c Q:=by subst hy;refine DI.mk ?_;left;intro g;refine AE (sP h1 hp hl) ?_;exact h
theorem kK(s:List Nat):join (AK s)=some s:=by
 induction s with
 |nil=>rfl
 |cons c r ih=>exact congrArg (Option.map ([c]++ ·)) ih
theorem As{l:Nat}(h1:st[l]? =some (.list (AK s)))(hl:s.length<=1000):gG "join" [] [.loc l] st=some (.str s):=by show(BN st (.loc l)).bind (λxs=>if xs.length<=1000 then(join xs).bind λt=>if t.length<=1000 then some (AV.str t)else none else none)=_;rw[IU h1];show(if(AK s).length<=1000 then(join (AK s)).bind λt=>if t.length<=1000 then some (AV.str t)else none else none)=_;rw[show(AK s).length=s.length from List.length_map ..,if_pos hl,kK];exact if_pos hl
theorem At(h:i<5):ZB st (VK es) (.int (i:Int))=some (.flist (BK (SX es i))):=
 CG (by exact oA h) (by
  have:i=0\/i=1\/i=2\/i=3\/i=4:=by exact Jp h
  rcases this with rfl|rfl|rfl|rfl|rfl<;>rfl)
theorem HI{α:Type}{f:α->AV}{k:Nat}(hf:∀x,(f x).lows k=true):∀xs:List α,lowss k (xs.map f)=true
 |[]=>rfl
 |x::r=>by simp only[List.map_cons,lowss,hf,HI hf r];rfl
theorem YI:(VK es).lows k=true:=HI (f:=λp=> .flist (BK (SX es p))) (λp=>(show lowss k (BK (SX es p))=true from HI (λ_=>rfl) _)) _
theorem bM:(BB es).lows k=true:=HI (λ_=>rfl) _
theorem sQ:lowss k (FG ws)=true:=HI (λ_=>rfl) _
theorem kM:lowss k (AK s)=true:=HI (λ_=>rfl) _
theorem sR:((DV D).all λe=>e.1.lows k&&e.2.lows k)=true:=by unfold DV;rw[List.all_map,List.all_eq_true];intro e _;rfl
noncomputable abbrev Au(az:A9)(T gone:List Nat)(line:Int)(q:List (List Nat))(es:List (Nat×Nat))(D:Dict)(g:Obj)(ex:List AO):List AO:=
 CB az T gone line (FG q) (.citer 16 70:: .cell (some (BB es)):: .dict (DV D) g::ex)
theorem kP{gone:List Nat}{line:Int}{q:List (List Nat)}(ha:JR 22 az.l=true):
  JR 22 (Au az T gone line q es D g [])=true:=by
 simp only[JR,List.all_cons,List.all_nil,Bool.and_true,Bool.and_eq_true]at ha⊢;obtain⟨h0,h1,h2,h3,h4,h5,h6,h7,h8⟩:=ha;exact⟨h0,h1,h2,h3,h4,h5,h6,h7,h8,rfl,rfl,rfl,rfl,rfl,kM,rfl,rfl,rfl,sQ,rfl,by show(BB es).lows 22=true;exact bM,sR⟩
noncomputable abbrev Gz(es:List (Nat×Nat))(t:List Nat)(L:List (Str×AV)):List (Str×AV):=("near",VK es)::("holes",.loc 21)::("text",.str t)::L
theorem Jl:WJ 22 (Ar (Gz es t []) w)=true:=by unfold WJ;rw[Bool.and_eq_true];refine⟨?_,rfl⟩;show(AV.lows 22 (.loc 16)&&(AV.lows 22 (.str w)&&((VK es).lows 22&&(AV.lows 22 (.loc 21)&&(AV.lows 22 (.str t)&&true)))))=true;rw[YI];rfl
theorem Nq{i:Int}:WJ 22 (Ar (Gz es t [("hole",.int i)]) w)=true:=by unfold WJ;rw[Bool.and_eq_true];refine⟨?_,rfl⟩;show(AV.lows 22 (.loc 16)&&(AV.lows 22 (.str w)&&((VK es).lows 22&&(AV.lows 22 (.loc 21)&&(AV.lows 22 (.str t)&&(true&&true))))))=true;rw[YI];rfl
theorem bN{L:List Str}(h1:JR k (c.trim k L).st=true)(h2:WJ k (c.trim k L).fr=true)(h3:k<=c.st.length)(h4:c.lo<=k):c.trimOk k L=true:=by unfold AC.trimOk;simp only[h1,h2,Nat.ble_eq_true_of_le h3,Nat.ble_eq_true_of_le h4];simp
theorem YJ{c:Nat}:(AK s).set p (.str [c])=AK (s.set p c):=by unfold AK;rw[List.map_set]
theorem sS(h:s.length<=1000):TO st (.str s)=some (!s.isEmpty):=by show(if s.length<=1000 then some (!s.isEmpty)else none)=_;rw[if_pos h]
inductive fQ(az:A9)(w T:List Nat)(es:List (Nat×Nat))(S:List (List Nat)):Nat->AC->Prop
 |go (D:Dict) (g:Obj) (q:List (List Nat)) (t gone:List Nat) (line:Int) (hl:T=gone++[10]/\line=1\/T=gone/\line=2) (h:MI es S w D (t::q)):
  fQ az w T es S (2*(S.length-D.length)+(q.length+1)) ⟨Ar (Gz es t []) w,Au az T gone line q es D g [],22⟩
 |fin (D:Dict) (g:Obj) (h:MI es S w D []):fQ az w T es S 0 ⟨Ar (Gz es [] []) w,Au az T T 2 [] es D g [],22⟩
inductive D9(az:A9)(w T t gone:List Nat)(line:Int)(es:List (Nat×Nat))(S:List (List Nat))(i d q0 j:Nat):AC->Prop
 |mk (D:Dict) (g:Obj) (q:List (List Nat)) (hJ:MJ es S w D q t i ((SX es i).take j)) (h1:D.length+q0=d+q.length) (h2:d<=D.length):
  D9 az w T t gone line es S i d q0 j ⟨Ar (Gz es t [("hole",.int i)]) w,Au az T gone line q es D g [],22⟩
theorem Nr{x:AO}{i:Int}(ha:JR 22 az.l=true)(h:MI es S w D [])(hm:0<m):
  ON (fQ az w T es S) (λm'=>m'<m) ⟨Ar (Gz es [] [("hole",.int i)]) w,Au az T T 2 [] es D g [x],22⟩:=
 ⟨22,["lexer","word","near","holes","text"],0,bN (kP ha) Jl (Nat.le_succ _) (Nat.le_refl _),hm,.fin D g h⟩
theorem Ha{gone:List Nat}{line:Int}{q:List (List Nat)}{i:Int}(ha:JR 22 az.l=true)(hl:T=gone++[10]/\line=1\/T=gone/\line=2)(h:MI es S w D (t::q))(hm:2*(S.length-D.length)+(q.length+1)<m):
  ON (fQ az w T es S) (λm'=>m'<m) ⟨Ar (Gz es t [("hole",.int i)]) w,Au az T gone line q es D g [],22⟩:=
 ⟨22,["lexer","word","near","holes","text"],_,bN (kP ha) Jl (Nat.le_refl _) (Nat.le_refl _),hm,.go D g q t gone line hl h⟩
theorem Nt{gone:List Nat}{line:Int}{P:AB}
  (ha:JR 22 az.l=true)(hT:T.length<=100)(hl:T=gone++[10]/\line=1\/T=gone/\line=2)(hG:fP es S w)
  (h:∀D g L,MI es S w D []->P (.f (.ret (.loc 21))) ⟨Ar L w,Au az T T 2 [] es D g [],20⟩):
  AX (n+210) (.execs ((body 205).drop 4)) ⟨Ar (Gz es w []) w,Au az T gone line [] es [(w,-1)] g [],20⟩ P:=by
 left;refine⟨fQ az w T es S,_,.go _ g [] w gone line hl (MI.first hG),?_⟩;rintro m _ (⟨D,g,q,t,gone,line,hl,hI⟩|⟨D,g,hI⟩)
 .refine⟨rfl,?_⟩;have htS:=hI.inS (hI.tin t (.head _));obtain⟨ht5,i,hi5,hix,hst⟩:=hG.ok t htS;have hDl:=hI.len;have hSl:=hG.len;left;refine AE (sS (by exact oB ht5)) ?_;refine AQ (λ_=>?_) (λq=>by
   cases t with
   |nil=>simp at ht5
   |cons=>simp at q)
  left;refine AE hix ?_;left;intro g1;refine AE (YG rfl hI.ne (by exact oA (Nat.le_trans hDl hSl))) ?_;left;refine AE (At hi5) ?_;have hJ:=MJ.first (i:=i) hI;have hk:=congrArg List.length (RJ (i:=(i:Int)) (hI.tin t (.head _)));rw[List.length_map,List.length_map]at hk;generalize OD t (i:Int) D=D1 at*;simp only[<-hk]at hDl;left;refine⟨_,rfl,rfl,QL.gen (D9 az w T t gone line es S i D1.length q.length) ⟨D1,g1,q,hJ,rfl,Nat.le_refl _⟩ ?_ ?_ ?_⟩
  .rintro j _ ⟨D,g,q',_,_,_⟩;exact⟨rfl,trivial⟩
  .intro j x c2 Q2 hx hQ2 hI3;simp only[BK,List.getElem?_map]at hx;obtain⟨p,hp,rfl⟩:=AZ hx;have htk:(SX es i).take (j+1)=(SX es i).take j++[p]:=by rw[List.take_add_one,hp];rfl
   obtain⟨hp5,hpS⟩:=hst p (List.mem_of_getElem? hp);obtain⟨D,g,q',hJ,hle,hle2⟩:=hI3;have hDl:=hJ.mi.len;have htl:=hJ.mi.tl;simp only[List.length_cons]at htl;have fin:∀D2 g2 q2,MJ es S w D2 q2 t i ((SX es i).take (j+1))->D2.length+q.length=D1.length+q2.length->D1.length<=D2.length->
     Q2 (.f .next) ⟨Ar (Gz es t [("hole",.int i),("place",.int p),("signs",.loc 22),("fresh",.str (FV t i p))]) w,Au az T gone line q2 es D2 g2 [.list (AK (FV t i p))],22⟩:=by
    intro D2 g2 q2 k1 k2 k3;exact hQ2 _ _ ⟨22,["lexer","word","near","holes","text","hole"],j+1,bN (kP ha) Nq (by exact Nat.le_add_right _ _) (Nat.le_refl _),rfl,⟨D2,g2,q2,k1,k2,k3⟩⟩
   left;refine cH (Nat.ble_eq_true_of_le (by exact oB ht5)) ?_;left;refine bL (xs:=AK t) (x:= .str [t.getD p 0]) rfl (by exact oA hp5) (by rw[AK,List.getElem?_map,List.getD_eq_getElem?_getD,List.getElem?_eq_getElem (by exact Nat.le_trans hp5 (Nat.le_of_eq ht5.symm))];rfl) ?_
   left;refine PX (xs:=AK t) rfl (by exact oA hi5) (by simp only[AK,List.length_map];exact Nat.le_trans hi5 (Nat.le_of_eq ht5.symm)) YJ ?_;left;refine PX (xs:=AK (t.set i (t.getD p 0))) rfl (by exact oA hp5) (by simp only[AK,List.length_map,List.length_set];exact Nat.le_trans hp5 (Nat.le_of_eq ht5.symm)) (ys:=AK (FV t i p)) YJ ?_;left;refine MP (As (s:=FV t i p) rfl (by simp only[FV,List.length_set];exact oB ht5)) ?_;left;refine AE (sN rfl hJ.mi.ne) ?_;refine AQ (λqq=>?_) (λqq=>?_)
   .have qq:EH D (FV t i p)=false:=by simpa using qq
    left;intro g2;refine AE (YG rfl hJ.mi.ne (by exact oA (Nat.le_trans hDl hSl))) ?_;left;refine YF (ws:=q') (oA (Nat.le_trans (Nat.le_of_succ_le htl) (Nat.le_trans hDl hSl))) ?_;refine fin (OD (FV t i p) (-1) D) g2 (q'++[FV t i p]) (by rw[htk];exact hJ.new qq hpS) ?_ ?_
    .rw[PV qq];simp only[List.length_append,List.length_cons,List.length_nil];exact oG hle
    .rw[PV qq];simp only[List.length_append,List.length_cons,List.length_nil];exact Nat.le_succ_of_le hle2
   .have qq:EH D (FV t i p)=true:=by simpa using qq
    refine fin D g q' (by rw[htk];exact hJ.old qq) hle hle2
  .rintro _ ⟨D,g,q',hJ,hle,hle2⟩;simp only[show(BK (SX es i)).length=(SX es i).length from List.length_map ..,List.take_length]at hJ;have hI2:=hJ.last hix;have hDl2:=hI2.len;have htl:=hI2.tl;left;cases q' with
   |nil=>refine sL hT hl λx=>?_;refine AE rfl ?_;exact Nr ha hI2 (by exact Nat.succ_pos _)
   |cons t2 q2=>rw[List.length_cons]at*;refine fM (ws:=q2) (Nat.lt_of_lt_of_le htl (oA (Nat.le_trans hDl2 hSl))) ?_;refine AE rfl ?_;exact Ha ha hl hI2 (by rw[<-hk];exact E6 hle2 hDl2 hle)
 .refine⟨rfl,?_⟩;left;exact h D g _ hI
theorem kQ{gone:List Nat}{line:Int}
  (hes:es.length<=6)(ha:JR 22 az.l=true)(hT:T.length<=100)(hl:T=gone++[10]/\line=1\/T=gone/\line=2)(hG:fP es S w)
  (h:∀D g,MI es S w D []->Q (.v (.loc 21)) ⟨fr,Au az T T 2 [] es D g [],lo⟩):
  DI (AX (n+215)) (.fn 205) [.loc 16,.str w,BB es] ⟨fr,CB az T gone line [] [.citer 16 70],lo⟩ Q:=
 Np hes λg=>Nt ha hT hl hG λD g L hI=>h D g hI
noncomputable def bO(D:Dict)(p:Int):Int:=(D.countP λe=>decide (e.2=p):Nat)
theorem count_ok(p:Int):∀D:Dict,OL p ((DV D).map (·.2))=some (bO D p)
 |[]=>rfl
 |e::r=>by
  show(OL p ((DV r).map (·.2))).map (λb=>(if e.2=p then 1 else 0)+b)=_;rw[count_ok p r];show some ((if e.2=p then 1 else 0)+bO r p)=_;unfold bO;rw[List.countP_cons];by_cases h:e.2=p
  .rw[if_pos h,if_pos (decide_eq_true h)];congr 1;simp+arith
  .rw[if_neg h,if_neg (by simpa using h)];congr 1;simp+arith
noncomputable def SB(s:List Nat):List (List Nat):=(DH (s.map λ(c:Nat)=>(c:Int))).map λi=>[i.toNat]
theorem YK(h:s.length<64):blt st "sorted" [.str s]=some (.flist (FG (SB s))):=by show(if 64<=s.length then none else some (AV.flist ((DH (s.map λ(c:Nat)=>(c:Int))).map λi=> .str [i.toNat])))=_;simp only[if_neg (by exact Nat.not_le_of_lt h),SB,FG,List.map_map];rfl
theorem kR(W:List (List Nat)):JC (KZ 3) (FG W) (FG W)=some true:=by
 induction W with
 |nil=>rfl
 |cons x r ih=>show((some (decide (x=x))).bind λa=>(JC (KZ 3) (FG r) (FG r)).map (a&& ·))=_;rw[ih,decide_eq_true rfl];rfl
theorem Hb{W:List (List Nat)}:GL st .NotEq (.flist (FG W)) (.flist (FG W))=some false:=by show(bif Nat.beq (FG W).length (FG W).length then JC (KZ 3) (FG W) (FG W)else some false).map (! ·)=_;rw[Nat.beq_refl,kR];rfl
theorem Nu:GL st .NotEq (.str s) (.str s)=some false:=by show(some (decide (s=s))).map (! ·)=_;rw[decide_eq_true rfl];rfl
structure Fin(es:List (Nat×Nat))(home:Nat)(w:List Nat)(D:Dict):Prop where
 cnt:(List.range 5).map (λp=>bO D (p:Nat))=IC es home
 srt:∀e∈D,e.1.length=5/\DH (e.1.map λ(c:Nat)=>(c:Int))=DH (w.map λ(c:Nat)=>(c:Int))
 stl:∀e∈D,∀p,p<5->(IC es home).getD p 0=0->e.1.getD p 0=w.getD p 0
noncomputable abbrev Ul(v1 v2 v3 v5 v6:AV)(home:Nat)(ws tk pl:List Nat)(bs:List Bool)(es:List (Nat×Nat))(sl:List Nat):List (Str×AV):=
 [("script",v1),("cells",v2),("sizes",v3),("home",.int home),("tail",v5),("row",v6),("want",.flist (BK ws)),("tokens",.str tk),("plain",.str pl),("lexer",.loc 16),("blanks",.flist (bs.map .bool)),
  ("streets",BB es),("holes",.loc 21),("signs",.flist (FG (SB pl))),("still",.flist (BK sl))]
noncomputable abbrev Um(v1 v2 v3 v5 v6:AV)(home:Nat)(ws tk pl:List Nat)(bs:List Bool)(a1 a6 a7 a8:AO)(T:List Nat)(es:List (Nat×Nat))(D:Dict)(g:Obj)(W:List Int)(found:List AV)(sl:List Nat)(tc:Option AV)(lo:Nat):AC:=
 bG (Ul v1 v2 v3 v5 v6 home ws tk pl bs es sl)
  (Au ⟨.dead,a1,.cell (some (.str pl)),.cell (some (.flist (AJ W))),.cell (some (.flist found)),.cell tc,a6,a7,a8⟩ T T 2 [] es D g []) lo
theorem A1(m:Nat){home:Nat}{ws tk gone:List Nat}{line:Int}{bs:List Bool}(hh:home<5)(hws:ws.length<=6)(hpl:pl.length=5)
  (ha:JR 22 [a1,a6,a7,a8]=true)(hT:T.length<=100)(hl:T=gone++[10]/\line=1\/T=gone/\line=2)
  (hes:∀e∈BU ws,e.1<5/\e.2<5)(hel:(BU ws).length<=6)
  (hG:fP (BU ws) S pl)(hW:RH (BU ws)=true)(hF:∀D,MI (BU ws) S pl D []->Fin (BU ws) home pl D)
  (Q:AB)(h:∀c,Q (.f (.ret (.bool true))) c):
  AX (m+286) (.execs ((body 239).drop 14)) (bG (Jk v1 v2 v3 v5 v6 home ws tk pl bs)
    (CB ⟨.dead,a1,.cell (some (.str pl)),.cell none,.cell none,.cell none,a6,a7,a8⟩ T gone line [] [.citer 16 70]) 0) Q:=by
 have ha2:JR 22 [.dead,a1,.cell (some (.str pl)),.cell none,.cell none,.cell none,a6,a7,a8]=true:=by simp only[JR,List.all_cons,List.all_nil,Bool.and_true,Bool.and_eq_true]at ha⊢;exact⟨rfl,ha.1,rfl,rfl,rfl,rfl,ha.2⟩
 left;refine bA hws ?_;generalize BU ws=es at*;refine AE rfl ?_;left;refine kQ hel ha2 hT hl hG λD g hI=>?_;have hF:=hF D hI;refine AE rfl ?_;left;refine rY hh hes hel hW ?_;left;have hDl:(DV D).length<=1000:=by have:=hI.len;have:=hG.len;rw[show(DV D).length=D.length from List.length_map ..];exact oA (Nat.le_trans ‹_› this)
 refine⟨hDl,?_⟩;have hcount:=λp=>count_ok p D;have hfl:frees ((DV D).map (·.2))=true:=by unfold DV;rw[List.map_map];exact HF (λ_=>rfl) D
 generalize hfd:(DV D).map (·.2)=found at*;left;refine⟨λi=>[.int (bO D (i:Nat))],rfl,?_,?_⟩
 .intro i x hx;obtain⟨h5⟩:=MQ hx;left;refine⟨AE (hcount i) ?_⟩;left;exact Nat.zero_le _
 have hWl:(IC es home).length=5:=by rfl
 have hc:(List.range (GY 5).length).flatMap (λi=>[AV.int (bO D (i:Nat))])=AJ (IC es home):=by simp only[FF,show(GY 5).length=5 from rfl,<-hF.cnt,AJ,List.map_map];rfl
 rw[hc];have hsrt:=hF.srt;have hstl:=hF.stl;clear hc hF hW;generalize IC es home=W at*;refine⟨by simp only[AJ,List.length_map];exact oB hWl,?_⟩;left;refine AE (Gv _) ?_;left;refine AE (YK (by exact oD (Nat.le_of_eq hpl))) ?_;left;have hst:∃sl:List Nat,sl=(List.range 5).flatMap (λi=>if W.getD i 0=0 then[i]else[]):=⟨_,rfl⟩;obtain⟨sl,hsl⟩:=hst;refine⟨λi=>if W.getD i 0=0 then[.int (i:Nat)]else[],rfl,?_,?_⟩
 .intro i x hx;obtain⟨h5⟩:=MQ hx;have h5:i<5:=h5;have hW2:(AJ W)[i]? =some (.int (W.getD i 0)):=by simp only[AJ,List.getElem?_map,List.getD_eq_getElem?_getD,List.getElem?_eq_getElem (by exact Nat.le_trans h5 (Nat.le_of_eq hWl.symm))];rfl
  left
  conv=>whnf
  refine AE (CG (by exact oA h5) hW2) ?_;left;refine AQ (λqq=>?_) (λqq=>?_)
  .have qq:W.getD i 0=0:=of_decide_eq_true qq;left;exact⟨(if_pos qq).symm,rfl,rfl,Nat.zero_le _⟩
  .have qq:¬W.getD i 0=0:=of_decide_eq_false qq;left;exact⟨(if_neg qq),rfl,rfl,Nat.zero_le _⟩
 have hc:(List.range (GY 5).length).flatMap (λi=>if W.getD i 0=0 then[AV.int (i:Nat)]else[])=BK sl:=by simp only[hsl,BK,List.map_flatMap,show(GY 5).length=5 from rfl];congr 1;funext i;split<;>rfl
 rw[hc];have hsl5:∀p∈sl,p<5/\W.getD p 0=0:=by
  intro p hp;rw[hsl]at hp;obtain⟨i,hi,hp⟩:=List.mem_flatMap.mp hp;have:=List.mem_range.mp hi;split at hp
  .rw[List.mem_singleton]at hp;subst hp;exact⟨this,by assumption⟩
  .exact absurd hp (List.not_mem_nil)
 have hsll:sl.length<=5:=by rw[hsl];exact IW (λ_=>zY) _
 clear hc hsl;refine⟨by simp only[BK,List.length_map];exact oA hsll,?_⟩;left;refine⟨_,rfl,rfl,QL.gen (λ_ c=>∃tc,c=Um v1 v2 v3 v5 v6 home ws tk pl bs a1 a6 a7 a8 T es D g W found sl tc 22) ⟨none,rfl⟩ ?_ ?_ ?_⟩
 .rintro j _ ⟨tc,rfl⟩;exact⟨rfl,rfl⟩
 .intro j x c2 Q2 hx hQ2 hI;simp only[DV,List.map_map,List.getElem?_map]at hx;obtain⟨e,he,rfl⟩:=AZ hx;have heD:=List.mem_of_getElem? he;obtain⟨hx1,hx2⟩:=hsrt e heD;have hx3:=hstl e heD;have hx4:SB e.1=SB pl:=by unfold SB;rw[hx2]
  obtain⟨t,te⟩:=e;have hx1:t.length=5:=hx1;have hx4:SB t=SB pl:=hx4;have hx3:∀p,p<5->W.getD p 0=0->t.getD p 0=pl.getD p 0:=hx3;obtain⟨tc,rfl⟩:=hI;left;refine AE (YK (by exact oD (Nat.le_of_eq ‹_›))) ?_;rw[hx4];left;refine AE (Hb) ?_;left;refine⟨λ_=>[],rfl,?_,?_⟩
  .intro j x hx;simp only[BK,List.getElem?_map]at hx;obtain⟨p,hp,rfl⟩:=AZ hx;obtain⟨hp5,hp0⟩:=hsl5 p (List.mem_of_getElem? hp);have hp3:=hx3 p hp5 hp0;left
   conv=>whnf
   refine AE (VF (c:=t.getD p 0) (by exact oA hp5) (by rw[List.getD_eq_getElem?_getD,List.getElem?_eq_getElem (by exact Nat.le_trans hp5 (Nat.le_of_eq ‹(t,te).fst.length=5›.symm))];rfl)) ?_;left;refine AE (VF (c:=pl.getD p 0) (by exact oA hp5) (by rw[List.getD_eq_getElem?_getD,List.getElem?_eq_getElem (by exact Nat.le_trans hp5 (Nat.le_of_eq hpl.symm))];rfl)) ?_;rw[hp3];left;show RL (GL _ .NotEq _ _) _ _;refine AE Nu ?_;left;exact Nat.zero_le _
  rw[show(List.range (BK sl).length).flatMap (λ_=>([]:List AV))=[]by
   induction List.range (BK sl).length with
   |nil=>rfl
   |cons x r ih=>rw[List.flatMap_cons,ih];rfl]
  refine⟨Nat.zero_le _,?_⟩;left;exact hQ2 _ _ ⟨22,["script","cells","sizes","home","tail","row","want","tokens","plain","lexer","blanks","streets","holes","signs","still"],_,rfl,rfl,some (.str t),rfl⟩
 .rintro _ ⟨tc,rfl⟩;left;exact h _
noncomputable def ER{α:Type}(n:Nat)(f:Nat->α):α:=Nat.rec (f 0) (λm _=>f (m+1)) n
theorem DY{α:Type}(n:Nat)(f:Nat->α):ER n f=f n:=by cases n<;>rfl
noncomputable def HY{α:Type}:List Nat->(List Nat->α)->α
 |[],k=>k []
 |x::r,k=>ER x λx=>HY r λr=>k (x::r)
theorem IM{α:Type}:∀(l:List Nat) (k:List Nat->α),HY l k=k l
 |[],_=>rfl
 |x::r,k=>by rw[HY,DY,IM r]
noncomputable def EX(n:Nat):List Nat:=[n%5,n/5%5,n/25%5,n/125%5,n/625%5]
noncomputable def Av(n p:Nat):Nat:=Nat.mod (Nat.div n (Nat.pow 5 p)) 5
noncomputable def FL(n:Nat):Nat:=match Nat.beq (Nat.mod n 5) 0 with
 |true=>0
 |false=>match Nat.beq (Av n 1) 0 with
  |true=>1
  |false=>match Nat.beq (Av n 2) 0 with
   |true=>2
   |false=>match Nat.beq (Av n 3) 0 with
    |true=>3
    |false=>4
noncomputable def NM(n h p:Nat):Nat:=ER (Av n p) λd=>Nat.sub (Nat.add n (Nat.mul d (Nat.pow 5 h))) (Nat.mul d (Nat.pow 5 p))
noncomputable def IZ(m p:Nat):Bool:=Nat.beq (Nat.land (Nat.shiftRight m p) 1) 1
noncomputable def Jm(mask h:Nat):Nat->List Nat->List Nat
 |0,l=>l
 |p+1,l=>match IZ mask (Nat.add (Nat.mul 5 h) p)with
  |true=>Jm mask h p (p::l)
  |false=>Jm mask h p l
noncomputable def Nv(mask h:Nat):List Nat:=Jm mask h 5 []
noncomputable def VM(n h:Nat):List Nat->List Nat
 |[]=>[]
 |p::r=>NM n h p::VM n h r
noncomputable def Hc(mask n:Nat):List Nat:=ER (FL n) λh=>VM n h (Nv mask h)
noncomputable def Nw(k:List Nat->Nat->List Nat):List Nat->List Nat->Nat->List Nat
 |[],r,s=>k r s
 |m::ms,r,s=>ER m λm=>match IZ s m with
  |true=>Nw k ms r s
  |false=>ER (Nat.lor s (Nat.shiftLeft 1 m)) λs=>Nw k ms (m::r) s
noncomputable def Nx(mask:Nat):Nat->List Nat->Nat->List Nat
 |0,_,_=>[]
 |_+1,[],_=>[]
 |f+1,n::r,s=>n::Nw (Nx mask f) (Hc mask n) r s
noncomputable def JN(mask p:Nat):Bool:=Nat.beq p 0|| !(Nv mask p).isEmpty
noncomputable def VN(c:Nat):List Nat->Bool
 |[]=>false
 |x::r=>match Nat.beq x c with
  |true=>true
  |false=>VN c r
noncomputable def bP(mask:Nat):List Nat->Nat->Bool
 |[],_=>true
 |n::r,s=>(!IZ s n&&(Hc mask n).any λm=>IZ s m&&VN n (Hc mask m))&&ER (Nat.lor s (Nat.shiftLeft 1 n)) λs=>bP mask r s
noncomputable def fR:List Nat->Nat->Nat
 |[],s=>s
 |n::r,s=>ER (Nat.lor s (Nat.shiftLeft 1 n)) λs=>fR r s
noncomputable def KT(n:Nat):Bool:=Nat.blt n 3125&&HY (EX n) λw=>VN 0 w&&VN 1 w&&VN 2 w&&VN 3 w&&VN 4 w
noncomputable def KN(p:Nat):List Nat->Nat
 |[]=>0
 |n::r=>match Nat.beq (FL n) p with
  |true=>Nat.succ (KN p r)
  |false=>KN p r
noncomputable def Aw(mask W:Nat):List Nat->Bool
 |[]=>false
 |c::r=>Nat.beq c 2930&&bP mask r (Nat.shiftLeft 1 c)&&
  (ER (fR (c::r) 0) λM=>(c::r).all λn=>(Hc mask n).all λm=>IZ M m)&&
  (c::r).all KT&&
  ((List.range 5).all λp=>Nat.beq (KN p (c::r)) (match JN mask p with|true=>W|false=>0))&&
  ((c::r).all λn=>(List.range 5).all λp=>JN mask p||Nat.beq ((EX n).getD p 0) p)&&
  Nat.ble (c::r).length 120
noncomputable def oW(mask W:Nat):Bool:=HY (Nx mask 130 [2930] (Nat.shiftLeft 1 2930)) λS=>Aw mask W S
noncomputable def KO{α:Type}:List (Nat×Nat)->(List (Nat×Nat)->α)->α
 |[],k=>k []
 |x::r,k=>ER x.1 λa=>ER x.2 λb=>KO r λr=>k ((a,b)::r)
theorem JZ{α:Type}:∀(l:List (Nat×Nat)) (k:List (Nat×Nat)->α),KO l k=k l
 |[],_=>rfl
 |x::r,k=>by rw[KO,DY,DY,JZ r]
noncomputable def YL:List Nat->Nat->Nat
 |[],_=>0
 |x::_,0=>x
 |_::r,i+1=>YL r i
noncomputable def Ax(v:Nat):List Nat->Nat->List Nat
 |[],_=>[]
 |_::r,0=>v::r
 |x::r,i+1=>x::Ax v r i
theorem HJ:∀(l:List Nat) (i:Nat),YL l i=l.getD i 0
 |[],_=>rfl
 |_::_,0=>rfl
 |_::r,i+1=>HJ r i
theorem bQ(v:Nat):∀(l:List Nat) (i:Nat),Ax v l i=l.set i v
 |[],_=>rfl
 |_::_,0=>rfl
 |x::r,i+1=>by simp only[Ax,bQ v r i];rfl
noncomputable def SL(a b:Nat):Nat:=match Nat.ble a b with
 |true=>a
 |false=>b
noncomputable def Hd(a b:Nat):Nat:=match Nat.ble a b with
 |true=>b
 |false=>a
noncomputable def HK(g:Nat)(ms:List Nat)(e:Nat×Nat):List Nat:=match Nat.beq g e.1||Nat.beq g e.2 with
 |true=>ms
 |false=>(ms.set e.1 (SL (ms.getD e.1 0) (ms.getD e.2 0))).set e.2 (SL (ms.getD e.1 0) (ms.getD e.2 0))
noncomputable def DN{α:Type}(g:Nat):List (Nat×Nat)->List Nat->(List Nat->α)->α
 |[],ms,k=>k ms
 |e::r,ms,k=>match Nat.beq (YL ms e.1) (YL ms e.2)with
  |true=>DN g r ms k
  |false=>match Nat.beq g e.1||Nat.beq g e.2 with
   |true=>DN g r ms k
   |false=>HY (Ax (SL (YL ms e.1) (YL ms e.2)) (Ax (SL (YL ms e.1) (YL ms e.2)) ms e.1) e.2) λms=>DN g r ms k
theorem VO:∀(ms:List Nat) (a:Nat),ms.set a (ms.getD a 0)=ms
 |[],_=>rfl
 |x::r,0=>rfl
 |x::r,a+1=>by simp only[List.set_cons_succ,List.getD_cons_succ,VO r a]
theorem sT(a:Nat):SL a a=a:=by unfold SL;cases Nat.ble a a<;>rfl
theorem WI{g:Nat}{ms:List Nat}(h:ms.getD e.1 0=ms.getD e.2 0):HK g ms e=ms:=by
 unfold HK;cases Nat.beq g e.1||Nat.beq g e.2 with
 |true=>rfl
 |false=>
  show(ms.set e.1 (SL (ms.getD e.1 0) (ms.getD e.2 0))).set e.2 (SL (ms.getD e.1 0) (ms.getD e.2 0))=ms;rw[h,sT];have:ms.set e.1 (ms.getD e.2 0)=ms:=by refine h▸?_;exact VO ms e.1
  rw[this];exact VO ms e.2
theorem fS{α:Type}{g:Nat}{r:List (Nat×Nat)}{ms:List Nat}{k:List Nat->α}:DN g (e::r) ms k=DN g r (HK g ms e) k:=by
 rw[DN,HJ,HJ];cases h:Nat.beq (ms.getD e.1 0) (ms.getD e.2 0)with
 |true=>simp only[WI (Nat.eq_of_beq_eq_true h)]
 |false=>
  rw[HK];cases Nat.beq g e.1||Nat.beq g e.2 with
  |true=>rfl
  |false=>show HY _ _=_;simp only[IM,bQ,bQ]
noncomputable def OE{α:Type}(es:List (Nat×Nat))(g:Nat)(k:List Nat->α):α:=
 DN g es [0,1,2,3,4] λm=>DN g es m λm=>DN g es m λm=>DN g es m k
noncomputable def MV(lo hi:Nat)(ks:List Nat):List Nat:=ks.map λk=>match Nat.beq k hi with
 |true=>lo
 |false=>k
noncomputable def KA(ms:List Nat)(a:Nat×Nat)(ks:List Nat)(b:Nat×Nat):List Nat:=match Nat.blt a.1 b.1&&Nat.beq (ms.getD a.2 0) (ms.getD b.2 0)with
 |true=>MV (SL (ks.getD a.1 0) (ks.getD b.1 0)) (Hd (ks.getD a.1 0) (ks.getD b.1 0)) ks
 |false=>ks
noncomputable def Ay{α:Type}(ms:List Nat)(a:Nat×Nat):List (Nat×Nat)->List Nat->(List Nat->α)->α
 |[],ks,k=>k ks
 |b::r,ks,k=>match Nat.blt a.1 b.1&&Nat.beq (YL ms a.2) (YL ms b.2)with
  |true=>HY (MV (SL (YL ks a.1) (YL ks b.1)) (Hd (YL ks a.1) (YL ks b.1)) ks) λks=>Ay ms a r ks k
  |false=>Ay ms a r ks k
theorem bR{α:Type}(ms:List Nat)(a:Nat×Nat):∀(l:List (Nat×Nat)) (ks:List Nat) (k:List Nat->α),Ay ms a l ks k=k (l.foldl (KA ms a) ks)
 |[],_,_=>rfl
 |b::r,ks,k=>by
  simp only[Ay,List.foldl_cons,KA,HJ,HJ,HJ,HJ];cases Nat.blt a.1 b.1&&Nat.beq (ms.getD a.2 0) (ms.getD b.2 0)with
  |true=>show HY _ _=_;simp only[IM,bR ms a r]
  |false=>exact bR ms a r ks k
noncomputable def fT{α:Type}(ms:List Nat)(near:List (Nat×Nat)):List (Nat×Nat)->List Nat->(List Nat->α)->α
 |[],ks,k=>k ks
 |a::r,ks,k=>Ay ms a near ks λks=>fT ms near r ks k
noncomputable def PY(ms:List Nat)(near:List (Nat×Nat))(ks:List Nat)(a:Nat×Nat):List Nat:=near.foldl (KA ms a) ks
theorem fU{α:Type}(ms:List Nat)(near:List (Nat×Nat)):∀(l:List (Nat×Nat)) (ks:List Nat) (k:List Nat->α),fT ms near l ks k=k (l.foldl (PY ms near) ks)
 |[],_,_=>rfl
 |a::r,ks,k=>by rw[fT,bR,fU ms near r];rfl
noncomputable def VP(p:Nat):Nat->List (Nat×Nat)->List (Nat×Nat)
 |_,[]=>[]
 |i,e::r=>match Nat.beq p e.1 with
  |true=>(i,e.2)::VP p (Nat.succ i) r
  |false=>match Nat.beq p e.2 with
   |true=>(i,e.1)::VP p (Nat.succ i) r
   |false=>VP p (Nat.succ i) r
theorem fV(p:Nat):∀(es:List (Nat×Nat)) (k:Nat),(List.range es.length).flatMap (λi=>if p=(es.getD i (0,0)).1\/p=(es.getD i (0,0)).2 then[(i+k,(es.getD i (0,0)).1+(es.getD i (0,0)).2-p)]else[])=VP p k es
 |[],_=>rfl
 |e::r,k=>by
  simp only[List.length_cons,List.range_succ_eq_map,List.flatMap_cons,List.flatMap_map];have ih:=fV p r (k+1);have e1:(λi=>if p=((e::r).getD (Nat.succ i) (0,0)).1\/p=((e::r).getD (Nat.succ i) (0,0)).2 then[(Nat.succ i+k,((e::r).getD (Nat.succ i) (0,0)).1+((e::r).getD (Nat.succ i) (0,0)).2-p)]else[])=
    (λi=>if p=(r.getD i (0,0)).1\/p=(r.getD i (0,0)).2 then[(i+(k+1),(r.getD i (0,0)).1+(r.getD i (0,0)).2-p)]else[]):=by
   funext i;rw[List.getD_cons_succ,show Nat.succ i+k=i+(k+1)by exact Nat.succ_add _ _]
  simp only[e1,ih,VP];show(if p=e.1\/p=e.2 then[(0+k,e.1+e.2-p)]else[])++_=_;rw[Nat.zero_add];cases h1:Nat.beq p e.1 with
  |true=>have:=Nat.eq_of_beq_eq_true h1;rw[if_pos (.inl this),this,Nat.add_sub_cancel_left];rfl
  |false=>
   have n1:¬p=e.1:=λq=>by rw[q,Nat.beq_refl]at h1;exact BZ h1
   cases h2:Nat.beq p e.2 with
   |true=>have:=Nat.eq_of_beq_eq_true h2;rw[if_pos (.inr this),this,Nat.add_sub_cancel];rfl
   |false=>
    have n2:¬p=e.2:=λq=>by rw[q,Nat.beq_refl]at h2;exact BZ h2
    rw[if_neg (by rintro(q|q)<;>contradiction)];rfl
theorem Az(es:List (Nat×Nat))(p:Nat):EY es p=VP p 0 es:=fV p es 0
noncomputable def placeN{α:Type}(es:List (Nat×Nat))(p:Nat)(ks:List Nat)(k:List Nat->α):α:=KO (VP p 0 es) λnear=>match near with
 |a::b::r=>OE es p λms=>fT ms (a::b::r) (a::b::r) ks k
 |_=>k ks
noncomputable def bS{α:Type}(es:List (Nat×Nat))(ks:List Nat)(k:List Nat->α):α:=
 placeN es 0 ks λks=>placeN es 1 ks λks=>placeN es 2 ks λks=>placeN es 3 ks λks=>placeN es 4 ks k
noncomputable def BC(ns:List Nat):List Int:=ns.map λ(n:Nat)=>(n:Int)
theorem DZ(ns:List Nat)(a:Nat):(BC ns).getD a 0=((ns.getD a 0:Nat):Int):=by unfold BC;rw[List.getD_eq_getElem?_getD,List.getD_eq_getElem?_getD,List.getElem?_map];cases ns[a]? <;>rfl
theorem oX(a b:Nat):((SL a b:Nat):Int)=min (a:Int) (b:Int):=by
 unfold SL;cases h:Nat.ble a b with
 |true=>have:=Nat.le_of_ble_eq_true h;exact(Int.min_eq_left (Int.ofNat_le.mpr this)).symm
 |false=>
  have:¬a<=b:=λq=>by rw[Nat.ble_eq_true_of_le q]at h;exact BZ h
  exact(Int.min_eq_right (Int.ofNat_le.mpr (Nat.le_of_not_le this))).symm
theorem He(a b:Nat):((Hd a b:Nat):Int)=max (a:Int) (b:Int):=by
 unfold Hd;cases h:Nat.ble a b with
 |true=>have:=Nat.le_of_ble_eq_true h;exact(Int.max_eq_right (Int.ofNat_le.mpr this)).symm
 |false=>
  have:¬a<=b:=λq=>by rw[Nat.ble_eq_true_of_le q]at h;exact BZ h
  exact(Int.max_eq_left (Int.ofNat_le.mpr (Nat.le_of_not_le this))).symm
theorem BL:Nat.beq a b=true↔a=b:=⟨Nat.eq_of_beq_eq_true,λh=>h▸Nat.beq_refl a⟩
theorem kU{g:Nat}{ms:List Nat}(hg:g'=e.1\/g'=e.2↔g=e.1\/g=e.2):EL g' (BC ms) e=BC (HK g ms e):=by
 unfold EL HK;cases h:Nat.beq g e.1||Nat.beq g e.2 with
 |true=>
  have:g=e.1\/g=e.2:=by simp only[Bool.or_eq_true,BL,BL]at h;exact h
  simp only[if_pos (hg.mpr this)]
 |false=>
  have:¬(g=e.1\/g=e.2):=λq=>by simp only[<-BL,<-BL,<-Bool.or_eq_true]at q;rw[q]at h;exact BZ h
  rw[if_neg (λq=>this (hg.mp q))];rw[DZ,DZ,<-oX];unfold BC;exact(Eq.symm List.map_set)▸(Eq.symm List.map_set)▸rfl
theorem FJ{α:Type}{g:Nat}{g':Int}{k:List Nat->α}:∀{es:List (Nat×Nat)} {ms:List Nat},∃ms',DN g es ms k=k ms'/\((∀e∈es,g'=e.1\/g'=e.2↔g=e.1\/g=e.2)->CH g' es (BC ms)=BC ms')
 |[],ms=>⟨ms,rfl,λ_=>rfl⟩
 |e::r,ms=>by obtain⟨ms',h1,h2⟩:=FJ (g:=g) (g':=g') (k:=k) (es:=r) (ms:=HK g ms e);refine⟨ms',by rw[fS,h1],λh=>?_⟩;show CH g' r (EL g' (BC ms) e)=_;rw[kU (h e (.head _))];exact h2 λe he=>h e (.tail _ he)
theorem sU{α:Type}{g:Nat}(k:List Nat->α)(h:∀e∈es,g'=e.1\/g'=e.2↔g=e.1\/g=e.2):∃ms,OE es g k=k ms/\AW es g'=BC ms:=by unfold OE AW;obtain⟨m1,a1,b1⟩:=FJ (g:=g) (g':=g') (es:=es) (ms:=[0,1,2,3,4]) (k:=λm=>DN g es m λm=>DN g es m λm=>DN g es m k);obtain⟨m2,a2,b2⟩:=FJ (g:=g) (g':=g') (es:=es) (ms:=m1) (k:=λm=>DN g es m λm=>DN g es m k);obtain⟨m3,a3,b3⟩:=FJ (g:=g) (g':=g') (es:=es) (ms:=m2) (k:=λm=>DN g es m k);obtain⟨m4,a4,b4⟩:=FJ (g:=g) (g':=g') (es:=es) (ms:=m3) (k:=k);refine⟨m4,by simp only[a1,a2,a3,a4],?_⟩;simp only[show([0,1,2,3,4]:List Int)=BC [0,1,2,3,4]from rfl,b1 h,b2 h,b3 h,b4 h]
theorem kV{hi:Nat}{ks:List Nat}:IV lo hi (BC ks)=BC (MV lo hi ks):=by
 unfold IV;have e:=KM (0:Int) (λk=>if k=(hi:Int)then(lo:Int)else k) (BC ks);rw[e];unfold BC MV;rw[List.map_map,List.map_map];refine List.map_congr_left λk _=>?_;show(if(k:Int)=(hi:Int)then(lo:Int)else(k:Int))=((match Nat.beq k hi with|true=>lo|false=>k:Nat):Int);cases h:Nat.beq k hi with
 |true=>rw[if_pos (by rw[BL.mp h])]
 |false=>rw[if_neg (λq=>by rw[BL.mpr (by exact Int.ofNat.inj q)]at h;exact BZ h)]
theorem kW{ms ks:List Nat}{a b:Nat×Nat}:EB (BC ms) a (BC ks) b=BC (KA ms a ks b):=by
 unfold EB KA;simp only[DZ,DZ,DZ,DZ,<-oX,<-He,kV];cases h:Nat.blt a.1 b.1&&Nat.beq (ms.getD a.2 0) (ms.getD b.2 0)with
 |true=>rw[Bool.and_eq_true]at h;have h1:a.1<b.1:=Nat.le_of_ble_eq_true h.1;rw[if_pos ⟨h1,by rw[BL.mp h.2]⟩]
 |false=>rw[if_neg];rintro⟨q1,q2⟩;replace h:=(BL.mpr (by exact Int.ofNat.inj q2))▸(show Nat.blt a.1 b.1=true from Nat.ble_eq_true_of_le q1)▸h;exact BZ h
theorem bT{β:Type}{f:List Int->β->List Int}{f':List Nat->β->List Nat}:∀(l:List β) (ks:List Nat),(∀ks,∀x∈l,f (BC ks) x=BC (f' ks x))->l.foldl f (BC ks)=BC (l.foldl f' ks)
 |[],_,_=>rfl
 |x::r,ks,h=>by simp only[List.foldl_cons,List.foldl_cons,h ks x (.head _)];exact bT r _ λks x hx=>h ks x (.tail _ hx)
theorem sV{ms ks:List Nat}{near:List (Nat×Nat)}{a:Nat×Nat}:II (BC ms) near (BC ks) a=BC (PY ms near ks a):=by unfold II PY;exact bT _ _ λks x _=>kW
theorem sW{a:Nat×Nat}:EB ms a ks a=ks:=by unfold EB;rw[if_neg (λq=>Nat.lt_irrefl _ q.1)]
theorem KB{α:Type}{ks:List Nat}(k:List Nat->α):∃ks',placeN es p ks k=k ks'/\CJ es (BC ks) p=BC ks':=by
 unfold CJ placeN;rw[JZ,<-Az]
 match hn:EY es p with
 |[]=>exact⟨ks,rfl,rfl⟩
 |[a]=>exact⟨ks,rfl,sW⟩
 |a::b::r=>
  obtain⟨ms,h1,h2⟩:=sU (g:=p) (g':=(p:Int)) (es:=es) (λms=>fT ms (a::b::r) (a::b::r) ks k) (λ_ _=>E5);refine⟨(a::b::r).foldl (PY ms (a::b::r)) ks,?_,?_⟩
  .show OE es p _=_;rw[h1,fU]
  .rw[h2];exact bT _ _ λks x _=>sV
theorem sX{α:Type}(k:List Nat->α):∃ks,bS es (List.range es.length) k=k ks/\CK es=BC ks:=by unfold bS;obtain⟨k0,a0,b0⟩:=KB (es:=es) (ks:=List.range es.length) (p:=0) (λks=>placeN es 1 ks λks=>placeN es 2 ks λks=>placeN es 3 ks λks=>placeN es 4 ks k);obtain⟨k1,a1,b1⟩:=KB (es:=es) (ks:=k0) (p:=1) (λks=>placeN es 2 ks λks=>placeN es 3 ks λks=>placeN es 4 ks k);obtain⟨k2,a2,b2⟩:=KB (es:=es) (ks:=k1) (p:=2) (λks=>placeN es 3 ks λks=>placeN es 4 ks k);obtain⟨k3,a3,b3⟩:=KB (es:=es) (ks:=k2) (p:=3) (λks=>placeN es 4 ks k);obtain⟨k4,a4,b4⟩:=KB (es:=es) (ks:=k3) (p:=4) k;refine⟨k4,by simp only[a0,a1,a2,a3,a4],?_⟩;show CJ es (CJ es (CJ es (CJ es (CJ es (BC (List.range es.length)) 0) 1) 2) 3) 4=_;simp only[b0,b1,b2,b3,b4]
theorem kX{α:Type}{g:Nat}(k:List Nat->α):∃ms,OE es g k=k ms/\((∀e∈es,g'=e.1\/g'=e.2↔g=e.1\/g=e.2)->AW es g'=BC ms):=by unfold OE AW;obtain⟨m1,a1,b1⟩:=FJ (g:=g) (g':=g') (es:=es) (ms:=[0,1,2,3,4]) (k:=λm=>DN g es m λm=>DN g es m λm=>DN g es m k);obtain⟨m2,a2,b2⟩:=FJ (g:=g) (g':=g') (es:=es) (ms:=m1) (k:=λm=>DN g es m λm=>DN g es m k);obtain⟨m3,a3,b3⟩:=FJ (g:=g) (g':=g') (es:=es) (ms:=m2) (k:=λm=>DN g es m k);obtain⟨m4,a4,b4⟩:=FJ (g:=g) (g':=g') (es:=es) (ms:=m3) (k:=k);refine⟨m4,by simp only[a1,a2,a3,a4],λh=>?_⟩;simp only[show([0,1,2,3,4]:List Int)=BC [0,1,2,3,4]from rfl,b1 h,b2 h,b3 h,b4 h]
noncomputable def insN(x:Nat):List Nat->List Nat
 |[]=>[x]
 |y::r=>match Nat.ble x y with
  |true=>x::y::r
  |false=>y::insN x r
noncomputable def MC:List Nat->List Nat
 |[]=>[]
 |x::r=>insN x (MC r)
noncomputable def JO:List Nat->List Nat
 |[]=>[]
 |x::r=>x::(JO r).filter λy=> !Nat.beq y x
theorem oY(x:Nat):∀l:List Nat,FB (x:Int) (BC l)=BC (insN x l)
 |[]=>rfl
 |y::r=>by
  show(if(x:Int)<=(y:Int)then(x:Int)::(y:Int)::BC r else(y:Int)::FB (x:Int) (BC r))=_;rw[insN,oY x r];cases h:Nat.ble x y with
  |true=>have:=Nat.le_of_ble_eq_true h;rw[if_pos (by exact Int.ofNat_le.mpr this)];rfl
  |false=>
   have:¬x<=y:=λq=>by rw[Nat.ble_eq_true_of_le q]at h;exact BZ h
   rw[if_neg (by lia)];rfl
theorem fW:∀l:List Nat,DH (BC l)=BC (MC l)
 |[]=>rfl
 |x::r=>by show FB (x:Int) (DH (BC r))=_;rw[fW r,oY];rfl
theorem YM:∀l:List Nat,FP (BC l)=BC (JO l)
 |[]=>rfl
 |x::r=>by
  show(x:Int)::(FP (BC r)).filter (· ≠(x:Int))=_;rw[YM r];show(x:Int)::(List.map (λ(n:Nat)=>(n:Int)) (JO r)).filter (· ≠(x:Int))=(x:Int)::List.map (λ(n:Nat)=>(n:Int)) ((JO r).filter λy=> !Nat.beq y x);rw[List.filter_map];congr 2;refine List.filter_congr λy _=>?_;show decide ((y:Int)≠(x:Int))= !Nat.beq y x;cases h:Nat.beq y x with
  |true=>rw[BL.mp h];simp
  |false=>
   have:y≠x:=λq=>by rw[BL.mpr q]at h;exact BZ h
   show decide _=true;exact decide_eq_true (by exact tI this)
noncomputable def GE:List (Nat×Nat)->List Nat->Nat->List (Nat×Nat)
 |e::r,k::t,l=>match Nat.beq k l with
  |true=>e::GE r t l
  |false=>GE r t l
 |_,_,_=>[]
theorem YN(l:Nat):∀(es:List (Nat×Nat)) (ks:List Nat),ks.length=es.length->HG es (BC ks) l=GE es ks l
 |[],[],_=>rfl
 |[],_::_,h=>nomatch h
 |_::_,[],h=>nomatch h
 |e::r,k::t,h=>by
  unfold HG;simp only[List.length_cons,List.range_succ_eq_map,List.flatMap_cons,List.flatMap_map];have ih:=YN l r t (Nat.succ.inj h);unfold HG at ih;show(if(k:Int)=(l:Int)then[e]else[])++_=_;have e1:(λj=>if(BC (k::t)).getD (Nat.succ j) 0=(l:Int)then[(e::r).getD (Nat.succ j) (0,0)]else[])=λj=>if(BC t).getD j 0=(l:Int)then[r.getD j (0,0)]else[]:=rfl;simp only[e1,ih,GE];cases hb:Nat.beq k l with
  |true=>rw[if_pos (by rw[BL.mp hb])];rfl
  |false=>rw[if_neg (λq=>by rw[BL.mpr (by exact Int.ofNat.inj q)]at hb;exact BZ hb)];rfl
noncomputable def DO(es:List (Nat×Nat)):Nat:=es.foldl (λm e=>Nat.lor (Nat.lor m (Nat.shiftLeft 1 (Nat.add (Nat.mul 5 e.1) e.2))) (Nat.shiftLeft 1 (Nat.add (Nat.mul 5 e.2) e.1))) 0
noncomputable def PZ(g:Nat):List (Nat×Nat)->Nat
 |[]=>0
 |e::r=>match Nat.beq e.1 g with
  |true=>e.2
  |false=>PZ g r
noncomputable def YO(es:List (Nat×Nat))(ks:List Nat):List Nat->Int
 |[]=>1
 |l::r=>KO (GE es ks l) λp=>YO es ks r*EQ p
noncomputable def YP(ms:List Nat)(p:List (Nat×Nat)):Bool:= !p.isEmpty&&(SW p&&Nat.ble (EQ p).natAbs 1000)&&Nat.beq (YL ms (p.getD 0 (0,0)).1) (YL ms 0)
noncomputable def YQ(g:Nat)(ms:List Nat)(h:Nat):Bool:=match JN g h with
 |true=>Nat.beq (YL ms h) (YL ms 0)
 |false=>[0,1,2,3,4].all λj=>Nat.beq j h|| !Nat.beq (YL ms j) (YL ms h)
noncomputable def VQ(T:List (Nat×Nat))(es0:List (Nat×Nat)):Bool:=KO es0 λes=>OE es 9 λms=>bS es (List.range es.length) λks=>ER (DO es) λg=>ER (PZ g T) λW=>
 !Nat.beq W 0&&Nat.ble es.length 6&&(es.all λe=>Nat.blt e.1 5&&Nat.blt e.2 5&& !Nat.beq e.1 e.2)&&
 HY (MC (JO ks)) λls=>(ls.all λl=>KO (GE es ks l) (YP ms))&&decide (YO es ks ls=(W:Int))&&[0,1,2,3,4].all (YQ g ms)
theorem MW(m p:Nat):IZ m p=m.testBit p:=by
 unfold IZ;simp only[show Nat.land (Nat.shiftRight m p) 1=(m>>>p)&&&1 from rfl,Nat.and_one_is_mod,Nat.shiftRight_eq_div_pow,Nat.testBit_eq_decide_div_mod_eq];cases h:Nat.beq (m/2^p%2) 1 with
 |true=>exact(decide_eq_true (BL.mp h)).symm
 |false=>exact(decide_eq_false λq=>by rw[BL.mpr q]at h;exact BZ h).symm
theorem oZ(n p:Nat):IZ (Nat.shiftLeft 1 n) p=decide (n=p):=by simp only[MW,show Nat.shiftLeft 1 n=1<<<n from rfl,Nat.one_shiftLeft,Nat.testBit_two_pow]
theorem SY(s n p:Nat):IZ (Nat.lor s (Nat.shiftLeft 1 n)) p=(IZ s p||decide (n=p)):=by rw[MW,show Nat.lor s (Nat.shiftLeft 1 n)=s|||Nat.shiftLeft 1 n from rfl,Nat.testBit_or,<-MW,<-MW,oZ]
theorem VR(c:Nat):∀l:List Nat,VN c l=true↔c∈l
 |[]=>by simp[VN]
 |x::r=>by
  simp only[VN];cases h:Nat.beq x c with
  |true=>simp[BL.mp h]
  |false=>
   have:¬x=c:=λq=>by rw[BL.mpr q]at h;exact BZ h
   show VN c r=true↔_;rw[VR c r,List.mem_cons];exact⟨.inr,λq=>q.resolve_left λq=>this q.symm⟩
theorem YR:∀(l:List Nat) (s p:Nat),IZ (fR l s) p=(IZ s p||decide (p∈l))
 |[],s,p=>by simp[fR]
 |n::r,s,p=>by
  simp only[fR,DY,YR r,SY];by_cases h1:n=p
  .subst h1;simp
  .have:¬p=n:=λq=>h1 q.symm;simp[h1,this]
structure Un(g W:Nat)(S:List Nat):Prop where
 hd:2930∈S
 nd:S.Nodup
 conn:∀X:Nat->Prop,(∀n∈S,X n->∀m∈Hc g n,m∈S->X m)->∀t∈S,X t->∀n∈S,X n
 closed:∀n∈S,∀m∈Hc g n,m∈S
 perm:∀n∈S,KT n=true
 cnt:∀p,p<5->KN p S=if JN g p=true then W else 0
 still:∀n∈S,∀p,p<5->JN g p=false->(EX n).getD p 0=p
 len:S.length<=120
theorem fX{g:Nat}:∀(r pre:List Nat) (s:Nat),(∀p,IZ s p=decide (p∈pre))->pre.Nodup->bP g r s=true->
  (pre++r).Nodup/\(∀(S:List Nat) (X:Nat->Prop),(∀a∈pre++r,a∈S)->(∀n∈S,X n->∀m∈Hc g n,m∈S->X m)->((∃t∈pre++r,X t)->∃a∈pre,X a)/\((∀a∈pre,X a)->∀n∈pre++r,X n))
 |[],pre,s,_,hn,_=>by refine(Eq.symm (List.append_nil _))▸?_;exact⟨hn,λS X _ _=>⟨λh=>h,λh=>h⟩⟩
 |n::r,pre,s,hs,hn,h=>by
  simp only[bP,DY,Bool.and_eq_true,Bool.and_eq_true]at h;obtain⟨⟨h1,h2⟩,h3⟩:=h;have hnp:n∉pre:=λq=>by simp only[hs n,decide_eq_true q]at h1;simp at h1
  obtain⟨m,hm,hm2⟩:=List.any_eq_true.mp h2;rw[Bool.and_eq_true,hs m,VR]at hm2;obtain⟨hmp,hnm⟩:=hm2;have hmp:=of_decide_eq_true hmp;have hs':∀p,IZ (Nat.lor s (Nat.shiftLeft 1 n)) p=decide (p∈pre++[n]):=by intro p;rw[SY,hs p];by_cases q1:p∈pre<;>by_cases q2:n=p<;>simp[q1,q2,eq_comm]
  have hn':(pre++[n]).Nodup:=by rw[List.nodup_append];exact⟨hn,by simp,λa ha b hb q=>by simp only[List.mem_singleton]at hb;exact hnp (by refine hb▸q▸?_;exact ha)⟩
  have ih:=fX r (pre++[n]) _ hs' hn' h3;rw[List.append_assoc,show[n]++r=n::r from rfl]at ih;refine⟨ih.1,λS X hS hX=>?_⟩;have ih2:=ih.2 S X hS hX;have hnS:n∈S:=hS n (List.mem_append_right _ (.head _));have hmS:m∈S:=hS m (List.mem_append_left _ hmp);refine⟨λht=>?_,λhp=>?_⟩
  .obtain⟨a,ha,hXa⟩:=ih2.1 ht;rcases HV ha with ha|ha
   .exact⟨a,ha,hXa⟩
   .rw[List.mem_singleton]at ha;subst ha;exact⟨m,hmp,hX a hnS hXa m hm hmS⟩
  .refine ih2.2 λa ha=>?_;rcases HV ha with ha|ha
   .exact hp a ha
   .rw[List.mem_singleton]at ha;subst ha;exact hX m hmS (hp m hmp) a hnm hnS
theorem Ba{g:Nat}(h:oW g W=true):∃S,Un g W S:=by
 rw[oW,IM]at h;generalize Nx g 130 [2930] (Nat.shiftLeft 1 2930)=S at h;cases S with
 |nil=>exact HE h
 |cons c r=>
  simp only[Aw]at h;simp only[Bool.and_eq_true,DY]at h;obtain⟨⟨⟨⟨⟨⟨h1,h2⟩,h3⟩,h4⟩,h5⟩,h6⟩,h7⟩:=h;have hc:=BL.mp h1;subst hc;have Te:=fX r [2930] (Nat.shiftLeft 1 2930) (λp=>by rw[oZ];exact decide_eq_decide.mpr ⟨λq=>List.mem_singleton.mpr q.symm,λq=>(AR q).symm⟩) (by simp) h2;refine⟨2930::r,⟨.head _,Te.1,?_,?_,?_,?_,?_,?_⟩⟩
  .intro X hX t ht hXt n hn;have:=Te.2 (2930::r) X (λa ha=>ha) hX;obtain⟨a,ha,hXa⟩:=this.1 ⟨t,ht,hXt⟩;exact this.2 (λb hb=>by rw[List.mem_singleton]at ha hb;rw[hb,<-ha];exact hXa) n hn
  .intro n hn m hm;have:=CW (CW h3 n hn) m hm;rw[YR]at this;simpa[MW]using this
  .exactλn hn=>CW h4 n hn
  .intro p hp;have:=CW h5 p (List.mem_range.mpr hp);rw[BL.mp this];cases JN g p<;>rfl
  .intro n hn p hp hv;have:=CW (CW h6 n hn) p (List.mem_range.mpr hp);rw[hv,Bool.false_or]at this;exact BL.mp this
  .exact Nat.le_of_ble_eq_true h7
theorem bU(g h p:Nat):∀(k:Nat) (l:List Nat),p∈Jm g h k l↔p∈l\/(p<k/\IZ g (5*h+p)=true)
 |0,l=>by simp[Jm]
 |k+1,l=>by
  simp only[Jm];cases hb:IZ g (Nat.add (Nat.mul 5 h) k)with
  |true=>
   have hb:IZ g (5*h+k)=true:=hb;show p∈Jm g h k (k::l)↔_;rw[bU g h p k (k::l),List.mem_cons];constructor
   .rintro((rfl|q)|⟨q1,q2⟩)
    .exact .inr ⟨Nat.lt_succ_self _,hb⟩
    .exact .inl q
    .exact .inr ⟨by exact Nat.le_succ_of_le q1,q2⟩
   .rintro(q|⟨q1,q2⟩)
    .exact .inl (.inr q)
    .by_cases e:p=k
     .exact .inl (.inl e)
     .exact .inr ⟨by exact Nat.lt_of_le_of_ne (Nat.le_of_lt_succ q1) e,q2⟩
  |false=>
   have hb:IZ g (5*h+k)=false:=hb;show p∈Jm g h k l↔_;rw[bU g h p k l];constructor
   .rintro(q|⟨q1,q2⟩)
    .exact .inl q
    .exact .inr ⟨by exact Nat.le_succ_of_le q1,q2⟩
   .rintro(q|⟨q1,q2⟩)
    .exact .inl q
    .refine .inr ⟨?_,q2⟩;have:p≠k:=λe=>by replace q2:=hb▸e▸q2;exact HE q2
     exact Nat.lt_of_le_of_ne (Nat.le_of_lt_succ q1) this
theorem pA{g:Nat}:p∈Nv g h↔p<5/\IZ g (5*h+p)=true:=by unfold Nv;rw[bU];simp
theorem YS(x:Nat):∀(es:List (Nat×Nat)) (m:Nat),IZ (es.foldl (λm e=>Nat.lor (Nat.lor m (Nat.shiftLeft 1 (Nat.add (Nat.mul 5 e.1) e.2))) (Nat.shiftLeft 1 (Nat.add (Nat.mul 5 e.2) e.1))) m) x=true↔
  IZ m x=true\/∃e∈es,x=5*e.1+e.2\/x=5*e.2+e.1
 |[],m=>by simp
 |e::r,m=>by
  simp only[List.foldl_cons,YS x r,SY,SY];have e1:Nat.add (Nat.mul 5 e.1) e.2=5*e.1+e.2:=rfl;have e2:Nat.add (Nat.mul 5 e.2) e.1=5*e.2+e.1:=rfl;refine(Eq.symm e1)▸(Eq.symm e2)▸?_;constructor
  .rintro(q|⟨d,hd,q⟩)
   .simp only[Bool.or_eq_true,Bool.or_eq_true,decide_eq_true_iff,decide_eq_true_iff]at q;rcases q with(q|q)|q
    .exact .inl q
    .exact .inr ⟨e,.head _,.inl q.symm⟩
    .exact .inr ⟨e,.head _,.inr q.symm⟩
   .exact .inr ⟨d,.tail _ hd,q⟩
  .rintro(q|⟨d,hd,q⟩)
   .exact .inl (by rw[q];rfl)
   .rcases AN hd with rfl|hd
    .refine .inl ?_;simp only[Bool.or_eq_true,Bool.or_eq_true,decide_eq_true_iff,decide_eq_true_iff];rcases q with q|q
     .exact .inl (.inr q.symm)
     .exact .inr q.symm
    .exact .inr ⟨d,hd,q⟩
theorem sY:IZ (DO es) x=true↔ ∃e∈es,x=5*e.1+e.2\/x=5*e.2+e.1:=by
 unfold DO;rw[YS];have:IZ 0 x=false:=by rw[MW];simp
 simp[this]
theorem Hf:p∈SX es h↔ ∃e∈es,(h=e.1\/h=e.2)/\p=e.1+e.2-h:=by
 unfold SX;rw[List.mem_flatMap];constructor
 .rintro⟨i,hi,hp⟩;have hi:=List.mem_range.mp hi;have hm:es.getD i (0,0)∈es:=by rw[List.getD_eq_getElem?_getD,List.getElem?_eq_getElem hi];exact List.getElem_mem hi
  split at hp
  .rw[List.mem_singleton]at hp;exact⟨_,hm,by assumption,hp⟩
  .exact absurd hp (List.not_mem_nil)
 .rintro⟨e,he,h1,h2⟩;obtain⟨i,hi,he⟩:=List.getElem_of_mem he;refine⟨i,List.mem_range.mpr hi,?_⟩;have:es.getD i (0,0)=e:=by rw[List.getD_eq_getElem?_getD,List.getElem?_eq_getElem hi,he];rfl
  rw[this,if_pos h1,List.mem_singleton];exact h2
theorem Ny(h:x<5):(x+5*y)%5=x:=(Nat.add_mul_mod_self_left x 5 y).trans (Nat.mod_eq_of_lt h)
theorem Nz(h:x<5):(x+5*y)/5=y:=(Nat.add_mul_div_left x y (Nat.succ_pos 4)).trans ((congrArg (· +y) (Nat.div_eq_of_lt h)).trans (Nat.zero_add y))
theorem fY{c:Nat}(hb:b<5)(hd:d<5)(h:5*a+b=5*c+d):a=c/\b=d:=by have h:b+5*a=d+5*c:=(Nat.add_comm ..).trans (h.trans (Nat.add_comm ..));exact⟨(Nz hb).symm.trans ((congrArg (· /5) h).trans (Nz hd)),(Ny hb).symm.trans ((congrArg (· %5) h).trans (Ny hd))⟩
theorem kY(hes:∀e∈es,e.1<5/\e.2<5)(hh:h<5):p∈SX es h↔p∈Nv (DO es) h:=by
 rw[pA,sY,Hf];constructor
 .rintro⟨e,he,rfl|rfl,rfl⟩
  .exact⟨by rw[Nat.add_sub_cancel_left];exact(hes e he).2,e,he,.inl (by rw[Nat.add_sub_cancel_left])⟩
  .exact⟨by rw[Nat.add_sub_cancel];exact(hes e he).1,e,he,.inr (by rw[Nat.add_sub_cancel])⟩
 .rintro⟨hp,e,he,h1|h1⟩
  .obtain⟨rfl,rfl⟩:=fY hp (hes e he).2 h1;exact⟨e,he,.inl rfl,(Nat.add_sub_cancel_left ..).symm⟩
  .obtain⟨rfl,rfl⟩:=fY hp (hes e he).1 h1;exact⟨e,he,.inr rfl,(Nat.add_sub_cancel ..).symm⟩
noncomputable def MD(l:List Nat):Nat:=l.rec 0 λx _ v=>x+5*v
noncomputable def Bb(k:Nat):Nat->List Nat:=k.rec (λ_=>[]) λ_ f n=>n%5::f (n/5)
theorem pB(k:Nat):∀n,∀c∈Bb k n,c<5:=by
 induction k with
 |zero=>exactλ_ _ h=>nomatch h
 |succ k ih=>exactλn c h=>(AN h).elim (λe=>e▸Nat.mod_lt _ (Nat.succ_pos 4)) (ih _ c)
theorem MX(n:Nat):EX n=Bb 5 n:=by show[n%5,n/5%5,n/25%5,n/125%5,n/625%5]=[n%5,n/5%5,n/5/5%5,n/5/5/5%5,n/5/5/5/5%5];rw[(Nat.div_div_eq_div_mul n 5 5:n/5/5=n/25),(Nat.div_div_eq_div_mul n 25 5:n/25/5=n/125),(Nat.div_div_eq_div_mul n 125 5:n/125/5=n/625)]
theorem Bc(k:Nat):∀n,n<5^k->MD (Bb k n)=n:=by
 induction k with
 |zero=>exactλn h=>(Nat.lt_one_iff.mp h).symm
 |succ k ih=>exactλn h=>(congrArg (n%5+5* ·) (ih (n/5) (Nat.div_lt_of_lt_mul (Nat.mul_comm .. ▸h)))).trans (Nat.mod_add_div n 5)
theorem Bd(l:List Nat):(∀x∈l,x<5)->MD l<5^l.length/\Bb l.length (MD l)=l:=by
 induction l with
 |nil=>exactλ_=>⟨Nat.one_pos,rfl⟩
 |cons x r ih=>
  intro h;have hx:=h x (.head _);have ih:=ih λy hy=>h y (.tail _ hy);refine⟨?_,?_⟩
  .show x+5*MD r<5^r.length*5;rw[Nat.mul_comm (5^_)];exact Nat.lt_of_lt_of_le (Nat.add_lt_add_right hx _) ((Nat.add_comm 5 (5*MD r))▸Nat.mul_le_mul_left 5 ih.1)
  .show(x+5*MD r)%5::Bb r.length ((x+5*MD r)/5)=x::r;rw[Ny hx,Nz hx,ih.2]
theorem SZ(hp:p<5):Av n p=(EX n).getD p 0:=by
 have:p=0\/p=1\/p=2\/p=3\/p=4:=by exact Jp hp
 rcases this with rfl|rfl|rfl|rfl|rfl
 .show n/5^0%5=n%5;simp only[Nat.pow_zero,Nat.div_one]
 all_goals rfl
theorem bV(hn:n<3125):MD (EX n)=n:=MX n▸Bc 5 n hn
theorem Be(hn:n<3125)(hm:m<3125)(h:EX n=EX m):n=m:=(bV hn).symm.trans (h▸bV hm)
theorem Hg{l:List Nat}(h5:l.length=5)(hl:∀x∈l,x<5):MD l<3125/\EX (MD l)=l:=by have h:=Bd l hl;rw[h5,<-MX]at h;exact h
theorem pD{v:Nat}{l:List Nat}:∀{h:Nat},h<l.length->MD (l.set h v)+l.getD h 0*5^h=MD l+v*5^h:=by
 induction l with
 |nil=>exactλh=>absurd h (Nat.not_lt_zero _)
 |cons x r ih=>
  intro h q;cases h with
  |zero=>show v+5*MD r+x*1=x+5*MD r+v*1;rw[Nat.mul_one,Nat.mul_one,Nat.add_right_comm,Nat.add_comm v x,Nat.add_right_comm]
  |succ h=>show x+5*MD (r.set h v)+r.getD h 0*(5^h*5)=x+5*MD r+v*(5^h*5);rw[<-Nat.mul_assoc,<-Nat.mul_assoc,Nat.mul_comm _ 5,Nat.mul_comm _ 5,Nat.add_assoc,Nat.add_assoc,<-Nat.mul_add,<-Nat.mul_add,ih (Nat.lt_of_succ_lt_succ q)]
theorem Bf(hn:n<3125)(hh:h<5)(hp:p<5)(h0:(EX n).getD h 0=0):NM n h p<3125/\EX (NM n h p)=((EX n).set h ((EX n).getD p 0)).set p 0:=by
 have hm:NM n h p=n+(EX n).getD p 0*5^h-(EX n).getD p 0*5^p:=by unfold NM;rw[DY,SZ hp];rfl
 have hl:∀x∈EX n,x<5:=by rw[MX];exact pB 5 n
 have hv:=bV hn;have h5:(EX n).length=5:=rfl;rw[hm];generalize EX n=l at*;have hd:l.getD p 0<5:=by rw[List.getD_eq_getElem?_getD,List.getElem?_eq_getElem (by exact Nat.le_trans hp (Nat.le_of_eq h5.symm))];exact hl _ (List.getElem_mem _)
 have hg:(l.set h (l.getD p 0)).getD p 0=l.getD p 0:=by
  rw[List.getD_eq_getElem?_getD,List.getElem?_set];split
  .rw[if_pos (by lia)];rfl
  .rfl
 generalize l.getD p 0=d at*;have v1:=pD (v:=d) (l:=l) (h:=h) (by exact Nat.le_trans hh (Nat.le_of_eq h5.symm));have v2:=pD (v:=0) (l:=l.set h d) (h:=p) (by rw[List.length_set];exact Nat.le_trans hp (Nat.le_of_eq h5.symm));replace v1:=hv▸h0▸v1;rw[hg]at v2;have e:n+d*5^h-d*5^p=MD ((l.set h d).set p 0):=by rw[Nat.zero_mul,Nat.add_zero]at v1 v2;rw[<-v1,<-v2,Nat.add_sub_cancel]
 rw[e];refine Hg (by rw[List.length_set,List.length_set,h5]) λx hx=>?_;rcases List.mem_or_eq_of_mem_set hx with hx|rfl
 .rcases List.mem_or_eq_of_mem_set hx with hx|rfl
  .exact hl x hx
  .exact hd
 .decide
theorem VS(h:KT n=true):n<3125:=by unfold KT at h;rw[Bool.and_eq_true]at h;exact Nat.le_of_ble_eq_true h.1
theorem KC(h:KT n=true){c:Nat}(hc:c<5):c∈EX n:=by
 unfold KT at h;rw[Bool.and_eq_true,IM]at h;simp only[Bool.and_eq_true,VR]at h;obtain⟨_,⟨⟨⟨h0,h1⟩,h2⟩,h3⟩,h4⟩:=h;have:c=0\/c=1\/c=2\/c=3\/c=4:=by exact Jp hc
 rcases this with rfl|rfl|rfl|rfl|rfl<;>assumption
theorem pE{α:Type}[DecidableEq α]:∀{l w:List α},l.Nodup->(∀x∈l,x∈w)->w.length<=l.length->l.Perm w
 |[],w,_,_,h=>by have:w=[]:=List.length_eq_zero_iff.mp (Nat.le_zero.mp h);rw[this]
 |x::r,w,hn,hs,hl=>by
  simp only[List.nodup_cons]at hn;have hx:x∈w:=hs x (.head _);have ih:r.Perm (w.erase x):=pE hn.2 (λy hy=>(List.mem_erase_of_ne (λ(q:y=x)=>hn.1 (by rw[<-q];exact hy))).mpr (hs y (.tail _ hy))) (by rw[List.length_erase_of_mem hx];exact Nat.sub_le_of_le_add hl)
  exact(List.Perm.cons x ih).trans (List.perm_cons_erase hx).symm
theorem OF(h:KT n=true):[0,1,2,3,4].Perm (EX n):=
 pE (by decide) (λx hx=>KC h (by
  have:∀x∈[0,1,2,3,4],x<5:=by decide
  exact this x hx)) (Nat.le_refl _)
theorem JH(h:KT n=true):(EX n).Nodup:=(OF h).nodup_iff.mp (by decide)
theorem MY(n:Nat):(EX n).length=5:=rfl
theorem kZ:∀c∈EX n,c<5:=by rw[MX];exact pB 5 n
theorem HL{l:List Nat}:∀{i:Nat},l.Nodup->l[i]? =some x->CQ x l=some i:=by
 induction l with
 |nil=>exactλ_ h=>BJ h
 |cons y r ih=>
  intro i hn h;cases i with
  |zero=>exact if_pos (sj h)
  |succ i=>have hn:=List.nodup_cons.mp hn;exact(if_neg λq:y=x=>hn.1 (q▸List.mem_of_getElem? h)).trans (congrArg (Option.map (· +1)) (ih hn.2 h))
theorem HM{l:List Nat}:∀{i:Nat},CQ x l=some i->l[i]? =some x:=by
 induction l with
 |nil=>exactλh=>nomatch h
 |cons y r ih=>
  intro i h;rcases KE (show(if y=x then some 0 else(CQ x r).map (· +1))=some i from h)with⟨q,h⟩|⟨_,h⟩
  .exact sj h▸congrArg some q
  .obtain⟨j,hj,rfl⟩:=AZ h;exact ih hj
theorem bW{l:List Nat}(h:x∈l):∃i,CQ x l=some i:=by
 induction l with
 |nil=>exact nomatch h
 |cons y r ih=>
  by_cases q:y=x
  .exact⟨0,if_pos q⟩
  .obtain⟨i,hi⟩:=ih ((AN h).resolve_left λe=>q e.symm);exact⟨i+1,(if_neg q).trans (congrArg (Option.map (· +1)) hi)⟩
theorem HN(h:KT n=true):CQ 0 (EX n)=some (FL n)/\FL n<5/\(EX n).getD (FL n) 0=0:=by
 obtain⟨i,hi⟩:=bW (KC h (c:=0) (by exact Nat.succ_pos _));have hg:=HM hi;have hl:=bK _ _ _ hi;have hn:=JH h;have key:CQ 0 (EX n)=some (FL n):=by
  have h0:(0:Nat)∈EX n:=KC h (by exact Nat.succ_pos _);unfold FL;rw[show Nat.mod n 5=(EX n).getD 0 0 from rfl,SZ (by decide),SZ (by decide),SZ (by exact Nat.le_succ _)];have hd:∃a b c d e,EX n=[a,b,c,d,e]:=⟨_,_,_,_,_,rfl⟩;obtain⟨a,b,c,d,e,hd⟩:=hd;rw[hd]at h0⊢;simp only[List.getD_cons_zero,List.getD_cons_succ];have bz:∀x:Nat,Nat.beq x 0=true/\x=0\/Nat.beq x 0=false/\x≠0:=λx=>by cases x<;>simp[Nat.beq]
  rcases bz a with⟨q,ha⟩|⟨q,ha⟩<;>rw[q]
  .rw[ha];rfl
  rcases bz b with⟨q,hb⟩|⟨q,hb⟩<;>refine(Eq.symm q)▸?_
  .rw[hb];exact if_neg ha
  rcases bz c with⟨q,hc⟩|⟨q,hc⟩<;>refine(Eq.symm q)▸?_
  .rw[hc];simp[CQ,ha,hb]
  rcases bz d with⟨q,hd⟩|⟨q,hd⟩<;>refine(Eq.symm q)▸?_
  .rw[hd];simp[CQ,ha,hb,hc]
  have he:e=0:=by
   simp only[List.mem_cons,List.not_mem_nil,or_false]at h0;rcases h0 with h0|h0|h0|h0|h0
   .exact absurd h0.symm ha
   .exact absurd h0.symm hb
   .exact absurd h0.symm hc
   .exact absurd h0.symm hd
   .exact h0.symm
  rw[he];simp[CQ,ha,hb,hc,hd]
 refine⟨key,?_,?_⟩
 .exact bK _ _ _ key
 .rw[List.getD_eq_getElem?_getD,HM key];rfl
theorem Vq(h:KT n=true)(hi:(EX n)[i]? =some 0):FL n=i:=by have:=HL (JH h) hi;rw[(HN h).1]at this;exact Option.some.inj this
noncomputable def FW(f:Nat->Nat)(n:Nat):List Nat:=(EX n).map f
theorem pF{f:Nat->Nat}(hf:∀a<5,∀b<5,f a=f b->a=b):∀{l m:List Nat},(∀c∈l,c<5)->(∀c∈m,c<5)->l.map f=m.map f->l=m
 |[],[],_,_,_=>rfl
 |[],_::_,_,_,h=>by simp at h
 |_::_,[],_,_,h=>by simp at h
 |a::l,b::m,hl,hm,h=>by rw[List.map_cons,List.map_cons,List.cons.injEq]at h;rw[hf a (hl a (.head _)) b (hm b (.head _)) h.1,pF hf (λc hc=>hl c (.tail _ hc)) (λc hc=>hm c (.tail _ hc)) h.2]
theorem Bg(hf:∀a<5,∀b<5,f a=f b->a=b)(hn:n<3125)(hm:m<3125)(h:FW f n=FW f m):n=m:=
 Be hn hm (pF hf kZ kZ h)
theorem VT(hf:∀a<5,∀b<5,f a=f b->a=b)(f0:f 0=32)(h:KT n=true):CQ 32 (FW f n)=some (FL n):=by
 have hg:=HM (HN h).1;have hn:(FW f n).Nodup:=by
  unfold FW;have h1:=JH h;have h2:= @kZ n;generalize EX n=l at h1 h2;clear hg h;induction l with
  |nil=>exact .nil
  |cons x r ih=>simp only[List.nodup_cons]at h1;rw[List.map_cons,List.nodup_cons];refine⟨λq=>?_,ih h1.2 λc hc=>h2 c (.tail _ hc)⟩;obtain⟨y,hy,e⟩:=ID q;exact h1.1 (by rw[<-hf y (h2 y (.tail _ hy)) x (h2 x (.head _)) e];exact hy)
 refine HL hn ?_;simp only[FW,List.getElem?_map,hg];show some (f 0)=_;rw[f0]
theorem VU{l:List Nat}(h:p<l.length):(l.map f).getD p 0=f (l.getD p 0):=by rw[List.getD_eq_getElem?_getD,List.getD_eq_getElem?_getD,List.getElem?_map,List.getElem?_eq_getElem h];rfl
theorem sZ(f0:f 0=32)(h:KT n=true)(hp:p<5):FV (FW f n) (FL n) p=FW f (NM n (FL n) p):=by obtain⟨_,hh,h0⟩:=HN h;unfold FV FW;rw[(Bf (VS h) hh hp h0).2,List.map_set,List.map_set,VU (by simp only[MY];exact hp),f0]
theorem YT{n h m:Nat}:∀{l:List Nat},m∈VM n h l↔ ∃p∈l,m=NM n h p
 |[]=>by simp[VM]
 |p::r=>by rw[VM,List.mem_cons,YT];simp
theorem pG{g:Nat}:m∈Hc g n↔ ∃p∈Nv g (FL n),m=NM n (FL n) p:=by unfold Hc;rw[DY];exact YT
theorem YU(x y:Int):∀l:List Int,FB x (FB y l)=FB y (FB x l)
 |[]=>by
  show(if x<=y then[x,y]else[y,x])=if y<=x then[y,x]else[x,y];by_cases h1:x<=y<;>by_cases h2:y<=x
  .rw[if_pos h1,if_pos h2,show x=y by exact Int.le_antisymm h1 h2]
  .rw[if_pos h1,if_neg h2]
  .rw[if_neg h1,if_pos h2]
  .lia
 |z::r=>by
  have ih:=YU x y r;show FB x (if y<=z then y::z::r else z::FB y r)=FB y (if x<=z then x::z::r else z::FB x r);by_cases h1:y<=z<;>by_cases h2:x<=z
  .rw[if_pos h1,if_pos h2];show(if x<=y then x::y::z::r else y::(if x<=z then x::z::r else z::FB x r))=(if y<=x then y::x::z::r else x::(if y<=z then y::z::r else z::FB y r));rw[if_pos h1,if_pos h2];by_cases h3:x<=y<;>by_cases h4:y<=x
   .rw[if_pos h3,if_pos h4,show x=y by exact Int.le_antisymm h3 h4]
   .rw[if_pos h3,if_neg h4]
   .rw[if_neg h3,if_pos h4]
   .lia
  .rw[if_pos h1,if_neg h2];show(if x<=y then x::y::z::r else y::(if x<=z then x::z::r else z::FB x r))=(if y<=z then y::z::FB x r else z::FB y (FB x r));rw[if_neg (by lia),if_neg h2,if_pos h1]
  .rw[if_neg h1,if_pos h2];show(if x<=z then x::z::FB y r else z::FB x (FB y r))=(if y<=x then y::x::z::r else x::(if y<=z then y::z::r else z::FB y r));rw[if_pos h2,if_neg (by lia),if_neg h1]
  .rw[if_neg h1,if_neg h2];show(if x<=z then x::z::FB y r else z::FB x (FB y r))=(if y<=z then y::z::FB x r else z::FB y (FB x r));rw[if_neg h1,if_neg h2,ih]
theorem sortI_perm{l m:List Int}(h:l.Perm m):DH l=DH m:=by
 induction h with
 |nil=>rfl
 |cons x _ ih=>exact congrArg (FB x) ih
 |swap x y l=>exact(YU y x (DH l))
 |trans _ _ h1 h2=>rw[h1,h2]
theorem YV{p:Nat}:∀{S:List Nat},KN p S≠0->∃t∈S,FL t=p
 |[],h=>absurd rfl h
 |n::r,h=>by
  simp only[KN]at h;cases hb:Nat.beq (FL n) p with
  |true=>exact⟨n,.head _,BL.mp hb⟩
  |false=>rw[hb]at h;obtain⟨t,ht,e⟩:=YV (S:=r) h;exact⟨t,.tail _ ht,e⟩
theorem pH{p:Nat}:∀{S:List Nat},S.countP (λn=>decide (FL n=p))=KN p S
 |[]=>rfl
 |n::r=>by
  rw[KN,List.countP_cons,pH];cases hb:Nat.beq (FL n) p with
  |true=>simp only[if_pos (decide_eq_true (BL.mp hb))]
  |false=>rw[if_neg (by simpa usingλq=>by rw[BL.mpr q]at hb;exact BZ hb)];rfl
theorem YW{f:Nat->List Nat}:∀{l:List Nat},(∀a∈l,∀b∈l,f a=f b->a=b)->l.Nodup->(l.map f).Nodup
 |[],_,_=> .nil
 |x::r,hf,hn=>by rw[List.nodup_cons]at hn;simp only[List.map_cons,List.nodup_cons];refine⟨λq=>?_,YW (λa ha b hb=>hf a (.tail _ ha) b (.tail _ hb)) hn.2⟩;obtain⟨y,hy,e⟩:=ID q;exact hn.1 (by rw[<-hf y (.tail _ hy) x (.head _) e];exact hy)
theorem Hh{l:List Nat}(hn:l.Nodup)(hi:l[i]? =some x)(hj:l[j]? =some x):i=j:=by have h1:=HL hn hi;rw[HL hn hj]at h1;exact(Option.some.inj h1).symm
theorem Hi{l:List Nat}(h:l[i]? =some x):l.getD i 0=x:=by rw[List.getD_eq_getElem?_getD,h];rfl
theorem VV{l:List Nat}(h:i<l.length):l[i]? =some (l.getD i 0):=by rw[List.getD_eq_getElem?_getD,List.getElem?_eq_getElem h];rfl
theorem Hj{S:List Nat}{home:Nat}(hes:∀e∈es,e.1<5/\e.2<5)(P:Un (DO es) W S)(hW:W≠0)(hpl:pl.length=5)(hpn:pl.Nodup)(hp0:pl[home]? =some 32)(hh:home<5)
  (hv:JN (DO es) home=true)(hw:IC es home=(List.range 5).map λp=>if JN (DO es) p=true then(W:Int)else 0):
  ∃S',fP es S' pl/\∀D,MI es S' pl D []->Fin es home pl D:=by
 have hc:=P.cnt home hh;rw[if_pos hv]at hc;obtain⟨t,htS,hth⟩:=YV (p:=home) (S:=S) (by rw[hc];exact hW);have htp:=P.perm t htS;have htn:=JH htp;obtain⟨f,hf⟩:∃f:Nat->Nat,f=λc=>pl.getD ((CQ c (EX t)).getD 0) 0:=⟨_,rfl⟩;have fget:∀i c,(EX t)[i]? =some c->f c=pl.getD i 0:=by intro i c h;rw[hf];show pl.getD ((CQ c (EX t)).getD 0) 0=_;rw[HL htn h];rfl
 have f0:f 0=32:=by rw[fget home 0 (by refine hth▸?_;exact HM (HN htp).1)];exact Hi hp0
 have finj:∀a<5,∀b<5,f a=f b->a=b:=by intro a ha b hb e;obtain⟨i,hi⟩:=bW (KC htp ha);obtain⟨j,hj⟩:=bW (KC htp hb);have hi':=HM hi;have hj':=HM hj;simp only[fget i a hi',fget j b hj']at e;have li:i<5:=bK _ _ _ hi;have lj:j<5:=bK _ _ _ hj;have:i=j:=Hh hpn (VV (by exact Nat.le_trans li (Nat.le_of_eq hpl.symm))) (by rw[VV (i:=j) (by exact Nat.le_trans lj (Nat.le_of_eq hpl.symm)),e]);subst this;rw[hi']at hj';exact Option.some.inj hj'
 have hwt:FW f t=pl:=by
  apply List.ext_getElem?;intro i;simp only[FW,List.getElem?_map];by_cases hi:i<5
  .rw[VV (l:=EX t) (by simp only[MY];exact hi),VV (l:=pl) (by exact Nat.le_trans hi (Nat.le_of_eq hpl.symm))];show some (f _)=_;rw[fget i _ (VV (l:=EX t) (by simp only[MY];exact hi))]
  .rw[List.getElem?_eq_none (by simp only[MY];exact(Nat.le_of_not_lt hi)),List.getElem?_eq_none (by exact Nat.le_trans (Nat.le_of_eq hpl) (Nat.le_of_not_lt hi))];rfl
 have winj:∀a∈S,∀b∈S,FW f a=FW f b->a=b:=λa ha b hb e=>Bg finj (VS (P.perm a ha)) (VS (P.perm b hb)) e;have hmv:∀n∈S,∀p∈SX es (FL n),p<5/\NM n (FL n) p∈S/\FV (FW f n) (FL n) p=FW f (NM n (FL n) p):=by intro n hn p hp;have hpn:=P.perm n hn;have hp2:=(kY hes (HN hpn).2.1).mp hp;have hp5:=(pA.mp hp2).1;exact⟨hp5,P.closed n hn _ (pG.mpr ⟨p,hp2,rfl⟩),sZ f0 hpn hp5⟩
 have G:fP es (S.map (FW f)) pl:=by refine⟨by rw[<-hwt];exact List.mem_map_of_mem htS,by rw[List.length_map];have:=P.len;exact oA this,?_⟩;intro w hw;obtain⟨n,hn,rfl⟩:=ID hw;have hpn:=P.perm n hn;refine⟨by rfl,FL n,(HN hpn).2.1,VT finj f0 hpn,?_⟩;intro p hp;obtain⟨h1,h2,h3⟩:=hmv n hn p hp;exact⟨h1,by rw[h3];exact List.mem_map_of_mem h2⟩
 refine⟨_,G,λD hI=>?_⟩;have hall:∀n∈S,EH D (FW f n)=true:=by
  refine P.conn (λn=>EH D (FW f n)=true) ?_ t htS (by show EH D (FW f t)=true;rw[hwt];exact hI.st);intro n hn hX m hm hmS;have hpn:=P.perm n hn;obtain⟨e,he,hee⟩:=PU.mp hX;obtain⟨p,hp,rfl⟩:=pG.mp hm;have hp2:=(kY hes (HN hpn).2.1).mpr hp;rcases hI.dn e he with h|⟨i,h1,h2,h3⟩
  .exact absurd h (List.not_mem_nil)
  .simp only[hee,VT finj f0 hpn]at h1;have:=Option.some.inj h1;subst this;have h4:=h3 p hp2;rw[hee,(hmv n hn p hp2).2.2]at h4;exact h4
 have hK:(D.map (·.1)).Perm (S.map (FW f)):=by
  rw[List.perm_ext_iff_of_nodup hI.nd (YW winj P.nd)];intro w;constructor
  .intro h;obtain⟨e,he,rfl⟩:=ID h;exact hI.sub e he
  .intro h;obtain⟨n,hn,rfl⟩:=ID h;obtain⟨e,he,hee⟩:=PU.mp (hall n hn);exact List.mem_map.mpr ⟨e,he,hee⟩
 have hcount:∀p:Nat,bO D (p:Int)=(KN p S:Nat):=by
  intro p;unfold bO;congr 1;have e1:D.countP (λe=>decide (e.2=(p:Int)))=(D.map (·.1)).countP (λw=>decide (CQ 32 w=some p)):=by
   rw[List.countP_map];refine List.countP_congr λe he=>?_;simp only[Function.comp_apply,decide_eq_true_iff,decide_eq_true_iff];rcases hI.dn e he with h|⟨i,h1,h2,_⟩
   .exact absurd h (List.not_mem_nil)
   .rw[h1,h2];constructor
    .intro q;congr 1;exact Int.ofNat.inj q
    .intro q;have:=Option.some.inj q;exact congrArg _ this
  simp only[e1,hK.countP_eq,List.countP_map,<-pH];refine List.countP_congr λn hn=>?_;simp only[Function.comp_apply,decide_eq_true_iff,decide_eq_true_iff,VT finj f0 (P.perm n hn)];exact⟨λq=>Option.some.inj q,λq=>by rw[q]⟩
 refine⟨?_,?_,?_⟩
 .rw[hw];refine List.map_congr_left λp hp=>?_;rw[hcount,P.cnt p (List.mem_range.mp hp)];split<;>rfl
 .intro e he;obtain⟨n,hn,hee⟩:=ID (hI.sub e he);refine hee▸?_;refine⟨by rfl,sortI_perm ?_⟩;refine hwt▸?_;refine List.Perm.map _ ?_;exact List.Perm.map f ((OF (P.perm n hn)).symm.trans (OF htp))
 .intro e he p hp h0;obtain⟨n,hn,hee⟩:=ID (hI.sub e he);have hvp:JN (DO es) p=false:=by
   cases hvp:JN (DO es) p with
   |false=>rfl
   |true=>replace h0:=(List.getElem?_range hp)▸List.getElem?_map▸List.getD_eq_getElem?_getD▸hw▸h0;have h0:(if JN (DO es) p=true then(W:Int)else 0)=0:=h0;rw[if_pos hvp]at h0;exact absurd (by exact Int.ofNat.inj h0) hW
  have h1:=P.still n hn p hp hvp;have h2:=P.still t htS p hp hvp;refine hee▸hwt▸?_;unfold FW;rw[VU (by simp only[MY];exact hp),VU (by simp only[MY];exact hp),h1,h2]
theorem Hk{home:Nat}(hes:∀e∈es,e.1<5/\e.2<5)(hpl:pl.length=5)(hpn:pl.Nodup)(hp0:pl[home]? =some 32)(hh:home<5)
  (hv:JN (DO es) home=false)(hw:IC es home=(List.range 5).map λp=>if p=home then 1 else 0):
  ∃S',fP es S' pl/\∀D,MI es S' pl D []->Fin es home pl D:=by
 have hix:=HL hpn hp0;have hnb:∀p,p∉SX es home:=by
  intro p hp;have h1:=(kY hes hh).mp hp;unfold JN at hv;simp only[Bool.or_eq_false_iff]at hv;have h2:=hv.2;cases hm:Nv (DO es) home with
  |nil=>replace h1:=hm▸h1;exact absurd h1 (List.not_mem_nil)
  |cons a r=>rw[hm]at h2;exact tJ h2
 refine⟨[pl],⟨.head _,by exact Nat.succ_pos _,?_⟩,λD hI=>?_⟩
 .intro w hw;rw[List.mem_singleton]at hw;subst hw;exact⟨hpl,home,hh,hix,λp hp=>absurd hp (hnb p)⟩
 .have hD:∀e∈D,e.1=pl:=λe he=>AR (hI.sub e he);have hD1:∃e,D=[e]/\e.1=pl/\e.2=home:=by
   have hl:=hI.len;cases D with
   |nil=>exact absurd rfl hI.ne
   |cons e r=>
    cases r with
    |cons=>simp at hl
    |nil=>
     refine⟨e,rfl,hD e (.head _),?_⟩;rcases hI.dn e (.head _)with h|⟨i,h1,h2,_⟩
     .exact absurd h (List.not_mem_nil)
     .simp only[hD e (.head _),hix]at h1;rw[h2,<-Option.some.inj h1]
  obtain⟨e,rfl,he1,he2⟩:=hD1;refine⟨?_,?_,?_⟩
  .rw[hw];refine List.map_congr_left λp hp=>?_;unfold bO;rw[List.countP_cons,List.countP_nil,he2];by_cases q:p=home
   .rw[if_pos q,if_pos (decide_eq_true (by lia))];rfl
   .rw[if_neg q,if_neg (by simp;lia)];rfl
  .intro d hd;rw[hD d hd];exact⟨hpl,rfl⟩
  .intro d hd p _ _;rw[hD d hd]
theorem fZ{es:List (Nat×Nat)}{ks:List Nat}{ms:List Int}{home:Nat}:∀{ls:List Nat} (w:Int),(∀l∈ls,ms.getD ((GE es ks l).getD 0 (0,0)).1 0=ms.getD home 0)->
  (ls.map λl=>GE es ks l).foldl (CS ms home) w=w*YO es ks ls
 |[],w,_=>by show w=w*1;rw[Int.mul_one]
 |l::r,w,h=>by
  simp only[List.map_cons,List.foldl_cons,YO,JZ];have:CS ms home w (GE es ks l)=w*EQ (GE es ks l):=by unfold CS;rw[if_pos (h l (.head _))]
  rw[this,fZ _ λl hl=>h l (.tail _ hl),Int.mul_assoc,Int.mul_comm (EQ _)]
theorem YX{ms:List Int}{home:Nat}:∀{ps:List (List (Nat×Nat))} (w:Int),(∀p∈ps,ms.getD (p.getD 0 (0,0)).1 0≠ms.getD home 0)->ps.foldl (CS ms home) w=w
 |[],_,_=>rfl
 |p::r,w,h=>by
  simp only[List.foldl_cons];have:CS ms home w p=w:=by unfold CS;rw[if_neg (h p (.head _))]
  rw[this];exact YX w λp hp=>h p (.tail _ hp)
structure Oa(T:List (Nat×Nat))(es:List (Nat×Nat))(W:Nat):Prop where
 W0:W≠0
 find:PZ (DO es) T=W
 len:es.length<=6
 lt:∀e∈es,e.1<5/\e.2<5
 ok:RH es=true
 vis:∀h,h<5->JN (DO es) h=true->IC es h=(List.range 5).map λp=>if JN (DO es) p=true then(W:Int)else 0
 iso:∀h,h<5->JN (DO es) h=false->IC es h=(List.range 5).map λp=>if p=h then 1 else 0
theorem Bh{T:List (Nat×Nat)}(h:VQ T es=true):∃W,Oa T es W:=by
 unfold VQ at h;rw[JZ]at h;obtain⟨ms,hm1,hm2⟩:=kX (g:=9) (g':= -1) (es:=es) (λms=>bS es (List.range es.length) λks=>ER (DO es) λg=>ER (PZ g T) λW=>
  !Nat.beq W 0&&Nat.ble es.length 6&&(es.all λe=>Nat.blt e.1 5&&Nat.blt e.2 5&& !Nat.beq e.1 e.2)&&
  HY (MC (JO ks)) λls=>(ls.all λl=>KO (GE es ks l) (YP ms))&&decide (YO es ks ls=(W:Int))&&[0,1,2,3,4].all (YQ g ms))
 simp only[hm1]at h;clear hm1;obtain⟨ks,hk1,hk2⟩:=sX (es:=es) (λks=>ER (DO es) λg=>ER (PZ g T) λW=>
  !Nat.beq W 0&&Nat.ble es.length 6&&(es.all λe=>Nat.blt e.1 5&&Nat.blt e.2 5&& !Nat.beq e.1 e.2)&&
  HY (MC (JO ks)) λls=>(ls.all λl=>KO (GE es ks l) (YP ms))&&decide (YO es ks ls=(W:Int))&&[0,1,2,3,4].all (YQ g ms))
 rw[hk1]at h;clear hk1;rw[DY,DY,IM]at h;generalize hW:PZ (DO es) T=W at h;generalize hg:DO es=g at*;simp only[Bool.and_eq_true]at h;obtain⟨⟨⟨h1,h2⟩,h3⟩,⟨h4,h5⟩,h6⟩:=h;have hlt:∀e∈es,e.1<5/\e.2<5:=by intro e he;have:=CW h3 e he;simp only[Bool.and_eq_true]at this;exact⟨Nat.le_of_ble_eq_true this.1.1,Nat.le_of_ble_eq_true this.1.2⟩
 have hms:=hm2 λe he=>Vt (hlt e he);have hkl:ks.length=es.length:=by have:=congrArg List.length hk2;simp only[CK,foldl_len (λ_ _=>HQ),BC,List.length_map,List.length_map,List.length_range]at this;exact this.symm
 have hparts:DJ es=(MC (JO ks)).map λl=>GE es ks l:=by unfold DJ;rw[hk2,YM,fW];show(List.map (λ(n:Nat)=>(n:Int)) (MC (JO ks))).map (HG es (BC ks))=_;rw[List.map_map];exact List.map_congr_left λl _=>YN l es ks hkl
 generalize MC (JO ks)=ls at*;have hpart:∀l∈ls,YP ms (GE es ks l)=true:=λl hl=>by have:=CW h4 l hl;rwa[JZ]at this
 have hpm:∀l∈ls,(BC ms).getD ((GE es ks l).getD 0 (0,0)).1 0=(BC ms).getD 0 0:=by intro l hl;have:=hpart l hl;unfold YP at this;rw[Bool.and_eq_true]at this;have:=BL.mp this.2;rw[HJ,HJ]at this;simp only[DZ,DZ,this]
 have hprod:=of_decide_eq_true h5;have hhome:∀h,h<5->YQ g ms h=true:=by
  intro h hh;have:h∈[0,1,2,3,4]:=by
   have:h=0\/h=1\/h=2\/h=3\/h=4:=by exact Jp hh
   rcases this with rfl|rfl|rfl|rfl|rfl<;>decide
  exact CW h6 h this
 have hv:∀h,h<5->JN g h=true->(BC ms).getD h 0=(BC ms).getD 0 0:=by intro h hh hvv;have:=hhome h hh;unfold YQ at this;rw[hvv]at this;have:=BL.mp this;rw[HJ,HJ]at this;simp only[DZ,DZ,this]
 have hi:∀h,h<5->JN g h=false->∀j,j<5->(BC ms).getD j 0=(BC ms).getD h 0->j=h:=by
  intro h hh hvv j hj e;have:=hhome h hh;unfold YQ at this;rw[hvv]at this;have hj5:j∈[0,1,2,3,4]:=by
   have:j=0\/j=1\/j=2\/j=3\/j=4:=by exact Jp hj
   rcases this with rfl|rfl|rfl|rfl|rfl<;>decide
  have:=CW this j hj5;rw[Bool.or_eq_true,BL]at this;rcases this with q|q
  .exact q
  .exfalso;simp only[DZ,DZ]at e;rw[HJ,HJ,BL.mpr (Int.ofNat.inj e)]at q;exact HE q
 have hv0:JN g 0=true:=rfl;refine⟨W,⟨?_,by rw[hg];exact hW,Nat.le_of_ble_eq_true h2,hlt,?_,?_,?_⟩⟩
 .intro q;replace h1:=q▸h1;exact HE h1
 .unfold RH;rw[hparts,List.all_eq_true];intro p hp;obtain⟨l,hl,rfl⟩:=ID hp;have:=hpart l hl;unfold YP at this;rw[Bool.and_eq_true]at this;exact this.1
 .refine(Eq.symm hg)▸?_;intro h hh hvv;unfold IC;refine List.map_congr_left λp hp=>?_;have hp:=List.mem_range.mp hp;refine(Eq.symm hms)▸?_;have hwf:bD es h=(W:Int):=by unfold bD;rw[hms,hparts,fZ 1 (λl hl=>by rw[hpm l hl,hv h hh hvv]),hprod,Int.one_mul]
  rw[hwf];cases hvp:JN g p with
  |true=>rw[if_pos (by rw[hv p hp hvp,hv h hh hvv]),if_pos rfl]
  |false=>rw[if_neg,if_neg (by decide)];intro q;rw[hv h hh hvv]at q;have:=hi p hp hvp 0 (by exact Nat.succ_pos _) q.symm;simp only[<-this,hv0]at hvp;exact BZ hvp
 .rw[hg];intro h hh hvv;unfold IC;refine List.map_congr_left λp hp=>?_;have hp:=List.mem_range.mp hp;refine(Eq.symm hms)▸?_;have hwf:bD es h=1:=by unfold bD;rw[hms,hparts];refine YX 1 λp hp q=>?_;obtain⟨l,hl,rfl⟩:=ID hp;rw[hpm l hl]at q;have:=hi h hh hvv 0 (by exact Nat.succ_pos _) q;simp only[<-this,hv0]at hvv;exact BZ hvv
  rw[hwf];by_cases q:p=h
  .rw[if_pos (by rw[q]),if_pos q]
  .rw[if_neg (λe=>q (hi h hh hvv p hp e)),if_neg q]
noncomputable def JP:List (Nat×Nat):=[(34,1),(1028,1),(1062,1),(2210,1),(3204,1),(3238,2),(32776,1),(32810,1),(33804,1),(33838,1),(34986,1),(35980,1),(36014,2),(65826,1),(66854,1),(68002,1),(68996,1),(69030,2),(98568,1),(98602,2),(99596,1),(99630,2),(100744,1),(100778,2),(101772,3),(101806,6),(140292,1),(140326,1),(141474,1),(142468,1),(142502,2),(172040,1),(172074,1),(173068,2),(173102,2),(174216,1),(174250,3),(175244,2),(175278,6),(205090,1),(206084,1),(206118,3),(207266,2),(208260,2),(208294,6),(237832,1),(237866,2),(238860,2),(238894,6),(240008,2),(240042,6),(241036,6),(1048592,1),(1048626,1),(1049620,1),(1049654,1),(1050802,1),(1051796,1),(1051830,2),(1081368,1),(1081402,1),(1082396,1),(1083578,1),(1084572,1),(1084606,2),(1114418,1),(1115446,1),(1116594,1),(1117588,1),(1117622,2),(1147160,1),(1147194,2),(1148188,1),(1148222,2),(1149336,1),(1149370,2),(1150364,3),(1188884,1),(1188918,1),(1190066,1),(1191060,1),(1191094,2),(1220632,1),(1220666,1),(1221660,2),(1221694,2),(1222808,1),(1222842,3),(1223836,2),(1253682,1),(1254676,1),(1254710,3),(1255858,2),(1256852,2),(1286424,1),(1286458,2),(1287452,2),(1288600,2),(2097698,1),(2098726,1),(2099874,1),(2100868,1),(2100902,2),(2130474,1),(2131502,1),(2132650,1),(2133644,1),(2133678,2),(2163490,1),(2164518,1),(2165666,1),(2166660,1),(2196232,1),(2196266,2),(2197260,1),(2197294,2),(2198408,1),(2199436,3),(2199470,6),(2237990,1),(2239138,1),(2240132,1),(2269738,1),(2270766,2),(2271880,1),(2271914,3),(2272908,2),(2302754,1),(2303748,1),(2303782,3),(2304930,2),(2305924,2),(2335496,1),(2336524,2),(2337672,2),(3146256,1),(3146290,2),(3147284,1),(3147318,2),(3148432,1),(3148466,2),(3149460,3),(3149494,6),(3179032,1),(3179066,2),(3180060,1),(3180094,2),(3181208,1),(3181242,2),(3182236,3),(3212048,1),(3212082,2),(3213076,1),(3213110,2),(3214224,1),(3215252,3),(3215286,6),(3244824,3),(3244858,6),(3245852,3),(3247000,3),(3247034,6),(3248028,12),(3286548,1),(3286582,2),(3287696,1),(3287730,2),(3288724,3),(3318296,1),(3318330,2),(3319324,2),(3319358,4),(3320472,4),(3320506,24),(3321500,24),(3351312,1),(3351346,2),(3352340,4),(3352374,24),(3353488,2),(3353522,4),(3384088,3),(3385116,24),(4211716,1),(4211750,1),(4212898,1),(4213892,1),(4213926,2),(4244492,1),(4244526,1),(4245674,1),(4246668,1),(4246702,2),(4277542,1),(4278690,1),(4279684,1),(4310284,1),(4310318,2),(4311432,1),(4311466,2),(4312460,3),(4350980,1),(4351014,1),(4352162,1),(4353156,1),(4382728,1),(4382762,1),(4383756,2),(4383790,2),(4384904,1),(4384938,3),(4385966,6),(4415778,1),(4416772,1),(4416806,3),(4417954,2),(4418948,2),(4448520,1),(4448554,2),(4450696,2),(5259280,1),(5259314,1),(5260308,2),(5260342,2),(5261456,1),(5261490,3),(5262484,2),(5262518,6),(5292056,1),(5292090,1),(5293084,2),(5293118,2),(5294232,1),(5294266,3),(5295260,2),(5325106,1),(5326134,2),(5327248,1),(5327282,3),(5328276,2),(5357848,1),(5357882,2),(5358876,2),(5358910,4),(5360024,4),(5360058,24),(5361052,24),(5398544,1),(5398578,1),(5399572,2),(5399606,2),(5400720,1),(5400754,3),(5401782,6),(5431320,3),(5431354,3),(5432348,6),(5433496,3),(5433530,12),(5434524,6),(5464336,1),(5464370,4),(5465364,2),(5465398,24),(5466512,2),(5467540,4),(5497112,3),(5497146,24),(6308386,1),(6309380,1),(6309414,3),(6310562,2),(6311556,2),(6311590,6),(6341162,1),(6342156,1),(6342190,3),(6343338,2),(6344332,2),(6374178,1),(6375172,1),(6375206,3),(6376354,2),(6377348,2),(6406920,1),(6406954,2),(6407948,4),(6407982,24),(6409096,2),(6409130,4),(6447650,1),(6448644,1),(6448678,3),(6449826,2),(6450820,2),(6480392,1),(6480426,4),(6481420,2),(6481454,24),(6482568,2),(6483596,4),(6513442,3),(6514436,3),(6515618,6),(6516612,6),(6546184,3),(7356944,1),(7356978,2),(7357972,2),(7358006,6),(7359120,2),(7359154,6),(7360148,6),(7389720,1),(7389754,2),(7390748,2),(7391896,2),(7422736,1),(7423764,2),(7424912,2),(7455512,3),(7456540,24),(7496208,1),(7496242,2),(7498384,2),(7528984,3),(7529018,24),(7562000,3),(8945672,1),(8945706,1),(8946700,1),(8946734,1),(8947882,1),(8948876,1),(8948910,2),(8978722,1),(8979750,1),(8980898,1),(8981892,1),(8981926,2),(9011464,1),(9011498,2),(9012492,1),(9012526,2),(9013640,1),(9014668,3),(9053188,1),(9053222,1),(9054370,1),(9055364,1),(9055398,2),(9084936,1),(9084970,1),(9085964,2),(9085998,2),(9087112,1),(9087146,3),(9117986,1),(9118980,1),(9119014,3),(9120162,2),(9121156,2),(9150728,1),(9151790,6),(9152904,2),(9961488,1),(9961522,1),(9962516,1),(9962550,1),(9963698,1),(9964692,1),(9964726,2),(9994264,2),(9994298,2),(9995292,2),(9995326,2),(9996474,2),(9997468,2),(9997502,4),(10027280,1),(10027314,3),(10028308,1),(10028342,3),(10029456,1),(10029490,3),(10030484,4),(10030518,24),(10060056,2),(10060090,6),(10061084,2),(10062232,2),(10063260,24),(10100752,1),(10100786,1),(10101780,3),(10101814,3),(10102928,1),(10102962,4),(10103956,3),(10103990,24),(10133528,2),(10133562,2),(10134556,6),(10135704,2),(10135738,24),(10166544,1),(10166578,3),(10167572,3),(10167606,12),(10168720,2),(10199354,6),(10200348,6),(10201496,4),(11010594,1),(11011622,1),(11012770,1),(11013764,1),(11013798,2),(11043336,1),(11043370,3),(11044364,1),(11044398,3),(11045512,1),(11045546,3),(11046540,4),(11046574,24),(11076386,2),(11077414,2),(11078562,2),(11079556,2),(11079590,4),(11109128,2),(11109162,6),(11110156,2),(11111304,2),(11149858,1),(11150852,1),(11150886,4),(11152034,3),(11153028,3),(11182600,1),(11182634,3),(11183628,2),(11183662,24),(11184776,3),(11215650,2),(11216644,2),(11217826,6),(11248392,2),(11249420,4),(11250568,6),(12059152,1),(12059186,2),(12060180,1),(12060214,2),(12061328,1),(12062356,3),(12091928,2),(12091962,6),(12092956,2),(12094104,2),(12095132,24),(12124944,2),(12124978,6),(12125972,2),(12127120,2),(12157720,6),(12198416,1),(12198450,2),(12199444,3),(12199478,24),(12200592,3),(12264208,2),(13124612,1),(13124646,1),(13125794,1),(13126788,1),(13126822,2),(13156360,1),(13156394,1),(13157388,3),(13157422,3),(13158536,1),(13158570,4),(13159564,3),(13159598,24),(13189410,1),(13190404,1),(13190438,4),(13191586,3),(13192580,3),(13222152,1),(13222186,2),(13223180,3),(13223214,24),(13224328,3),(13263876,2),(13263910,2),(13265058,2),(13266052,2),(13266086,4),(13295624,2),(13295658,2),(13296652,6),(13297800,2),(13328674,2),(13329668,2),(13331844,6),(13361416,2),(13361450,4),(13363592,6),(14172176,1),(14172210,1),(14173204,2),(14173238,2),(14174352,1),(14174386,3),(14204952,2),(14204986,2),(14205980,6),(14207128,2),(14207162,24),(14237968,1),(14238002,3),(14238996,2),(14239030,24),(14240144,3),(14311440,2),(14311474,2),(14312468,6),(14313616,2),(14344216,6),(14377232,2),(15221282,1),(15222276,1),(15222310,3),(15223458,2),(15224452,2),(15254024,1),(15254058,3),(15255052,3),(15255086,12),(15256200,2),(15287074,2),(15288068,2),(15289250,6),(15319816,2),(15360546,2),(15361540,2),(15363716,6),(15393288,2),(15459080,6),(16269840,1),(16270902,6),(16272016,2),(16302650,6),(16303644,6),(16304792,4),(16335632,2),(16336660,4),(16337808,6),(16409104,2),(16409138,4),(16411280,6),(16474896,6)]
noncomputable def OG(e:Nat×Nat):Bool:=ER e.1 λg=>ER e.2 λW=>oW g W
theorem Uo:((JP.drop 0).take 48).all OG=true:=by decide+kernel
theorem Up:((JP.drop 48).take 48).all OG=true:=by decide+kernel
theorem Uq:((JP.drop 96).take 48).all OG=true:=by decide+kernel
theorem Ur:((JP.drop 144).take 48).all OG=true:=by decide+kernel
theorem Us:((JP.drop 192).take 48).all OG=true:=by decide+kernel
theorem Ut:((JP.drop 240).take 48).all OG=true:=by decide+kernel
theorem Uu:((JP.drop 288).take 48).all OG=true:=by decide+kernel
theorem Uv:((JP.drop 336).take 48).all OG=true:=by decide+kernel
theorem Uw:((JP.drop 384).take 48).all OG=true:=by decide+kernel
theorem Ux:((JP.drop 432).take 48).all OG=true:=by decide+kernel
theorem Ob:((JP.drop 480).take 48).all OG=true:=by decide+kernel
theorem Oc:((JP.drop 528).take 48).all OG=true:=by decide+kernel
theorem EA{α:Type}{f:α->Bool}{l:List α}(n k:Nat)(h1:((l.drop n).take k).all f=true)(h2:(l.drop (n+k)).all f=true):(l.drop n).all f=true:=by rw[<-List.drop_drop]at h2;rw[<-List.take_append_drop k (l.drop n),List.all_append,h1,h2];rfl
theorem Hl:JP.all OG=true:=by
 have h:(JP.drop 576).all OG=true:=by rw[show JP.drop 576=[]from List.drop_eq_nil_of_le (by decide+kernel)];rfl
 have h:=EA 528 48 Oc h;have h:=EA 480 48 Ob h;have h:=EA 432 48 Ux h;have h:=EA 384 48 Uw h;have h:=EA 336 48 Uv h;have h:=EA 288 48 Uu h;have h:=EA 240 48 Ut h;have h:=EA 192 48 Us h;have h:=EA 144 48 Ur h;have h:=EA 96 48 Uq h;have h:=EA 48 48 Up h;have h:=EA 0 48 Uo h;exact h
noncomputable def HZ:List Nat:=[1,2,3,4]
noncomputable def KP(a b c:Nat):Bool:=HZ.all λd=>HZ.all λe=>VQ JP (BU [a,b,c,d,e])&&HZ.all λf=>VQ JP (BU [a,b,c,d,e,f])
theorem Od:HZ.all (KP 1 1)=true:=by decide+kernel
theorem Oe:HZ.all (KP 1 2)=true:=by decide+kernel
theorem Of:HZ.all (KP 1 3)=true:=by decide+kernel
theorem Og:HZ.all (KP 1 4)=true:=by decide+kernel
theorem Oh:HZ.all (KP 2 1)=true:=by decide+kernel
theorem Oi:HZ.all (KP 2 2)=true:=by decide+kernel
theorem Oj:HZ.all (KP 2 3)=true:=by decide+kernel
theorem Ol:HZ.all (KP 2 4)=true:=by decide+kernel
theorem Om:HZ.all (KP 3 1)=true:=by decide+kernel
theorem On:HZ.all (KP 3 2)=true:=by decide+kernel
theorem Oo:HZ.all (KP 3 3)=true:=by decide+kernel
theorem Op:HZ.all (KP 3 4)=true:=by decide+kernel
theorem Oq:HZ.all (KP 4 1)=true:=by decide+kernel
theorem Os:HZ.all (KP 4 2)=true:=by decide+kernel
theorem Ot:HZ.all (KP 4 3)=true:=by decide+kernel
theorem Ou:HZ.all (KP 4 4)=true:=by decide+kernel
theorem gA{g:Nat}:∀{T:List (Nat×Nat)},PZ g T≠0->(g,PZ g T)∈T
 |[],h=>absurd rfl h
 |e::r,h=>by
  rw[PZ]at h⊢;cases hb:Nat.beq e.1 g with
  |true=>show(g,e.2)∈e::r;refine(BL.mp hb)▸?_;exact .head _
  |false=>rw[hb]at h;exact .tail _ (gA h)
theorem KD(h:1<=a/\a<=4):a∈HZ:=by
 have:a=1\/a=2\/a=3\/a=4:=by lia
 rcases this with rfl|rfl|rfl|rfl<;>decide
theorem Hm{c:Nat}(ha:1<=a/\a<=4)(hb:1<=b/\b<=4)(hc:1<=c/\c<=4):KP a b c=true:=by
 have h1:∀a∈HZ,∀b∈HZ,HZ.all (KP a b)=true:=by
  intro a ha b hb;have ha:a=1\/a=2\/a=3\/a=4:=by simpa[HZ]using ha
  have hb:b=1\/b=2\/b=3\/b=4:=by simpa[HZ]using hb
  rcases ha with rfl|rfl|rfl|rfl<;>rcases hb with rfl|rfl|rfl|rfl
  .exact Od
  .exact Oe
  .exact Of
  .exact Og
  .exact Oh
  .exact Oi
  .exact Oj
  .exact Ol
  .exact Om
  .exact On
  .exact Oo
  .exact Op
  .exact Oq
  .exact Os
  .exact Ot
  .exact Ou
 exact CW (h1 a (KD ha) b (KD hb)) c (KD hc)
theorem QA{c e f:Nat}(ha:1<=a/\a<=4)(hb:1<=b/\b<=4)(hc:1<=c/\c<=4)(hd:1<=d/\d<=4)(he:1<=e/\e<=4)(hf:1<=f/\f<=4):VQ JP (BU [a,b,c,d,e,f])=true/\VQ JP (BU [a,b,c,d,e])=true:=by have h:=Hm ha hb hc;unfold KP at h;have h:=CW (CW h d (KD hd)) e (KD he);rw[Bool.and_eq_true]at h;exact⟨CW h.2 f (KD hf),h.1⟩
theorem tA{c e f t:Nat}(ha:1<=a/\a<=4)(hb:1<=b/\b<=4)(hc:1<=c/\c<=4)(hd:1<=d/\d<=4)(he:1<=e/\e<=4)(hf:1<=f/\f<=4):VQ JP (BU (IY a b c d e f t))=true/\(IY a b c d e f t).length<=6:=by
 match t with
 |0=>exact⟨(QA ha hb hc hd he hf).1,Nat.le_refl _⟩
 |1=>exact⟨(QA ha hb hc hc hc hc).1,Nat.le_refl _⟩
 |2=>exact⟨(QA ha hb hc hd he hf).2,Nat.le_succ _⟩
 |t+3=>exact⟨(QA ha hb hc hd hd hd).1,Nat.le_refl _⟩
theorem SC:∀k,k<8->∀h,h<5->(EN k h).length=5/\(EN k h).Nodup/\(EN k h)[h]? =some 32:=by decide
theorem tB{c e f t home:Nat}(ha:1<=a/\a<=4)(hb:1<=b/\b<=4)(hc:1<=c/\c<=4)(hd:1<=d/\d<=4)(he:1<=e/\e<=4)(hf:1<=f/\f<=4)(hk:k<8)(hh:home<5):
  ∃S,fP (BU (IY a b c d e f t)) S (EN k home)/\(IY a b c d e f t).length<=6/\(∀x∈BU (IY a b c d e f t),x.1<5/\x.2<5)/\(BU (IY a b c d e f t)).length<=6/\
   RH (BU (IY a b c d e f t))=true/\∀D,MI (BU (IY a b c d e f t)) S (EN k home) D []->Fin (BU (IY a b c d e f t)) home (EN k home) D:=by
 obtain⟨hL,hl⟩:=tA (t:=t) ha hb hc hd he hf;obtain⟨W,L⟩:=Bh hL;obtain⟨p1,p2,p3⟩:=SC k hk home hh;generalize BU (IY a b c d e f t)=es at*;have hP:oW (DO es) W=true:=by have hm:=gA (g:=DO es) (T:=JP) (by rw[L.find];exact L.W0);rw[L.find]at hm;have:=CW Hl _ hm;unfold OG at this;rwa[DY,DY]at this
 obtain⟨S0,P⟩:=Ba hP;cases hv:JN (DO es) home with
 |true=>obtain⟨S,hG,hF⟩:=Hj L.lt P L.W0 p1 p2 p3 hh hv (L.vis home hh hv);exact⟨S,hG,hl,L.lt,L.len,L.ok,hF⟩
 |false=>obtain⟨S,hG,hF⟩:=Hk L.lt p1 p2 p3 hh hv (L.iso home hh hv);exact⟨S,hG,hl,L.lt,L.len,L.ok,hF⟩
theorem law_body(m:Nat)(ns:List Int)(hn:ns.length<=63)(Q:AB)(h:∀c,Q (.f (.ret (.bool true))) c):AX (m+300) (.execs (body 239)) (bG [("script",.flist (AJ ns))] [.tab,.cell none,.cell none,.cell none,.cell none,.cell none] 0) Q:=by
 refine Zw m ns hn Q λc0 c1 c2 c3 c4 c5 c6 c7 d row t h6 h7 ht=>?_;have b:∀x:Nat,1<=1+x%4/\1+x%4<=4:=λx=>by lia
 obtain⟨S,hG,hl,hes,hel,hW,hF⟩:=tB (t:=t) (k:=c7%8) (home:=c6/4%5) (b c0) (b c1) (b c2) (b c3) (b c4) (b c5) (by exact Nat.mod_lt _ (by decide)) (by exact Nat.mod_lt _ (by decide));refine Zx m ns d [] _ c0 c1 c2 c3 c4 c5 c6 c7 t row _ h6 h7 Q ?_;refine A0 m (by exact Nat.mod_lt _ (by decide)) (by exact Nat.mod_lt _ (by decide)) Q λT gone line hT hTl=>?_;refine A1 m (by exact Nat.mod_lt _ (by decide)) hl (SC _ (by exact Nat.mod_lt _ (by decide)) _ (by exact Nat.mod_lt _ (by decide))).1 ?_ hTl hT hes hel hG hW hF Q h;simp only[JR,List.all_cons,List.all_nil,Bool.and_true,Bool.and_eq_true];exact⟨HI (λ_=>rfl) d,rfl,rfl,rfl⟩
end MineV.Internal
end
section
open PySem PySem.W PyProof.Rows Mine.Internal
namespace Mine.Internal
theorem tC(w:World):NH (h0 w):=⟨jC,eN,aS,jG⟩
theorem Uy:Mm:=λns hn Q q c' he=>by obtain rfl:=Option.some.inj ((MineV.Internal.enter_law ns).symm.trans he);exact MineV.Internal.law_body 0 ns hn Q q
set_option maxHeartbeats 8000000 in
theorem Hn:OpenLaw.wellSaid PySem.Challenge.rw_tp0043_01=true:=by kernel_rfl
end Mine.Internal
set_option maxHeartbeats 8000000 in
theorem PySem.Challenge.cw_tp0043_01_holds : PySem.Challenge.rw_tp0043_01.Holds :=
 holds_law Hn λsaid=>rC tC Uy said
end
