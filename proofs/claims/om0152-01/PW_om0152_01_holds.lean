import PyProof.Rows.All
import OpenK.ZHead
import PyProof.Rows.RuleB_mod
import Lean
import PySem.Challenge.RW_om0152_01
open PySem PySem.W PySem.W.X PyProof.Rows
set_option maxRecDepth 100000
set_option maxHeartbeats 0
set_option Elab.async false
set_option linter.all false
set_option autoImplicit true
set_option relaxedAutoImplicit true
set_option tactic.hygienic false
set_option genInjectivity false
set_option genSizeOf false
set_option compiler.extract_closed false
set_option bootstrap.genMatcherCode false
noncomputable section
namespace Mine
local macro_rules
 |`(tactic|lia)=>`(tactic|first|assumption|exact rfl|exact Nat.le_refl _|exact Nat.zero_le _|exact Nat.zero_add _|decide|exact Nat.le_of_lt (by assumption)|exact Nat.not_lt.mpr (by assumption)|exact Nat.not_le.mpr (by assumption)|exact Nat.le_trans (by assumption) (by decide)|exact Nat.le_trans (by assumption) (by assumption)|exact Nat.lt_of_lt_of_le (by assumption) (by assumption)|exact Nat.le_of_succ_le (by assumption)|cutsat)
section
noncomputable abbrev P1:=List Nat
noncomputable abbrev P2:=Nat->Tok
noncomputable abbrev P4:=Nat->Addr
noncomputable abbrev P5:=List Value
noncomputable abbrev P6:=Option Value
noncomputable abbrev P7:=List Obj
noncomputable abbrev P8:=List Code
noncomputable abbrev P9:=Option (List Nat)
noncomputable abbrev Qa:=List (Addr×Obj)
noncomputable abbrev aA:=Addr->Option Obj
abbrev Qb:=List (aA->Prop)
set_option genInjectivity true in
inductive Ob where
 |adr (a:Addr)
 |code (c:Code) (fs:Qa)
 |val (v:Value)
 |tree (t:Sem Fin)
 |pred (g:aA->Prop)
 |codes (l:P8)
 |hand (h:P6)
inductive hZ where
 |end_ (r:Result)
 |again (c:Code)
structure mL where
 need:Nat
 Po:Nat
 eqs:List (Ob×Ob)
 Pq:List Prop
 upd:P4->P2->P7
 nn:Nat
 new:P4->P2->P7
 Pm:Nat
 res:P4->P2->hZ
 gives:P4->P2->Qb
noncomputable def ia (b:Bool) (G:Setting):Setting:={G with params:={G.params with followText:=λr=>match Nat.beq (PySem.code r) 0x7466746a62732e7566682e6d626a64667174 with
 |true=>b
 |false=>G.params.followText r} }
noncomputable def ae (n:Nat) (f:Nat->Nat):Nat->Nat:=λx=>match Nat.blt x n with
 |true=>f x
 |false=>0
structure uX where
 tree:Sem Fin
 next:Sem Fin
 eqs:List (Ob×Ob)
abbrev EM:=Nat->Code->Qa->List Code->Option uX
noncomputable def Nh:EM:=λY Y Y Y=>none
structure eP where
 den:Code->Sem Fin
 G:Setting
 top:Addr->Option Obj
 PU:P6
 PI:Nat
 PJ:Nat
 adr:Nat->Addr
 tk:Nat->Tok
 Pp:Nat->List Pos
 O:Nat->Code->Qa->Qb->List Code->Option Value->Option mL
 base:P8
 Py:Nat->Option (Addr×Obj)
 X:EM
inductive Kt where
 |base
 |ret (c:Code) (hd:P6) (k:Result->Sem Fin) (κ:Kt)
structure St where
 h:Nat
 c:Code
 e:Bool
 κ:Kt
 t:Sem Fin
 T:BT
 m:Nat
 i:Nat
 q:Nat
 kn:Qb
noncomputable def St.on (a:St) (h:Nat) (t:Sem Fin):St:={a with h,t}
noncomputable def St.to (a:St) (h:Nat) (c:Code) (e:Bool) (κ:Kt) (t:Sem Fin):St:={a with h,c,e,κ,t}
structure Fi where
 res:hZ
 T:BT
 m:Nat
 kn:Qb
structure uQ where
 res:hZ
 T:BT
 m:Nat
 eqs:List (Ob×Ob)
 Pq:List Prop
 kn:Qb
noncomputable def cx (P:eP):Kt->P6
 | .base=>P.PU
 | .ret _ a _ κ=>match a with
  |some v=>some v
  |none=>cx P κ
noncomputable def jr:Kt->Nat
 | .base=>0
 | .ret c _ _ κ=>c.weight+jr κ
noncomputable def kL:Kt->Nat
 | .base=>0
 | .ret c _ _ κ=>c.cUnits+kL κ
noncomputable def jt (f:Addr) (d:FuncData) (g:Args):Sem Fin:=do
 let a <-match d.code with
  | .none=>pure d.qualname
  |c=>do match <-field c 1 with
   | .str q _=>pure q
   |_=>pure d.qualname
 let h <-newFunctionEnv d.scope d.globals d.closure (<-bindArgs d g) (a++".<locals>.") (some f) d.code none d.builtins
 again (match d.body with
  | .stmts b=>.func b h
  | .expr e=>.expr e h)
noncomputable def fh {α:Type} (n:Nat) (k:Nat->α):α:=Nat.casesOn (motive:=λY=>α) n (k 0) (λm=>k (m+1))
noncomputable def KN:Nat:=0x8c850018820b0ca98ee904e8cde7b7b7079300f0016501059e1907a6b2a79701840094dc95db8585bfd9a2d88cd7ccd29595010407838e8e87058fbc080700198f068704bea21a1a1313000a013082199703000e0010000f000b00088c8b04a4058e9800838f14141111121202649e040e0e0d0d0009a5af9f8d0100080885ae8686019d0f0f101005050c0c0b0b00069300008d0404960082050909030304038c870101919b839a86999285060600030a0a878782ff07078483029002028b06000502010082898a868502888401828200838283000182010000
noncomputable def Cj:Nat->Nat->Nat->Nat->Nat
 |0,_,_,r=>r
 |f+1,n,p,r=>match Nat.beq n 0 with
  |true=>r
  |false=>match Nat.ble 130 (n%256)&&Nat.ble (n%256) 238 with
   |true=>fh (n/256*65536+KN/65536^(n%256-130)%65536) λn=>Cj f n p r
   |false=>fh (r+n%256*p) λr=>fh (p*256) λp=>fh (n/256) λn=>Cj f n p r
def aQ (n:Nat):Nat:=Cj 9999 n 1 0
theorem mM {α:Type} (n:Nat) (k:Nat->α):fh n k=k n:=by cases n<;>rfl
noncomputable def gl (T:BT) (j:Nat):Option Obj:=match T.get j with
 |some o=>match o.isFreed with
  |false=>some o
  |true=>none
 |none=>none
noncomputable def av:Obj:={cls:=.none,data:=.freed}
noncomputable def nH (o:Obj):Option Obj:=match o.isFreed with
 |false=>some o
 |true=>none
noncomputable def cY (T:BT):Nat->Nat->Option (List (Nat×Obj)×Nat)
 |0,h=>some ([],h)
 |n+1,h=>fh (h%256) λj=>match gl T j with
  |some o=>match cY T n (h/256) with
   |some (l,a)=>some ((j,o)::l,a)
   |none=>none
  |none=>none
noncomputable def dQ:List Nat->Bool
 |[]=>true
 |x::l=>l.all (λy=>!Nat.beq x y)&&dQ l
noncomputable def ju:BT->List Nat->List Obj->BT
 |T,j::a,o::os=>ju (T.set j λY=>o) a os
 |T,_,_=>T
noncomputable def fi:BT->Nat->List Obj->Option BT
 |T,_,[]=>some T
 |T,m,o::os=>match (T.ins m o).get m with
  |some _=>fi (T.ins m o) (m+1) os
  |none=>none
noncomputable def jZ {α β γ:Type} (o:Option (α×β)) (k:α->β->Option γ):Option γ:=match o with
 |some (a,b)=>k a b
 |none=>none
noncomputable abbrev Rs:=Option (List (Ob×Ob)×List Prop×(St⊕Fi))
noncomputable def kM (q:List (Ob×Ob)) (a:St):Rs:=some (q,[],.inl a)
noncomputable def Ck (a:St) (r:hZ):Rs:=some ([],[],.inr ⟨r,a.T,a.m,a.kn⟩)
noncomputable def rd (P:eP) (m j:Nat):Option Addr:=cond (Nat.blt j m) (some (P.adr j)) none
def uY (P:eP) (A:Nat->Option Addr) (T:BT) (h:Nat) (a:Addr):Option (Obj×List (Ob×Ob)):=
 cond (Nat.beq h 0) ((P.top a).bind λo=>some (o,[])) (cond (Nat.ble 240 h) ((P.Py (h-240)).bind λx=>some (x.2,[(.adr a,.adr x.1)])) ((gl T (h-1)).bind λo=>(A (h-1)).bind λb=>some (o,[(.adr a,.adr b)])))
structure In where
 e:Bool
 t:Sem Fin
 h:Nat
 q:List (Ob×Ob)
noncomputable def j0 {γ:Type} (o:Option In) (k:Bool->Sem Fin->Nat->List (Ob×Ob)->Option γ):Option γ:=match o with
 |some ⟨e,t,h,q⟩=>k e t h q
 |none=>none
def yP (a:Addr) (b:Args) (h:Nat) (o:Obj) (q:List (Ob×Ob)):Option In:=match o.data with
 | .func fd=>cond (fd.scope.isGenerator||fd.scope.isCoroutine) none (some ⟨true,jt a fd b,h,q⟩)
 |_=>none
noncomputable def Cm:Code->Option (Addr×Args)
 | .call f b=>match f with
  | .ref a=>some (a,b)
  |_=>none
 |_=>none
def kN (P:eP) (A:Nat->Option Addr) (T:BT) (h:Nat) (c:Code):Option In:=
 cond (Nat.beq (h%256) 0) (some ⟨false,P.den c,h/256,[]⟩) (jZ (Cm c) λa b=>
  cond (Nat.beq (h%256) 255) (jZ (uY P A T 0 a) (yP a b (h/256))) (cond (Nat.beq (h%256) 254) (jZ (uY P A T (h/256%256+1) a) (yP a b (h/256/256))) none))
noncomputable def kA (a:P6):Bool:=match a with
 |none=>true
 |some v=>match v with
  | .notImplemented=>false
  |_=>true
noncomputable def cy (B:P8):Kt->P8
 | .base=>B
 | .ret c _ _ κ=>c::cy B κ
noncomputable def kO:List Code->List Pos->List (Code×Pos)
 |[],_=>[]
 |c::a,l=>(c,l.headD ⟨0,0,0,0⟩)::kO a l.tail
theorem j1:∀l:List (Code×Pos),kO (l.map (·.1)) (l.map (·.2))=l
 |[]=>rfl
 |x::l=>congrArg (x::·) (j1 l)
noncomputable def uZ:Kt->Bool
 | .base=>true
 |_=>false
def sM (a:St) (r:Result):Rs:=match a.κ with
 | .base=>Ck a (.end_ r)
 | .ret c _ k κ=>kM [] (a.to a.h c false κ (k r))
def u0 (P:eP) (A:Nat->Option Addr) (a:St) (c:Code):Rs:=cond c.quiet
 (cond a.e (cond (Nat.ble (jr a.κ+a.c.weight) P.PI) (kM [] (a.to a.h c false a.κ (P.den c))) none)
  (cond (uZ a.κ&&Nat.beq (a.h%256) 1) (Ck a (.again c)) (j0 (kN P A a.T a.h c) λe t h q=>kM q (a.to h c e a.κ t)))) none
noncomputable def eF (P:eP) (m:Nat) (l:List (Nat×Obj)):Option Qa:=cond (l.all λx=>Nat.blt x.1 m) (some (l.map λx=>(P.adr x.1,x.2))) none
abbrev EN:=List (Nat×Obj)->Option Qa
def Cn (P:eP) (S:EN) (a:St) (t:Sem Fin):Rs:=cond a.e none (jZ (cY a.T (a.h/256/256%256) (a.h/256/256/256)) λb h=>
 (S b).bind λc=>(P.X (a.h/256%256) a.c c (cy P.base a.κ)).bind λx=>kM ((.tree t,.tree x.tree)::x.eqs) (a.on h x.next))
def AE (P:eP) (A:Nat->Option Addr) (S:EN) (b:St) (a:Addr) (p:P6) (k:Obj->Sem PySem.Fin):Rs:=cond (Nat.beq (b.h%256) 239) (Cn P S b (.load a p k))
 (jZ (uY P A b.T (b.h%256) a) λo q=>kM q (b.on (b.h/256) (k o)))
def Fb (A:Nat->Option Addr) (c:St) (a:Addr) (f:Obj->Obj) (k:Unit->Sem PySem.Fin):Rs:=cond (Nat.beq (c.h%256) 0) none ((gl c.T (c.h%256-1)).bind λo=>(A (c.h%256-1)).bind λb=>
 cond (f o).isFreed none (kM [(.adr a,.adr b)] {c.on (c.h/256) (k ()) with T:=c.T.set (c.h%256-1) f}))
def Co (P:eP) (a:St) (o:Obj) (k:Addr->Sem PySem.Fin):Rs:=cond o.isFreed none (((a.T.ins a.m o).get a.m).bind λY=>kM [] {a.on a.h (k (P.adr a.m)) with T:=a.T.ins a.m o,m:=a.m+1})
def u3 (P:eP) (A:Nat->Option Addr) (T:BT) (h:Nat) (c:Code) (b:P6) (k:Result->Sem Fin) (κ:Kt) (r:hZ) (K:Code->Kt->Bool->Sem Fin->Nat->List (Ob×Ob)->Rs):Rs:=match r with
 | .end_ r=>K c κ false (k r) h []
 | .again a=>j0 (kN P A T h a) λe t h q=>K a (.ret c b k κ) e t h q
def tK (P:eP) (f:St) (j:P6) (k:Result->Sem PySem.Fin) (g:List (Nat×Obj)) (h:Nat) (a:mL) (b:P4) (d:P2):Rs:=
 cond (Nat.ble (a.new b d).length a.nn&&Nat.beq (a.upd b d).length g.length) ((fi (ju f.T (g.map (·.1)) (a.upd b d)) f.m (a.new b d)).bind λT=>
  u3 P (rd P (f.m+a.nn)) T h f.c j k f.κ (a.res b d) λc κ e t h q=>some (q++a.eqs,a.Pq,.inl {h,c,e,κ,t,T,m:=f.m+a.nn,i:=f.i+a.Pm,q:=f.q,kn:=a.gives b d++f.kn})) none
def u4 (P:eP) (S:EN) (b:St) (c:Code) (e:P6) (k:Result->Sem PySem.Fin) (K:List (Nat×Obj)->Nat->mL->Rs):Rs:=
 jZ (cY b.T (b.h/256%256) (b.h/256/256)) λd h=>cond (dQ (d.map (·.1))) ((S d).bind λf=>(P.O (b.h%256) c f b.kn (b.c::cy P.base b.κ) (cx P (.ret b.c e k b.κ))).bind λa=>
  cond (Nat.ble (jr b.κ+b.c.weight+a.need) P.PI&&Nat.ble (kL b.κ+b.c.cUnits+a.Po) P.PJ) (K d h a) none) none
def AF (A:Nat->Option Addr) (a:St) (j:Nat):Rs:=(gl a.T j).bind λo=>(A j).bind λb=>kM [] {a with h:=a.h/256/256,T:=a.T.set j λY=>av,kn:=(λF=>F b=some o)::a.kn}
def Fc (P:eP) (b:St) (c:Code) (d:P6) (k:Result->Sem PySem.Fin):Rs:=cond (Nat.beq (b.h%256) 253) (fh (b.h/256%256) (AF (rd P b.m) b))
 (cond b.e none (cond (kA d) (cond (Nat.beq (b.h%256) 0||Nat.ble 254 (b.h%256)) (j0 (kN P (rd P b.m) b.T b.h c) λe t h q=>kM q (b.to h c e (.ret b.c d k b.κ) t))
  (u4 P (eF P b.m) b c d k λf h a=>tK P b d k f h a (ae a.nn λx=>P.adr (b.m+x)) (ae a.Pm λx=>P.tk (b.i+x)))) none))
def cb (P:eP) (b:St):Sem Fin->Rs
 | .pure f=>match f with
  | .done f=>cond b.e none (sM b (.ok f))
  | .again c=>u0 P (rd P b.m) b c
 | .raise e=>sM b (.error e)
 | .rule _ k=>kM [] (b.on b.h (k ()))
 | .at _ k=>kM [] (b.on b.h (k ()))
 | .point _ k=>kM [] (b.on b.h (k ()))
 | .ask k=>cond (Nat.beq (b.h%256) 0) (kM [] (b.on (b.h/256) (k P.G))) (kM [(.tree (k (ia true P.G)),.tree (k (ia false P.G)))] (b.on (b.h/256) (k (ia true P.G))))
 | .load a p k=>AE P (rd P b.m) (eF P b.m) b a p k
 | .update a _ f k=>Fb (rd P b.m) b a f k
 | .alloc o k=>Co P b o k
 | .fresh k=>kM [] {b.on b.h (k (P.tk b.i)) with i:=b.i+1}
 | .handled d k=>cond d none (kM [] (b.on b.h (k (cx P b.κ))))
 | .stack k=>kM [] {b.on b.h (k (kO (b.c::cy P.base b.κ) (P.Pp b.q))) with q:=b.q+1}
 | .call c g _ _ k=>Fc P b c g k
 |_=>none
noncomputable def yQ (P:eP):Nat->St->List (Ob×Ob)->List Prop->Option uQ
 |0,_,_,_=>none
 |n+1,st,q0,b=>match cb P st st.t with
  |some (q,f,r)=>match r with
   | .inl a=>yQ P n a (q++q0) (f++b)
   | .inr o=>some ⟨o.res,o.T,o.m,q++q0,f++b,o.kn⟩
  |none=>none
def start (P:eP) (h:Nat) (c:Code) (a:P7) (n:Nat):Option uQ:=
 (fi .nil 0 a).bind λT=>j0 (kN P (rd P a.length) T h c) λe t h q=>yQ P n {h,c,e,κ:=.base,t,T,m:=a.length,i:=0,q:=0,kn:=[]} q []
end
section
theorem dR {α β γ:Type} {o:Option (α×β)} {k:α->β->Option γ} {z:γ} (h:jZ o k=some z):∃a b,o=some (a,b)/\k a b=some z:=by
 cases o with
 |none=>injection h
 |some x=>exact ⟨x.1,x.2,rfl,h⟩
theorem fj {γ:Type} {o:Option In} {k:Bool->Sem Fin->Nat->List (Ob×Ob)->Option γ} {z:γ} (h:j0 o k=some z):∃r,o=some r/\k r.e r.t r.h r.q=some z:=by
 cases o with
 |none=>injection h
 |some r=>exact ⟨r,rfl,h⟩
def KO (P:eP) (n:Nat) (q0:List (Ob×Ob)) (b:List Prop) (x:List (Ob×Ob)×List Prop×(St⊕Fi)):Option uQ:=match x.2.2 with
 | .inl a=>yQ P n a (x.1++q0) (x.2.1++b)
 | .inr o=>some ⟨o.res,o.T,o.m,x.1++q0,x.2.1++b,o.kn⟩
theorem jv (P:eP) (n:Nat) (a:St) (q0:List (Ob×Ob)) (b:List Prop):yQ P (n+1) a q0 b=(cb P a a.t).bind (KO P n q0 b):=by
 show (match cb P a a.t with
  |some (q,f,r)=>match r with
   | .inl c=>yQ P n c (q++q0) (f++b)
   | .inr o=>some (⟨o.res,o.T,o.m,q++q0,f++b,o.kn⟩:uQ)
  |none=>none)=_
 cases cb P a a.t with
 |none=>rfl
 |some x=>rfl
theorem fM {P:eP}:∀{n:Nat} {b:St} {q:List (Ob×Ob)} {f:List Prop} {o:uQ},yQ P n b q f=some o->(∀x∈q,x∈o.eqs)/\(∀x∈f,x∈o.Pq)
 |0,_,_,_,_,h=>by injection h
 |n+1,b,q,f,o,h=>by
  rw [jv] at h;obtain ⟨⟨d,e,r⟩,_,h⟩:=Option.bind_eq_some_iff.mp h;cases r with
  |inl c=>exact ⟨λx a=>(fM h).1 x (List.mem_append_right _ a),λx a=>(fM h).2 x (List.mem_append_right _ a)⟩
  |inr g=>
   cases h;exact ⟨λx a=>List.mem_append_right _ a,λx a=>List.mem_append_right _ a⟩
theorem cB {α:Type} {b:Bool} {x y:Option α} {z:α} (h:cond b x y=some z):(b=true/\x=some z)\/(b=false/\y=some z):=by
 cases b with
 |true=>exact .inl ⟨rfl,h⟩
 |false=>exact .inr ⟨rfl,h⟩
theorem ee {α:Type} {b:Bool} {y:Option α} {z:α} (h:cond b none y=some z):b=false/\y=some z:=by
 cases b with
 |true=>injection h
 |false=>exact ⟨rfl,h⟩
theorem dA {α:Type} {b:Bool} {x:Option α} {z:α} (h:cond b x none=some z):b=true/\x=some z:=by
 cases b with
 |true=>exact ⟨rfl,h⟩
 |false=>injection h
section
variable {prog:Program} {w:World}
noncomputable def cK (top:Addr->Option Obj) (h:Heap):Prop:=∀a o,top a=some o->h.get? a=some o
structure fk (s s':Shared) (fs:Qa) (upd:P7) (nn:Nat) (news:P7) (adr:P4):Prop where
 keep:∀b o,s.1.get? b=some o->b∉fs.map (·.1)->s'.1.get? b=some o
 upd:∀(i:Nat) p o,fs[i]? =some p->upd[i]? =some o->o.isFreed=false->s'.1.get? p.1=some o
 new:∀(i:Nat) o,news[i]? =some o->s'.1.get? (adr i)=some o
 fresh:∀i,i<nn->s.1.1.size<=adr i
 below:∀i,i<nn->adr i<s'.1.1.size
 inj:∀i j,i<nn->j<nn->adr i=adr j->i=j
 size:s.1.1.size<=s'.1.1.size
 life:s'.1.life=s.1.life
 gens:s'.gens=s.gens
 drawn:s'.drawn=s.drawn
 os:s'.os=s.os
section
variable {α β:Type}
noncomputable def eM (M:Model) (A:Around) (C:P8) (c:Code) (t:Sem α) (Q:α->Shared->Prop) (E:Value->Shared->Prop) (s:Shared):Prop:=
 ∀(Γ:Ctx) (p:Pos),Γ.code=c->Γ.Below A->Γ.below.map (·.1)=C->Sem.wp M Γ t (λa Y b=>Q a b) (λe Y b=>E e b) p s
noncomputable def gT (M:Model) (A:Around) (C:P8) (c:Code) (R:Result->Shared->Prop) (s:Shared):Prop:=
 ∀(Γ:Ctx) (p:Pos),Γ.code=c->Γ.Below A->Γ.below.map (·.1)=C->wpCode M Γ R p s
noncomputable def mN (M:Model) (A:Around) (C:P8) (c:Code) (R:Result->Shared->Prop) (s:Shared):Prop:=
 ∀(Γ:Ctx) (p:Pos),Γ.In A->Γ.code::Γ.below.map (·.1)=C->wpCode M (Γ.enter c none p) R p s
def eH (i:Program) (w:World) (A:Around) (C:P8) (R:Result->Shared->Prop) (f:PySem.Fin) (s:Shared):Prop:=match f with
 | .done f=>R (.ok f) s
 | .again c=>c.quiet=true/\gT (model i w) A C c R s
def rr (i:Program) (w:World) (A:Around) (C:P8) (c:Code) (Q:α->Shared->Prop) (E:Value->Shared->Prop) (k:Result->Sem α) (r:Result) (s:Shared):Prop:=eM (model i w) A C c (k r) Q E s
variable {i:Program} {w:World} {A:Around} {C:P8} {c:Code} {Q:α->Shared->Prop} {E:Value->Shared->Prop} {s:Shared}
theorem bU {M:Model} {t:Sem α} (h:wpAny M (A.under c) t Q E s):eM M A C c t Q E s:=λΓ p b a Y=>h Γ p (b▸a.in)
theorem c6 {M:Model} {m:Sem β} {f:β->Sem α} (h:eM M A C c m (λa e=>eM M A C c (f a) Q E e) E s):eM M A C c (m>>=f) Q E s:=
 λΓ p g b j=>by
  simp only [Sem.wp_bind'];exact Sem.wp_mono M Γ m (λa k e d=>d Γ k g b j) (λY Y Y d=>d) p s (h Γ p g b j)
theorem nI {M:Model} {a:α} (h:Q a s):eM M A C c (Sem.pure a) Q E s:=λY Y Y Y Y=>h
theorem yR {M:Model} {e:Value} (h:E e s):eM M A C c (Sem.raise e:Sem α) Q E s:=λY Y Y Y Y=>h
theorem Cp {x:String} {k:Unit->Sem α} (h:eM (model i w) A C c (k ()) Q E s):eM (model i w) A C c (.rule x k) Q E s:=λΓ p a b d=>h Γ p a b d
theorem KP {x:Pos} {k:Unit->Sem α} (h:eM (model i w) A C c (k ()) Q E s):eM (model i w) A C c (.at x k) Q E s:=λΓ Y a b d=>h Γ x a b d
theorem yS {x:P5} {k:Unit->Sem α} (h:eM (model i w) A C c (k ()) Q E s):eM (model i w) A C c (.point x k) Q E s:=λΓ p a b d=>h Γ p a b d
theorem Fd {k:Setting->Sem α} (h:eM (model i w) A C c (k ⟨i,w.2⟩) Q E s):eM (model i w) A C c (.ask k) Q E s:=λΓ p a b d=>h Γ p a b d
theorem yT {k:Tok->Sem α} (h:eM (model i w) A C c (k s.toks) Q E {s with toks:=s.toks+1}):eM (model i w) A C c (.fresh k) Q E s:=λΓ p a b d=>h Γ p a b d
theorem tL {k:Option Value->Sem α} (h:eM (model i w) A C c (k A.handled) Q E s):eM (model i w) A C c (.handled false k) Q E s:=
 c6 (m:=handled) (f:=k) (λΓ p d b Y=>by
  have z:wpAny (model i w) (A.under c) handled (λa e=>eM (model i w) A C c (k a) Q E e) E s:=wpAny_handled (by exact h)
  exact z Γ p (d▸b.in))
theorem yU {k:List (Code×Pos)->Sem α} (h:∀(p:Pos) (a:List (Code×Pos)),a.map (·.1)=C->eM (model i w) A C c (k ((c,p)::a)) Q E s):eM (model i w) A C c (.stack k) Q E s:=λΓ p e b d=>by
 subst e;exact h p Γ.below d Γ p rfl b d
theorem Cq {d:Code} {b:P6} {g:Bool} {l:P5} {k:Result->Sem α} (e:b≠some byPass) (x:gT (model i w) ((A.under c).mark b) (c::C) d (rr i w A C c Q E k) s):eM (model i w) A C c (.call d b g l k) Q E s:=
 λΓ p f a h=>wpCode_mono (λY Y q=>q Γ p f a h) (x _ p rfl ((f▸a.in:Γ.In (A.under c)).enter d b p e) (by
  show Γ.code::Γ.below.map (·.1)=c::C;rw [f,h]))
theorem ic {R:Result->Shared->Prop} (h:eM (model i w) A C c (denote table c) (eH i w A C R) (postE R) s):gT (model i w) A C c R s:=λΓ p e a g=>by
 rw [wpCode_iff_wp,e];refine Sem.wp_mono (model i w) Γ _ (λd k l b=>?_) (λY Y Y b=>b) p s (h Γ p e a g);cases d with
 |done f=>exact b
 |again j=>exact ⟨b.1,b.2 (Γ.goto j) k rfl (a.goto j) g⟩
theorem u5 {R:Result->Shared->Prop} (h:codeAny (model i w) A c R s):gT (model i w) A C c R s:=λΓ p a b Y=>h Γ p a b
theorem gU {R:Result->Shared->Prop} (h:gT (model i w) A C c R s):mN (model i w) A C c R s:=λΓ p a b=>h _ p rfl (a.enter c none p (by intro e;injection e)) b
theorem mN.mark {R:Result->Shared->Prop} {a:P6} (d:a≠some byPass) (h:mN (model i w) (A.mark a) C c R s) (Γ:Ctx) (p:Pos) (b:Γ.In A) (e:Γ.code::Γ.below.map (·.1)=C):wpCode (model i w) (Γ.enter c a p) R p s:=by
 have f:markOver a Γ.handled Γ.past=a.or A.handled:=by rw [markOver_of_ne d,b.1]
 exact h {Γ with handled:=markOver a Γ.handled Γ.past,own:=markOver a Γ.own none} p ⟨f,b.2⟩ e
end
noncomputable def aK (M:Model) (A:Around) (c:Code) (R:Result->Shared->Prop) (s:Shared):Prop:=∀(Γ:Ctx) (p:Pos),Γ.In A->wpCode M (Γ.enter c none p) R p s
theorem cc {M:Model} {A:Around} {c:Code} {R:Result->Shared->Prop} {s:Shared} (h:codeAny M A c R s):aK M A c R s:=λΓ p a=>h _ p rfl (a.enter c none p (by intro e;injection e))
theorem aq {M:Model} {A:Around} {f:Value} {a:P5} {R:Result->Shared->Prop} {s:Shared} (h:wpAny M A (call f a) (λv b=>R (.ok (.ret v)) b) (λe b=>R (.error e) b) s):aK M A (.call f ⟨a,[]⟩) R s:=by
 intro Γ p c;have z:=h Γ p c;unfold call at z;simp only [Sem.wp_runValue] at z;refine wpCode_mono (λr b q=>?_) z;cases r with
 |error e=>exact q
 |ok f=>cases f<;>first|exact q|exact q.elim
noncomputable def Le (F b:aA):Prop:=∀a o,F a=some o->b a=some o
theorem Le.refl (F:aA):Le F F:=λY Y h=>h
theorem Le.trans {F c b:aA} (h:Le F c) (d:Le c b):Le F b:=λa o e=>d a o (h a o e)
noncomputable def fN (c:Qa) (b:P7) (a:Addr):Prop:=∃(i:Nat) (p:Addr×Obj) (o:Obj),c[i]? =some p/\b[i]? =some o/\o.isFreed=true/\a=p.1
structure ie (F F':aA) (s s':Shared) (S:Addr->Prop):Prop where
 le:Le F F'
 base:cK F' s'.1
 new:∀a o,F' a=some o->F a=some o\/s.1.1.size<=a\/S a
theorem aK.o {prog:Program} {w:World} {A:Around} {C:P8} {c:Code} {R:Result->Shared->Prop} {s:Shared} (h:aK (model prog w) A c R s):mN (model prog w) A C c R s:=λΓ p a Y=>h Γ p a
def sN (prog:Program) (w:World) (b:Around) (B:P8) (a:Result->Shared->Prop) (r:hZ) (s:Shared):Prop:=match r with
 | .end_ r=>a r s
 | .again c=>gT (model prog w) b B c a s
def Fe (prog:Program) (w:World) (F:aA) (d u:Nat) (C:P8) (H:P6) (c:Code) (m:Qa) (j:P4->P2->P7) (b f:Nat) (k:P4->P2->P7) (n:P4->P2->hZ) (e:P4->P2->Qb):Prop:=
 ∀(A:Around) (s:Shared) (R:Result->Shared->Prop),A.handled=H->A.depth+d<recursionLimit->A.units+u<cLine->cK F s.1->(∀p∈m,s.1.get? p.1=some p.2/\F p.1=none)->(m.map (·.1)).Nodup->
  (∀o a h q,ie F q s o (fN m (j (ae b a) (ae f h)))->(∀i,i<(k (ae b a) (ae f h)).length->q (a i)=none)->(∀g∈e (ae b a) (ae f h),∀l,Le q l->g l)->
   fk s o m (j (ae b a) (ae f h)) b (k (ae b a) (ae f h)) a->sN prog w A C R (n (ae b a) (ae f h)) o)->mN (model prog w) A C c R s
def mL.Ok (prog:Program) (w:World) (F:aA) (c:Code) (d:Qa) (kn:Qb) (C:P8) (H:P6) (a:mL):Prop:=
 (∀x∈a.eqs,x.1=x.2)->(∀x∈a.Pq,x)->(∀g∈kn,∀b,Le F b->g b)->Fe prog w F a.need a.Po C H c d a.upd a.nn a.Pm a.new a.res a.gives
def uX.Ok (prog:Program) (w:World) (c:Code) (a:Qa) (C:P8) (x:uX):Prop:=
 (∀y∈x.eqs,y.1=y.2)->∀(A:Around) (s:Shared) (Q:Fin->Shared->Prop) (E:Value->Shared->Prop),(∀p∈a,s.1.get? p.1=some p.2)->eM (model prog w) A C c x.next Q E s->eM (model prog w) A C c x.tree Q E s
noncomputable def bV (a:Around):Kt->Around
 | .base=>a
 | .ret c b _ κ=>((bV a κ).under c).mark b
noncomputable def fP (prog:Program) (w:World) (a:Around) (B:P8) (b:Result->Shared->Prop):Kt->Result->Shared->Prop
 | .base=>b
 | .ret c _ k κ=>rr prog w (bV a κ) (cy B κ) c (eH prog w (bV a κ) (cy B κ) (fP prog w a B b κ)) (postE (fP prog w a B b κ)) k
theorem fm (a:Around):∀κ:Kt,(bV a κ).depth=a.depth+jr κ
 | .base=>rfl
 | .ret c b k κ=>by
  show (bV a κ).depth+c.weight=a.depth+(c.weight+jr κ);rw [fm a κ];lia
theorem iM (a:Around):∀κ:Kt,(bV a κ).units=a.units+kL κ
 | .base=>rfl
 | .ret c b k κ=>by
  show (bV a κ).units+c.cUnits=a.units+(c.cUnits+kL κ);rw [iM a κ];lia
theorem dS {P:eP} (a:Around) (h:a.handled=P.PU):∀κ:Kt,(bV a κ).handled=cx P κ
 | .base=>h
 | .ret c b k κ=>by
  show b.or ((bV a κ).handled)=cx P (.ret c b k κ);rw [dS a h κ];cases b<;>rfl
noncomputable def gD:Fin->Sem Fin:=λa=>(enterFrame 0).bind λY=>.pure a
def tail (e:Bool) (t:Sem Fin):Sem Fin:=match e with
 |true=>t.bind gD
 |false=>t
theorem tM (e:Bool) (x:String) (k:Unit->Sem Fin):tail e (.rule x k)= .rule x λy=>tail e (k y):=by cases e<;>rfl
theorem yV (e:Bool) (x:Pos) (k:Unit->Sem Fin):tail e (.at x k)= .at x λy=>tail e (k y):=by cases e<;>rfl
theorem rt (e:Bool) (x:P5) (k:Unit->Sem Fin):tail e (.point x k)= .point x λy=>tail e (k y):=by cases e<;>rfl
theorem u6 (e:Bool) (k:Setting->Sem Fin):tail e (.ask k)= .ask λy=>tail e (k y):=by cases e<;>rfl
theorem jw (e:Bool) (a:Addr) (q:P6) (k:Obj->Sem Fin):tail e (.load a q k)= .load a q λy=>tail e (k y):=by cases e<;>rfl
theorem j2 (e:Bool) (a:Addr) (q:P6) (f:Obj->Obj) (k:Unit->Sem Fin):tail e (.update a q f k)= .update a q f λy=>tail e (k y):=by cases e<;>rfl
theorem fo (e:Bool) (o:Obj) (k:Addr->Sem Fin):tail e (.alloc o k)= .alloc o λy=>tail e (k y):=by cases e<;>rfl
theorem ru (e:Bool) (k:Tok->Sem Fin):tail e (.fresh k)= .fresh λy=>tail e (k y):=by cases e<;>rfl
theorem nJ (e o:Bool) (k:Option Value->Sem Fin):tail e (.handled o k)= .handled o λy=>tail e (k y):=by cases e<;>rfl
theorem rx (e:Bool) (k:List (Code×Pos)->Sem Fin):tail e (.stack k)= .stack λy=>tail e (k y):=by cases e<;>rfl
theorem ry (e:Bool) (v:Value):tail e (.raise v)= .raise v:=by cases e<;>rfl
theorem mO {α:Type} (X:Sem α) (Y:α->Sem Env) (a:Env->Code):(X.bind λb=>(Y b).bind λc=>(enterFrame 0).bind λV=>(again (a c):Sem Fin))=(X.bind λb=>(Y b).bind λc=>(again (a c):Sem Fin)).bind gD:=by
 simp only [Sem.bind_assoc];rfl
theorem fH {b:Addr} {fd:FuncData} {a:Args} (c:(fd.scope.isGenerator||fd.scope.isCoroutine)=false):callFunction b fd a=(jt b fd a).bind gD:=by
 obtain ⟨d,e⟩:=Bool.or_eq_false_iff.mp c;delta callFunction jt;simp only [d,e];cases fd.code
 case none=>exact mO (bindArgs fd a) _ _
 all_goals (
  show Sem.bind (field _ 1) _=(Sem.bind (field _ 1) _).bind gD;simp only [Sem.bind_assoc];refine congrArg (Sem.bind _) (funext λv=>?_);cases v<;>exact mO (bindArgs fd a) _ _)
structure kq (P:eP) (F₀:aA) (s₀:Shared) (m₀:Nat) (F:aA) (s:Shared) (T:BT) (m:Nat) (kn:Qb):Prop where
 own:∀j o,gl T j=some o->j<m/\s.1.get? (P.adr j)=some o
 inj:∀i j,i<m->j<m->P.adr i=P.adr j->i=j
 lt:∀j,j<m->P.adr j<s.1.1.size
 grow:ie F₀ F s₀ s λa=>∃j,j<m₀/\a=P.adr j
 off:∀j o,gl T j=some o->F (P.adr j)=none
 kn:∀g∈kn,∀F',Le F F'->g F'
 keep:∀b o,s₀.1.get? b=some o->(∀j,j<m₀->b≠P.adr j)->s.1.get? b=some o
 size:s₀.1.1.size<=s.1.1.size
 PA:∀j,m₀<=j->j<m->s₀.1.1.size<=P.adr j
 le:m₀<=m
 life:s.1.life=s₀.1.life
 gens:s.gens=s₀.gens
 drawn:s.drawn=s₀.drawn
 os:s.os=s₀.os
end
end
section
noncomputable def eP.at (P:eP) (adr:P4) (tk:P2) (Pp:Nat->List Pos):eP:={P with adr,tk,Pp}
set_option tactic.hygienic true in
theorem eI {T:BT} {j:Nat} {o:Obj} (h:gl T j=some o):T.get j=some o/\o.isFreed=false:=by
 unfold gl at h;split at h
 ·rename_i c a
  split at h
  ·rename_i b
   cases h;exact ⟨a,b⟩
  ·cases h
 ·injection h
theorem kP {T:BT} {j:Nat} {o:Obj} (h:T.get j=some o) (a:o.isFreed=false):gl T j=some o:=by
 unfold gl;rw [h];dsimp only;rw [a]
theorem yW (j:Nat):gl .nil j=none:=rfl
section
variable {P:eP} {v F:aA} {t s:Shared} {d m:Nat} {T:BT} {kn:Qb}
theorem kq.congr (D:kq P v t d F s T m kn) {c:P4} {tk:P2} {Pp:Nat->List Pos} (h:∀j,j<m->c j=P.adr j):kq (P.at c tk Pp) v t d F s T m kn where
 own j o e:=by
  obtain ⟨a,b⟩:=D.own j o e;exact ⟨a,by show s.1.get? (c j)=_;rw [h j a];exact b⟩
 inj i j g f e:=D.inj i j g f (by rw [<-h i g,<-h j f];exact e)
 lt j f:=by show c j<_;rw [h j f];exact D.lt j f
 grow:=⟨D.grow.le,D.grow.base,λa o e=>by
  rcases D.grow.new a o e with x|x|⟨j,f,x⟩
  ·exact .inl x
  ·exact .inr (.inl x)
  ·exact .inr (.inr ⟨j,f,by show a=c j;rw [h j (Nat.lt_of_lt_of_le f D.le)];exact x⟩)⟩
 off j o e:=by show F (c j)=none;rw [h j (D.own j o e).1];exact D.off j o e
 kn:=D.kn
 keep b o e q:=D.keep b o e λj f=>by rw [<-h j (Nat.lt_of_lt_of_le f D.le)];exact q j f
 size:=D.size
 PA j l k:=by show _<=c j;simp only [h j k];exact D.PA j l k
 le:=D.le
 life:=D.life
 gens:=D.gens
 drawn:=D.drawn
 os:=D.os
theorem kq.toks (D:kq P v t d F s T m kn) (k:Nat):kq P v t d F {s with toks:=k} T m kn:=⟨D.own,D.inj,D.lt,⟨D.grow.le,D.grow.base,D.grow.new⟩,D.off,D.kn,D.keep,D.size,D.PA,D.le,D.life,D.gens,D.drawn,D.os⟩
theorem kq.alloc (D:kq P v t d F s T m kn) {o:Obj} (p:o.isFreed=false) (n:((T.ins m o).get m).isSome=true) (g:P.adr m=s.1.1.size):kq P v t d F {s with heap:=s.1.push o} (T.ins m o) (m+1) kn where
 own j f e:=by
  have h:=eI e;have e:=h.1;rw [BT.get_ins o T m n] at e;by_cases c:j=m
  ·subst c
   rw [if_pos rfl] at e;cases e;exact ⟨Nat.lt_succ_self _,by show (s.1.push o).get? (P.adr j)=_;rw [g];exact Heap.get?_push_size _ p⟩
  ·rw [if_neg c] at e
   have z:=D.own j f (kP e h.2);exact ⟨Nat.lt_succ_of_lt z.1,Heap.get?_push_of_some _ z.2⟩
 inj i j k c e:=by
  rcases Nat.lt_succ_iff_lt_or_eq.mp k with k|rfl
  ·rcases Nat.lt_succ_iff_lt_or_eq.mp c with c|rfl
   ·exact D.inj i j k c e
   ·have:=D.lt i k;rw [e,g] at this;exact absurd this (Nat.lt_irrefl _)
  ·rcases Nat.lt_succ_iff_lt_or_eq.mp c with c|rfl
   ·have:=D.lt j c;rw [<-e,g] at this;exact absurd this (Nat.lt_irrefl _)
   ·rfl
 lt j c:=by
  rw [Heap.size_push];rcases Nat.lt_succ_iff_lt_or_eq.mp c with c|rfl
  ·exact Nat.lt_succ_of_lt (D.lt j c)
  ·rw [g];exact Nat.lt_succ_self _
 grow:=⟨D.grow.le,λa f e=>Heap.get?_push_of_some _ (D.grow.base a f e),D.grow.new⟩
 off j f e:=by
  have h:=eI e;have e:=h.1;rw [BT.get_ins o T m n] at e;by_cases c:j=m
  ·subst c
   rw [g];cases q:F s.1.1.size with
   |none=>rfl
   |some f=>exact absurd (Heap.lt_size (D.grow.base _ _ q)) (Nat.lt_irrefl _)
  ·rw [if_neg c] at e
   exact D.off j f (kP e h.2)
 kn:=D.kn
 keep b f e q:=Heap.get?_push_of_some _ (D.keep b f e q)
 size:=by show _<=(s.1.push o).objs.size;simp only [Heap.size_push];exact Nat.le_succ_of_le D.size
 PA j r l:=by
  rcases Nat.lt_succ_iff_lt_or_eq.mp l with l|rfl
  ·exact D.PA j r l
  ·rw [g];exact D.size
 le:=Nat.le_succ_of_le D.le
 life:=D.life
 gens:=D.gens
 drawn:=D.drawn
 os:=D.os
theorem kq.update (D:kq P v t d F s T m kn) {j:Nat} {o:Obj} {f:Obj->Obj} (n:gl T j=some o) (u:(f o).isFreed=false):kq P v t d F {s with heap:=s.1.update (P.adr j) f} (T.set j f) m kn:=by
 have z:=D.own j o n;have e:=(eI n).1;have p:Heap.SameBut (P.adr j) s.1 (s.1.update (P.adr j) f):=Heap.SameBut.update ..;have k:(s.1.update (P.adr j) f).objs.size=s.1.1.size:=p.1;refine ⟨λi h c=>?_,D.inj,λi g=>by show _<(s.1.update (P.adr j) f).objs.size;simp only [k];exact D.lt i g,⟨D.grow.le,λa h c=>?_,D.grow.new⟩,λi h c=>?_,D.kn,λb h c q=>?_,by show _<=(s.1.update (P.adr j) f).objs.size;simp only [k];exact D.size,D.PA,D.le,?_,D.gens,D.drawn,D.os⟩
 ·have l:=eI c
  have c:=l.1;rw [BT.get_set] at c;by_cases g:i=j
  ·subst g
   rw [if_pos rfl,e] at c;cases c;exact ⟨z.1,by first|exact Heap.get?_update_self f z.2 u|exact Heap.get?_update_self _ z.2 u⟩
  ·rw [if_neg g] at c
   have y:=D.own i h (kP c l.2);exact ⟨y.1,(p.2 _ λq=>g (D.inj i j y.1 z.1 q)).trans y.2⟩
 ·refine (p.2 a ?_).trans (D.grow.base a h c)
  rintro rfl;rw [D.off j o n] at c;injection c
 ·have l:=eI c
  have c:=l.1;rw [BT.get_set] at c;by_cases g:i=j
  ·subst g;exact D.off i o n
  ·rw [if_neg g] at c;exact D.off i h (kP c l.2)
 ·by_cases r:b=P.adr j
  ·by_cases w:j<d
   ·exact absurd r (q j w)
   ·subst r
    have:=Heap.lt_size c;exact absurd this (Nat.not_lt.mpr (D.PA j (Nat.le_of_not_lt w) z.1))
  ·exact (p.2 b r).trans (D.keep b h c q)
 ·exact D.life
theorem dT {T:BT}:∀{n h:Nat} {r:List (Nat×Obj)×Nat},cY T n h=some r->∀x∈r.1,gl T x.1=some x.2
 |0,_,_,e,x,hx=>by cases e;cases hx
 |n+1,h,r,e,x,hx=>by
  have e:fh (h%256) (λj=>match gl T j with
   |some o=>match cY T n (h/256) with
    |some (l,c)=>some ((j,o)::l,c)
    |none=>none
   |none=>none)=some r:=e
  rw [mM] at e;cases a:gl T (h%256) with
  |none=>rw [a] at e;injection e
  |some o=>
   rw [a] at e;cases b:cY T n (h/256) with
   |none=>rw [b] at e;injection e
   |some f=>
    rw [b] at e;cases e;rcases List.mem_cons.mp hx with rfl|hx
    ·exact a
    ·exact dT b x hx
theorem ep:∀{l:P1},dQ l=true->l.Nodup
 |[],_=>List.nodup_nil
 |x::l,h=>by
  unfold dQ at h;obtain ⟨a,b⟩:=Bool.and_eq_true_iff.mp h;refine List.nodup_cons.mpr ⟨λc=>?_,ep b⟩;have:=List.all_eq_true.mp a x c;rw [Nat.beq_refl] at this;injection this
theorem ig:∀{c:P1} {e:P7} {T:BT} {i:Nat} {o:Obj},c.Nodup->c.length=e.length->(ju T c e).get i=some o->(∃k:Nat,c[k]? =some i/\e[k]? =some o)\/(i∉c/\T.get i=some o)
 |[],[],T,i,o,_,_,h=>.inr ⟨List.not_mem_nil,h⟩
 |j::c,u::e,T,i,o,p,f,h=>by
  have g:=List.nodup_cons.mp p;have l:c.length=e.length:=by simpa using f
  rcases ig g.2 l (show (ju (T.set j λY=>u) c e).get i=some o from h) with ⟨k,a,b⟩|⟨a,b⟩
  ·exact .inl ⟨k+1,by simpa using a,by simpa using b⟩
  ·rw [BT.get_set] at b
   by_cases n:i=j
   ·subst n
    rw [if_pos rfl] at b;obtain ⟨x,_,r⟩:=Option.map_eq_some_iff.mp b;exact .inl ⟨0,rfl,by simp [r]⟩
   ·rw [if_neg n] at b
    exact .inr ⟨λq=>by rcases List.mem_cons.mp q with q|q;exact n q;exact a q,b⟩
 |[],_::_,_,_,_,_,f,_=>by simp at f
 |_::_,[],_,_,_,_,f,_=>by simp at f
set_option tactic.hygienic true in
theorem fp:∀{c:P7} {T f:BT} {m i:Nat} {o:Obj},fi T m c=some f->f.get i=some o->(∃k:Nat,i=m+k/\c[k]? =some o)\/((∀k,k<c.length->i≠m+k)/\T.get i=some o)
 |[],T,f,m,i,o,h,e=>by
  cases h;exact .inr ⟨λk g=>absurd g (Nat.not_lt_zero _),e⟩
 |u::c,T,f,m,i,o,h,e=>by
  unfold fi at h;split at h
  ·rename_i x l
   rcases fp h e with ⟨k,a,b⟩|⟨a,b⟩
   ·exact .inl ⟨k+1,by lia,by simpa using b⟩
   ·rw [BT.get_ins u T m (by rw [l];rfl)] at b
    by_cases j:i=m
    ·subst j
     rw [if_pos rfl] at b;exact .inl ⟨0,rfl,by simpa using b⟩
    ·rw [if_neg j] at b
     refine .inr ⟨λk g=>?_,b⟩;cases k with
     |zero=>exact j
     |succ k=>have:=a k (by simpa using g);lia
  ·injection h
theorem kq.PS (D:kq P v t d F s T m kn) {Q:aA} {s':Shared} {A:List (Nat×Obj)} {B l:P7} {nn:Nat} {T':BT} {gv:Qb} (w:∀x∈A,gl T x.1=some x.2) (hn:(A.map (·.1)).Nodup) (hu:B.length=A.length) (Pp:l.length<=nn)
  (hT:fi (ju T (A.map (·.1)) B) m l=some T') (G:ie F Q s s' (fN (A.map λx=>(P.adr x.1,x.2)) B)) (V:∀i,i<l.length->Q (P.adr (m+i))=none) (Po:∀g∈gv,∀E,Le Q E->g E) (X:fk s s' (A.map λx=>(P.adr x.1,x.2)) B nn l λx=>P.adr (m+x)):kq P v t d Q s' T' (m+nn) (gv++kn):=by
 have Y:∀b,b∈(A.map λx=>(P.adr x.1,x.2)).map (·.1)->∃x∈A,b=P.adr x.1:=λb hb=>by
  obtain ⟨y,hy,rfl⟩:=List.mem_map.mp hb;obtain ⟨x,n,rfl⟩:=List.mem_map.mp hy;exact ⟨x,n,rfl⟩
 have H:∀j o,gl T j=some o->(∀(k:Nat) x u,A[k]? =some x->B[k]? =some u->u.isFreed=true->j≠x.1)->Q (P.adr j)=none:=λj o e hg=>by
  cases q:Q (P.adr j) with
  |none=>rfl
  |some o'=>
   rcases G.new _ _ q with h|h|⟨k,p,u,r,C,I,J⟩
   ·rw [D.off j o e] at h;cases h
   ·exact absurd (D.lt j (D.own j o e).1) (Nat.not_lt.mpr h)
   ·rw [List.getElem?_map] at r
    obtain ⟨x,n,rfl⟩:=Option.map_eq_some_iff.mp r;exact absurd (D.inj j x.1 (D.own j o e).1 (D.own x.1 x.2 (w x (List.mem_of_getElem? n))).1 J) (hg k x u n C I)
 refine ⟨λj o e=>?_,λi j hi L e=>?_,λj L=>?_,⟨D.grow.le.trans G.le,G.base,λa o e=>?_⟩,λj o e=>?_,λg hg=>?_,λb o e q=>?_,Nat.le_trans D.size X.size,λj r C=>?_,Nat.le_trans D.le (Nat.le_add_right _ _),X.life.trans D.life,X.gens.trans D.gens,X.drawn.trans D.drawn,X.os.trans D.os⟩
 ·have N:=eI e
  rcases fp hT N.1 with ⟨k,rfl,U⟩|⟨U,e'⟩
  ·have:k<l.length:=(List.getElem?_eq_some_iff.mp U).1
   exact ⟨by lia,X.new k o U⟩
  ·rcases ig hn (by rw [List.length_map];exact hu.symm) e' with ⟨k,a,b⟩|⟨a,b⟩
   ·rw [List.getElem?_map] at a
    obtain ⟨x,n,rfl⟩:=Option.map_eq_some_iff.mp a;have z:=D.own x.1 x.2 (w x (List.mem_of_getElem? n));exact ⟨Nat.lt_of_lt_of_le z.1 (Nat.le_add_right _ _),X.upd k (P.adr x.1,x.2) o (by rw [List.getElem?_map,n];rfl) b N.2⟩
   ·have z:=D.own j o (kP b N.2)
    refine ⟨Nat.lt_of_lt_of_le z.1 (Nat.le_add_right _ _),X.keep _ _ z.2 λhb=>?_⟩;obtain ⟨x,n,ex⟩:=Y _ hb;have y:=D.own x.1 x.2 (w x n);have:=D.inj j x.1 z.1 y.1 ex;exact a (by rw [this];exact List.mem_map_of_mem (f:=(·.1)) n)
 ·by_cases r:i<m
  ·by_cases C:j<m
   ·exact D.inj i j r C e
   ·have a:=D.lt i r
    have b:=X.fresh (j-m) (by lia)
    have c:m+(j-m)=j:=by lia
    (try dsimp only at b)
    rw [c] at b;rw [e] at a;exact absurd a (Nat.not_lt.mpr b)
  ·by_cases C:j<m
   ·have a:=D.lt j C
    have b:=X.fresh (i-m) (by lia)
    have c:m+(i-m)=i:=by lia
    (try dsimp only at b)
    rw [c] at b;rw [<-e] at a;exact absurd a (Nat.not_lt.mpr b)
   ·have:=X.inj (i-m) (j-m) (by lia) (by lia) (by (try dsimp only);rw [show m+(i-m)=i by lia,show m+(j-m)=j by lia];exact e)
    lia
 ·by_cases r:j<m
  ·exact Nat.lt_of_lt_of_le (D.lt j r) X.size
  ·have b:=X.below (j-m) (by lia)
   (try dsimp only at b)
   rw [show m+(j-m)=j by lia] at b
   exact b
 ·rcases G.new a o e with h|h|⟨k,p,u,r,C,I,J⟩
  ·exact D.grow.new a o h
  ·exact .inr (.inl (Nat.le_trans D.size h))
  ·rw [List.getElem?_map] at r
   obtain ⟨x,n,rfl⟩:=Option.map_eq_some_iff.mp r;by_cases L:x.1<d
   ·exact .inr (.inr ⟨x.1,L,J⟩)
   ·rw [J]
    exact .inr (.inl (D.PA x.1 (Nat.le_of_not_lt L) (D.own x.1 x.2 (w x (List.mem_of_getElem? n))).1))
 ·have N:=eI e
  rcases fp hT N.1 with ⟨k,rfl,U⟩|⟨U,e'⟩
  ·exact V k (List.getElem?_eq_some_iff.mp U).1
  ·rcases ig hn (by rw [List.length_map];exact hu.symm) e' with ⟨k,a,b⟩|⟨a,b⟩
   ·have a0:=a
    rw [List.getElem?_map] at a;obtain ⟨x,n,rfl⟩:=Option.map_eq_some_iff.mp a;refine H _ _ (w x (List.mem_of_getElem? n)) λO x' u r C I J=>?_;have a1:(A.map (·.1))[O]? =some x.1:=by rw [List.getElem?_map,r];exact congrArg some J.symm
    have Pm:k<(A.map (·.1)).length:=(List.getElem?_eq_some_iff.mp a0).1;have Pn:O<(A.map (·.1)).length:=(List.getElem?_eq_some_iff.mp a1).1;have g1:=(List.getElem?_eq_some_iff.mp a0).2;have g2:=(List.getElem?_eq_some_iff.mp a1).2;have ek:k=O:=by
     have pw:=List.pairwise_iff_getElem.mp hn;rcases Nat.lt_trichotomy k O with q|q|q
     ·exact absurd (g1.trans g2.symm) (pw k O Pm Pn q)
     ·exact q
     ·exact absurd (g2.trans g1.symm) (pw O k Pn Pm q)
    subst ek;rw [b] at C;cases C;rw [N.2] at I;injection I
   ·exact H _ _ (kP b N.2) λO x' u r C I J=>a (by rw [J];exact List.mem_map_of_mem (f:=(·.1)) (List.mem_of_getElem? r))
 ·rcases List.mem_append.mp hg with h|h
  ·exact Po g h
  ·exact λE h'=>D.kn g h E (G.le.trans h')
 ·refine X.keep _ _ (D.keep b o e q) λhb=>?_
  obtain ⟨x,n,ex⟩:=Y _ hb;have y:=D.own x.1 x.2 (w x n);by_cases L:x.1<d
  ·exact q x.1 L ex
  ·have:=Heap.lt_size e
   rw [ex] at this;exact absurd this (Nat.not_lt.mpr (D.PA x.1 (Nat.le_of_not_lt L) y.1))
 ·by_cases I:j<m
  ·exact D.PA j r I
  ·have b:=X.fresh (j-m) (by lia)
   (try dsimp only at b)
   rw [show m+(j-m)=j by lia] at b
   exact Nat.le_trans D.size b
theorem kq.freeze (D:kq P v t d F s T m kn) {j:Nat} {o:Obj} (e:gl T j=some o):kq P v t d (λa=>if a=P.adr j then some o else F a) s (T.set j λY=>av) m ((λF=>F (P.adr j)=some o)::kn):=by
 have z:=D.own j o e;have p:Le F (λa=>if a=P.adr j then some o else F a):=λa b h=>by
  dsimp only;by_cases f:a=P.adr j
  ·rw [f,D.off j o e] at h;cases h
  ·rw [if_neg f];exact h
 have c:∀i b,gl (T.set j λY=>av) i=some b->i≠j/\gl T i=some b:=λi b h=>by
  have n:=eI h;have k:=n.1;rw [BT.get_set] at k;by_cases l:i=j
  ·rw [if_pos l] at k
   obtain ⟨x,_,y⟩:=Option.map_eq_some_iff.mp k;rw [<-y] at n;cases n.2
  ·rw [if_neg l] at k
   exact ⟨l,kP k n.2⟩
 refine ⟨λi b h=>D.own i b (c i b h).2,D.inj,D.lt,⟨D.grow.le.trans p,λa b h=>?_,λa b h=>?_⟩,λi b h=>?_,λg hg A r=>?_,D.keep,D.size,D.PA,D.le,D.life,D.gens,D.drawn,D.os⟩
 ·by_cases f:a=P.adr j
  ·rw [if_pos f] at h;cases h;rw [f];exact z.2
  ·rw [if_neg f] at h;exact D.grow.base a b h
 ·by_cases f:a=P.adr j
  ·by_cases u:j<d
   ·exact .inr (.inr ⟨j,u,f⟩)
   ·rw [f];exact .inr (.inl (D.PA j (Nat.le_of_not_lt u) z.1))
  ·rw [if_neg f] at h;exact D.grow.new a b h
 ·have l:=(c i b h).1
  have w:=(c i b h).2;rw [if_neg λq=>l (D.inj i j (D.own i b w).1 z.1 q)];exact D.off i b w
 ·rcases List.mem_cons.mp hg with rfl|hg
  ·exact r _ _ (if_pos rfl)
  ·exact D.kn g hg A (p.trans r)
end
end
section
theorem pz (G:Setting):ia (G.params.followText "special-get-raises") G=G:=by
 obtain ⟨b,a⟩:=G;have h:(λr=>match Nat.beq (PySem.code r) 0x7466746a62732e7566682e6d626a64667174 with
   |true=>a.followText "special-get-raises"
   |false=>a.followText r)=a.followText:=by
  funext r;cases q:Nat.beq (PySem.code r) 0x7466746a62732e7566682e6d626a64667174 with
  |true=>
   have e:r="special-get-raises":=code_inj _ _ ((Nat.eq_of_beq_eq_true q).trans (by kernel_rfl))
   simp only [e]
  |false=>rfl
 exact congrArg (λf:String->Bool=>(⟨b,{a with followText:=f}⟩:Setting)) h
structure rz (prog:Program) (w:World) (A₀:Around) (F₀:aA) (P:eP):Prop where
 den:P.den=denote table
 G:P.G=⟨prog,w.2⟩
 top:Le P.top F₀
 lim:∀h,cK F₀ h->h.NoLimit
 O:∀id c fs kn C H a,P.O id c fs kn C H=some a->∀F,Le F₀ F->a.Ok prog w F c fs kn C H
 Py:∀j x,P.Py j=some x->F₀ x.1=some x.2
 depth:A₀.depth+P.PI<recursionLimit
 units:A₀.units+P.PJ<cLine
 handled:A₀.handled=P.PU
 X:∀id c fs C x,P.X id c fs C=some x->x.Ok prog w c fs C
theorem rz.at {a:Program} {w:World} {b:Around} {c:aA} {P:eP} (H:rz a w b c P) (d:P4) (e:P2) (f:Nat->List Pos):rz a w b c (P.at d e f):=⟨H.den,H.G,H.top,H.lim,H.O,H.Py,H.depth,H.units,H.handled,H.X⟩
theorem jx {n:Nat} {f g:Nat->Nat} (h:∀x,x<n->f x=g x):ae n f=ae n g:=by
 funext x;unfold ae;cases q:Nat.blt x n with
 |false=>rfl
 |true=>exact h x (Nat.le_of_ble_eq_true q)
theorem mP {P:eP} {a:P4} {tk:P2} {Pp:Nat->List Pos} {m:Nat} (h:∀j,j<m->a j=P.adr j):rd (P.at a tk Pp) m=rd P m:=by
 funext j;show cond (Nat.blt j m) (some (a j)) none=cond (Nat.blt j m) (some (P.adr j)) none;cases q:Nat.blt j m with
 |false=>rfl
 |true=>exact congrArg some (h j (Nat.le_of_ble_eq_true q))
theorem u7 {P:eP} {m j:Nat} {b:Addr} (h:rd P m j=some b):P.adr j=b:=by
 unfold rd at h;cases q:Nat.blt j m with
 |false=>rw [q] at h;injection h
 |true=>rw [q] at h;exact Option.some.inj h
def kQ (P:eP) (n:Nat) (b:St) (q:List (Ob×Ob)) (f:List Prop) (Φ:eP->uQ->Prop):Prop:=
 ∀a c d,(∀j,j<b.m->a j=P.adr j)->(∀j,j<b.i->c j=P.tk j)->(∀j,j<b.q->d j=P.Pp j)->∃o,yQ (P.at a c d) n b q f=some o/\Φ (P.at a c d) o
theorem kQ.go {P:eP} {n:Nat} {g st':St} {q q':List (Ob×Ob)} {f f':List Prop} {Φ:eP->uQ->Prop} (H:kQ P (n+1) g q f Φ) (a:P4) (c:P2) (b:Nat->List Pos) (r:g.m<=st'.m) (s:g.i<=st'.i) (t:g.q<=st'.q)
  (u:∀j,j<g.m->a j=P.adr j) (v:∀j,j<g.i->c j=P.tk j) (w:∀j,j<g.q->b j=P.Pp j)
  (y:∀d i k,(∀j,j<st'.m->d j=a j)->(∀j,j<st'.i->i j=c j)->(∀j,j<st'.q->k j=b j)->cb (P.at d i k) g g.t=some (q',f',.inl st')):kQ (P.at a c b) n st' (q'++q) (f'++f) Φ:=λd i k l m p=>by
 obtain ⟨o,e,x⟩:=H d i k (λj h=>(l j (Nat.lt_of_lt_of_le h r)).trans (u j h)) (λj h=>(m j (Nat.lt_of_lt_of_le h s)).trans (v j h)) (λj h=>(p j (Nat.lt_of_lt_of_le h t)).trans (w j h));rw [jv,y d i k l m p] at e;exact ⟨o,e,x⟩
theorem kQ.now {P:eP} {n:Nat} {a:St} {q:List (Ob×Ob)} {f:List Prop} {Φ:eP->uQ->Prop} (H:kQ P n a q f Φ):∃o,yQ P n a q f=some o/\Φ P o:=H P.adr P.tk P.Pp (λY Y=>rfl) (λY Y=>rfl) λY Y=>rfl
structure Ev where
 prog:Program
 w:World
 A:Around
 R:Result->Shared->Prop
 F:aA
 s:Shared
 m:Nat
def Ff (E:Ev) (P:eP) (o:uQ):Prop:=
 (∀x∈o.eqs,x.1=x.2)/\(∀x∈o.Pq,x)/\∀a b,kq P E.F E.s E.m b a o.T o.m o.kn->sN E.prog E.w E.A P.base E.R o.res a
def cL (E:Ev) (B:P8) (a:St) (t:Sem Fin) (s:Shared):Prop:=
 eM (model E.prog E.w) (bV E.A a.κ) (cy B a.κ) a.c (tail a.e t) (eH E.prog E.w (bV E.A a.κ) (cy B a.κ) (fP E.prog E.w E.A B E.R a.κ)) (postE (fP E.prog E.w E.A B E.R a.κ)) s
structure my (E:Ev) (n:Nat) (P:eP) (st:St) (q:List (Ob×Ob)) (f:List Prop) (F:aA) (s:Shared):Prop where
 HP:rz E.prog E.w E.A E.F P
 H:kQ P n st q f (Ff E)
 D:kq P E.F E.s E.m F s st.T st.m st.kn
def sO (E:Ev) (n:Nat):Prop:=∀P st q f F s,my E n P st q f F s->cL E P.base st st.t s
section
variable {E:Ev} {n:Nat} {P:eP} {d i:St} {q l:List (Ob×Ob)} {f p:List Prop} {F v:aA} {s u:Shared} {t t':Sem Fin} {B:P8}
theorem kQ.eqs (H:kQ P n d q f (Ff E)):(∀x∈q,x.1=x.2)/\(∀x∈f,x):=by
 obtain ⟨o,e,x⟩:=H.now;exact ⟨λy a=>x.1 y ((fM e).1 y a),λy a=>x.2.1 y ((fM e).2 y a)⟩
theorem cL.of (e:tail d.e t=t') (z:eM (model E.prog E.w) (bV E.A d.κ) (cy B d.κ) d.c t' (eH E.prog E.w (bV E.A d.κ) (cy B d.κ) (fP E.prog E.w E.A B E.R d.κ)) (postE (fP E.prog E.w E.A B E.R d.κ)) s):cL E B d t s:=by
 unfold cL;rw [e];exact z
theorem cL.out (e:d.e=false) (z:cL E B d t s):eM (model E.prog E.w) (bV E.A d.κ) (cy B d.κ) d.c t (eH E.prog E.w (bV E.A d.κ) (cy B d.κ) (fP E.prog E.w E.A B E.R d.κ)) (postE (fP E.prog E.w E.A B E.R d.κ)) s:=by
 unfold cL at z;rw [e] at z;exact z
theorem my.step (S:my E (n+1) P d q f F s) (a:d.t=t):∃x,cb P d t=some x:=by
 obtain ⟨o,e,_⟩:=S.H.now;rw [jv] at e;obtain ⟨x,b,_⟩:=Option.bind_eq_some_iff.mp e;exact ⟨x,a▸b⟩
theorem my.PF (S:my E (n+1) P d q f F s) (m:d.t=t) (e:cb P d t=some (l,p,.inl i)) (c:∀b g h,(∀j,j<d.m->b j=P.adr j)->cb (P.at b g h) d t=cb P d t) (k:i.m=d.m:=by rfl) (o:i.i=d.i:=by rfl) (r:i.q=d.q:=by rfl):kQ P n i (l++q) (p++f) (Ff E):=
 S.H.go P.adr P.tk P.Pp (Nat.le_of_eq k.symm) (Nat.le_of_eq o.symm) (Nat.le_of_eq r.symm) (λY Y=>rfl) (λY Y=>rfl) (λY Y=>rfl) λb g h a Y Y=>by
  rw [m];exact (c b g h λj w=>a j (by rw [k];exact w)).trans e
theorem my.fin {r:hZ} (S:my E (n+1) P d q f F s) (b:d.t=t) (e:cb P d t=Ck d r):sN E.prog E.w E.A P.base E.R r s:=by
 obtain ⟨o,a,x⟩:=S.H.now;rw [jv,b,e] at a;cases a;exact x.2.2 s F S.D
theorem sP {T:BT} {m h:Nat} {a:Addr} {kn:Qb} {x:Obj×List (Ob×Ob)} (j:rz E.prog E.w E.A E.F P) (D:kq P E.F E.s E.m F s T m kn) (e:uY P (rd P m) T h a=some x) (k:∀y∈x.2,y.1=y.2):s.1.get? a=some x.1:=by
 rcases cB e with ⟨_,e⟩|⟨_,e⟩
 ·obtain ⟨o,c,g⟩:=Option.bind_eq_some_iff.mp e
  cases g;exact D.grow.base a o (D.grow.le a o (j.top a o c))
 ·rcases cB e with ⟨_,e⟩|⟨_,e⟩
  ·obtain ⟨y,c,g⟩:=Option.bind_eq_some_iff.mp e
   cases g;exact (congrArg s.1.get? (Ob.adr.inj (k _ (.head _)))).trans (D.grow.base _ _ (D.grow.le _ _ (j.Py _ _ c)))
  ·obtain ⟨o,c,g⟩:=Option.bind_eq_some_iff.mp e
   obtain ⟨b,r,w⟩:=Option.bind_eq_some_iff.mp g;cases w;exact (congrArg s.1.get? ((Ob.adr.inj (k _ (.head _))).trans (u7 r).symm)).trans (D.own _ _ c).2
theorem fq {A:Around} {C:P8} {Q:Fin->Shared->Prop} {W:Value->Shared->Prop} {T:BT} {h m:Nat} {c:Code} {kn:Qb} {r:In} (G:rz E.prog E.w E.A E.F P) (D:kq P E.F E.s E.m F s T m kn)
  (g:kN P (rd P m) T h c=some r) (I:∀x∈r.q,x.1=x.2) (z:eM (model E.prog E.w) A C c (tail r.e r.t) Q W s):eM (model E.prog E.w) A C c (denote table c) Q W s:=by
 rcases cB g with ⟨_,g⟩|⟨_,g⟩
 ·cases g
  exact G.den▸z
 obtain ⟨b,e,w,g⟩:=dR g;have J:c= .call (.ref b) e:=by
  cases c with
  |call f e=>
   cases f with
   |ref a=>cases w;rfl
   |_=>injection w
  |_=>injection w
 have j:∀{k H},jZ (uY P (rd P m) T k b) (yP b e H)=some r->eM (model E.prog E.w) A C c (denote table c) Q W s:=λ{k H} g=>by
  obtain ⟨o,q,L,g⟩:=dR g;unfold yP at g;cases y:o.data with
  |func U=>
   rw [y] at g;obtain ⟨N,g⟩:=ee g;cases g;have O:=sP G D L I;subst J;show eM (model E.prog E.w) A C _ (callAny (.ref b) e) Q W s;unfold callAny;refine c6 (bU (wpAny_load O ?_));rw [y];dsimp only;rw [fH N];exact z
  |_=>rw [y] at g;injection g
 rcases cB g with ⟨_,g⟩|⟨_,g⟩
 ·exact j g
 ·exact j (dA g).2
end
end
section
theorem mQ {a:P6} (h:kA a=true):a≠some byPass:=by
 rintro rfl;cases h
theorem iN {α β:Type} {f:α->β}:∀{l:List α},(∀a,a∈l->∀b,b∈l->f a=f b->a=b)->l.Nodup->(l.map f).Nodup
 |[],_,_=>List.nodup_nil
 |x::l,h,g=>by
  have c:=List.nodup_cons.mp g;simp only [List.map_cons];refine List.nodup_cons.mpr ⟨λi=>?_,iN (λa j b k=>h a (.tail _ j) b (.tail _ k)) c.2⟩;obtain ⟨y,d,e⟩:=List.mem_map.mp i;have:=h y (.tail _ d) x (.head _) e;exact c.1 (this▸d)
theorem rA {κ:Kt} (h:uZ κ=true):κ= .base:=by
 cases κ with
 |base=>rfl
 |ret c a k κ=>injection h
section
variable {E:Ev} {n:Nat} {P:eP} {st:St} {q:List (Ob×Ob)} {f:List Prop} {F:aA} {s:Shared}
theorem my.on {t:Sem Fin} {a:St} {g:List (Ob×Ob)} {h:List Prop} {i:aA} {d:Shared} (k:sO E n) (S:my E (n+1) P st q f F s) (l:st.t=t) (e:cb P st t=some (g,h,.inl a)) (b:∀c m o,(∀j,j<st.m->c j=P.adr j)->cb (P.at c m o) st t=cb P st t)
  (D:kq P E.F E.s E.m i d a.T a.m a.kn) (p:a.m=st.m:=by rfl) (r:a.i=st.i:=by rfl) (u:a.q=st.q:=by rfl):cL E P.base a a.t d:=
 k _ _ _ _ _ _ ⟨S.HP,S.PF l e b p r u,D⟩
theorem mR {a:P4} {b:P2} {c:Nat->List Pos} {m:Nat} (h:∀j,j<m->a j=P.adr j):eF (P.at a b c) m=eF P m:=by
 funext l;show cond (l.all λx=>Nat.blt x.1 m) (some (l.map λx=>(a x.1,x.2))) none=cond (l.all λx=>Nat.blt x.1 m) (some (l.map λx=>(P.adr x.1,x.2))) none;cases q:l.all λx=>Nat.blt x.1 m with
 |false=>rfl
 |true=>exact congrArg some (List.map_congr_left λx d=>congrArg (·,x.2) (h _ (Nat.le_of_ble_eq_true (List.all_eq_true.mp q x d))))
theorem ij {m:Nat} {l:List (Nat×Obj)} {a:Qa} (h:eF P m l=some a):a=l.map λx=>(P.adr x.1,x.2):=(Option.some.inj (dA h).2).symm
theorem pA {T:BT} {m k h:Nat} {kn:Qb} {r:List (Nat×Obj)×Nat} {a:Qa} (D:kq P E.F E.s E.m F s T m kn) (e:cY T k h=some r) (c:eF P m r.1=some a):∀p∈a,s.1.get? p.1=some p.2/\F p.1=none:=λp b=>by
 rw [ij c] at b;obtain ⟨x,d,rfl⟩:=List.mem_map.mp b;have g:=dT e x d;exact ⟨(D.own _ _ g).2,D.off _ _ g⟩
theorem fQ {a:P4} {b:P2} {d:Nat->List Pos}:∀κ,cx (P.at a b d) κ=cx P κ
 | .base=>rfl
 | .ret c e k κ=>by delta cx;cases e<;>first|rfl|exact fQ κ
theorem Fg {k:Setting->Sem Fin} (a:sO E n) (S:my E (n+1) P st q f F s) (b:st.t= .ask k):cL E P.base st (.ask k) s:=by
 refine .of (u6 _ _) (Fd ?_);show cL E P.base st (k ⟨E.prog,E.w.params⟩) s;rw [<-S.HP.G];cases c:Nat.beq (st.h%256) 0 with
 |true=>exact S.on a b (congrArg (cond · _ _) c) (λY Y Y Y=>rfl) S.D
 |false=>
  have W:=S.PF b (congrArg (cond · _ _) c) λY Y Y Y=>rfl;have d:k (ia true P.G)=k (ia false P.G):=Ob.tree.inj (W.eqs.1 _ (.head _));have e:k (ia true P.G)=k P.G:=by
   have r:=pz P.G;cases q:P.G.params.followText "special-get-raises" with
   |true=>rw [q] at r;exact congrArg k r
   |false=>rw [q] at r;exact d.trans (congrArg k r)
  rw [<-e];exact a _ _ _ _ _ _ ⟨S.HP,W,S.D⟩
theorem Ct {a:Addr} {p:P6} {k:Obj->Sem Fin} (l:sO E n) (S:my E (n+1) P st q f F s) (c:st.t= .load a p k):cL E P.base st (.load a p k) s:=by
 obtain ⟨x,e⟩:=S.step c;have same:∀b u v,(∀j,j<st.m->b j=P.adr j)->cb (P.at b u v) st (.load a p k)=cb P st (.load a p k):=λY Y Y r=>by
  show AE P _ _ st a p k=_;rw [mP r,mR r];rfl
 rcases cB (show cond _ _ _=some x from e) with ⟨_,h⟩|⟨_,h⟩
 ·obtain ⟨t,h⟩:=ee h
  obtain ⟨B,C,w,h⟩:=dR h;obtain ⟨D,d,h⟩:=Option.bind_eq_some_iff.mp h;obtain ⟨y,g,h⟩:=Option.bind_eq_some_iff.mp h;have W:=S.PF c (e.trans h.symm) same;have z:cL E P.base st y.next s:=l _ _ _ _ _ _ ⟨S.HP,W,S.D⟩;refine .of (t':=y.tree) ?_ (S.HP.X _ _ _ _ _ g (λx i=>W.eqs.1 x (.tail _ (List.mem_append_left _ i))) _ _ _ _ (λp g=>(pA S.D w d p g).1) (z.out t));rw [t];exact Ob.tree.inj (W.eqs.1 _ (.head _))
 ·obtain ⟨o,q,A,h⟩:=dR h
  have W:=S.PF c (e.trans h.symm) same;exact .of (jw _ _ _ _) (c6 (m:=loadPart a p) (f:=λy=>tail st.e (k y)) (bU (wpAny_loadPart (sP S.HP S.D A λx i=>W.eqs.1 x (List.mem_append_left _ i)) (l _ _ _ _ _ _ ⟨S.HP,W,S.D⟩))))
theorem u9 {a:Addr} {p:P6} {g:Obj->Obj} {k:Unit->Sem Fin} (j:sO E n) (S:my E (n+1) P st q f F s) (c:st.t= .update a p g k):cL E P.base st (.update a p g k) s:=by
 obtain ⟨x,e⟩:=S.step c;obtain ⟨_,h⟩:=ee (show cond _ _ _=some x from e)
 obtain ⟨o,d,h⟩:=Option.bind_eq_some_iff.mp h;obtain ⟨b,l,h⟩:=Option.bind_eq_some_iff.mp h;obtain ⟨r,h⟩:=ee h;have W:=S.PF c (e.trans h.symm) λY Y Y t=>congrArg (λA=>Fb A st a g k) (mP t);have y:=S.D.own _ _ d;have i:a=P.adr (st.h%256-1):=(Ob.adr.inj (W.eqs.1 _ (.head _))).trans (u7 l).symm;refine .of (j2 _ _ _ _ _) (c6 (m:=updatePart a p g) (f:=λy=>tail st.e (k y)) (bU (wpAny_updatePart (by rw [i];exact y.2) ?_)))
 rw [i];exact j _ _ _ _ _ _ ⟨S.HP,W,S.D.update d r⟩
theorem yX {o:Obj} {k:Addr->Sem Fin} (l:sO E n) (S:my E (n+1) P st q f F s) (b:st.t= .alloc o k):cL E P.base st (.alloc o k) s:=by
 obtain ⟨x,e⟩:=S.step b;obtain ⟨c,h⟩:=ee (show cond _ _ _=some x from e)
 obtain ⟨t,d,h⟩:=Option.bind_eq_some_iff.mp h;have g:∀j,j<st.m->(if j=st.m then s.1.1.size else P.adr j)=P.adr j:=λj p=>if_neg (Nat.ne_of_lt p)
 have i:(if st.m=st.m then s.1.1.size else P.adr st.m)=s.1.1.size:=if_pos rfl
 have W:=S.H.go (st':={st.on st.h (k s.1.1.size) with T:=st.T.ins st.m o,m:=st.m+1}) (q':=[]) (f':=[]) (λj=>if j=st.m then s.1.1.size else P.adr j) P.tk P.Pp (Nat.le_succ _) (Nat.le_refl _) (Nat.le_refl _) g (λY Y=>rfl) (λY Y=>rfl) λa u v r Y Y=>by
  rw [b];show cond o.isFreed none (((st.T.ins st.m o).get st.m).bind λY=>kM [] {st.on st.h (k (a st.m)) with T:=st.T.ins st.m o,m:=st.m+1})=_;rw [c,d,(r st.m (Nat.lt_succ_self _)).trans i];rfl
 exact .of (fo _ _ _) (c6 (m:=PySem.alloc o) (f:=λy=>tail st.e (k y)) (bU (wpAny_alloc (l _ _ _ _ _ _ ⟨S.HP.at _ _ _,W,(S.D.congr (tk:=P.tk) (Pp:=P.Pp) g).alloc c (by rw [d];rfl) i⟩))))
theorem yY {k:Tok->Sem Fin} (a:sO E n) (S:my E (n+1) P st q f F s) (b:st.t= .fresh k):cL E P.base st (.fresh k) s:=by
 have c:∀j,j<st.i->(if j=st.i then s.toks else P.tk j)=P.tk j:=λj d=>if_neg (Nat.ne_of_lt d)
 have W:=S.H.go (st':={st.on st.h (k s.toks) with i:=st.i+1}) (q':=[]) (f':=[]) P.adr (λj=>if j=st.i then s.toks else P.tk j) P.Pp (Nat.le_refl _) (Nat.le_succ _) (Nat.le_refl _) (λY Y=>rfl) c (λY Y=>rfl) λe g l Y h Y=>by
  rw [b];show kM [] {st.on st.h (k (g st.i)) with i:=st.i+1}=_;rw [(h st.i (Nat.lt_succ_self _)).trans (if_pos rfl)];rfl
 exact .of (ru _ _) (yT (a _ _ _ _ _ {s with toks:=s.toks+1} ⟨S.HP.at _ _ _,W,(S.D.congr (tk:=λj=>if j=st.i then s.toks else P.tk j) (Pp:=P.Pp) λY Y=>rfl).toks _⟩))
theorem tN {a:Bool} {k:Option Value->Sem Fin} (c:sO E n) (S:my E (n+1) P st q f F s) (b:st.t= .handled a k):cL E P.base st (.handled a k) s:=by
 obtain ⟨x,e⟩:=S.step b;obtain ⟨rfl,h⟩:=ee (show cond _ _ _=some x from e)
 refine .of (nJ _ _ _) (tL ?_);rw [dS E.A S.HP.handled];exact S.on c b rfl (λd g i Y=>congrArg (λv=>kM [] (st.on st.h (k v))) (fQ st.κ)) S.D
theorem yZ {k:List (Code×Pos)->Sem Fin} (c:sO E n) (S:my E (n+1) P st q f F s) (d:st.t= .stack k):cL E P.base st (.stack k) s:=by
 refine .of (rx _ _) (yU λp a b=>?_);have e:∀j,j<st.q->(if j=st.q then p::a.map (·.2) else P.Pp j)=P.Pp j:=λj g=>if_neg (Nat.ne_of_lt g)
 have W:=S.H.go (st':={st.on st.h (k ((st.c,p)::a)) with q:=st.q+1}) (q':=[]) (f':=[]) P.adr P.tk (λj=>if j=st.q then p::a.map (·.2) else P.Pp j) (Nat.le_refl _) (Nat.le_refl _) (Nat.le_succ _) (λY Y=>rfl) (λY Y=>rfl) e λh m i Y Y l=>by
  rw [d];show kM [] {st.on st.h (k (kO (st.c::cy P.base st.κ) (i st.q))) with q:=st.q+1}=_;rw [(l st.q (Nat.lt_succ_self _)).trans (if_pos rfl),<-b];show kM [] {st.on st.h (k ((st.c,p)::kO (a.map (·.1)) (a.map (·.2)))) with q:=st.q+1}=_;rw [j1];rfl
 exact c _ _ _ _ _ _ ⟨S.HP.at _ _ _,W,S.D.congr (tk:=P.tk) (Pp:=λj=>if j=st.q then p::a.map (·.2) else P.Pp j) λY Y=>rfl⟩
theorem va {t:Sem Fin} {r:Result} (h:sO E n) (S:my E (n+1) P st q f F s) (g:st.t=t) (e:cb P st t=sM st r) (a:∀d i j,cb (P.at d i j) st t=cb P st t):fP E.prog E.w E.A P.base E.R st.κ r s:=by
 unfold sM at e;cases b:st.κ with
 |base=>
  rw [b] at e;exact S.fin g e
 |ret c l k κ=>
  rw [b] at e;exact S.on h g e (λY Y Y Y=>a _ _ _) S.D
theorem Cu {x:Fin} (i:sO E n) (S:my E (n+1) P st q f F s) (d:st.t= .pure x):cL E P.base st (.pure x) s:=by
 obtain ⟨y,e⟩:=S.step d;cases x with
 |done r=>
  obtain ⟨b,_⟩:=ee (show cond _ _ _=some y from e)
  exact .of (t':=.pure (.done r)) (by rw [b];rfl) (nI (va i S d (congrArg (cond · _ _) b) λY Y Y=>rfl))
 |again c=>
  have same:∀g p t,(∀j,j<st.m->g j=P.adr j)->cb (P.at g p t) st (.pure (.again c))=cb P st (.pure (.again c)):=λY Y Y u=>congrArg (λA=>u0 P A st c) (mP u);obtain ⟨l,h⟩:=dA (show cond _ _ _=some y from e)
  rcases cB h with ⟨b,h⟩|⟨b,h⟩
  ·obtain ⟨k,h⟩:=dA h
   have z:=S.on i d (e.trans h.symm) same S.D;refine .of (t':=(enterFrame 0).bind λY=>Sem.pure (PySem.Fin.again c)) (by rw [b];rfl) (c6 (m:=enterFrame 0) (f:=λY=>Sem.pure (PySem.Fin.again c)) (bU (wpAny_enterFrame (S.HP.lim _ (λa o e=>S.D.grow.base a o (S.D.grow.le a o e))) ?_ (nI ⟨l,ic ?_⟩))))
   ·show (bV E.A st.κ).depth+st.c.weight<recursionLimit
    rw [fm];have:=Nat.le_of_ble_eq_true k;have:=S.HP.depth;lia
   ·rw [<-S.HP.den]
    exact z
  ·refine .of (t':=.pure (.again c)) (by rw [b];rfl) (nI ⟨l,?_⟩)
   rcases cB h with ⟨k,h⟩|⟨_,h⟩
   ·have x:=S.fin d (e.trans h.symm)
    rw [rA (Bool.and_eq_true_iff.mp k).1];exact x
   ·obtain ⟨r,v,h⟩:=fj h
    have W:=S.PF d (e.trans h.symm) same;exact ic (fq S.HP S.D v (λx w=>W.eqs.1 x (List.mem_append_left _ w)) (i _ _ _ _ _ _ ⟨S.HP,W,S.D⟩))
structure mT (P:eP) (S:EN) (st:St) (c:Code) (hd:P6) (k:Result->Sem Fin) (sl:List (Nat×Obj)) (h:Nat) (fs:Qa) (a:mL):Prop where
 slots:cY st.T (st.h/256%256) (st.h/256/256)=some (sl,h)
 nodup:dQ (sl.map (·.1))=true
 read:S sl=some fs
 PW:P.O (st.h%256) c fs st.kn (st.c::cy P.base st.κ) (cx P (.ret st.c hd k st.κ))=some a
 room:(Nat.ble (jr st.κ+st.c.weight+a.need) P.PI&&Nat.ble (kL st.κ+st.c.cUnits+a.Po) P.PJ)=true
theorem vb {c:Code} {g:P6} {k:Result->Sem Fin} {S:EN} {K:List (Nat×Obj)->Nat->mL->Rs} {z} (h:u4 P S st c g k K=some z):∃b h d a,mT P S st c g k b h d a/\K b h a=some z:=by
 obtain ⟨b,i,j,h⟩:=dR h;obtain ⟨l,h⟩:=dA h;obtain ⟨d,e,h⟩:=Option.bind_eq_some_iff.mp h;obtain ⟨a,m,h⟩:=Option.bind_eq_some_iff.mp h;obtain ⟨o,h⟩:=dA h;exact ⟨b,i,d,a,⟨j,l,e,m,o⟩,h⟩
theorem mT.go {c:Code} {d:P6} {k:Result->Sem Fin} {S:EN} {b:List (Nat×Obj)} {h:Nat} {e:Qa} {a:mL} (X:mT P S st c d k b h e a) (K:List (Nat×Obj)->Nat->mL->Rs):u4 P S st c d k K=K b h a:=by
 unfold u4;rw [X.slots];show cond (dQ (b.map (·.1))) ((S b).bind _) none=_;rw [X.nodup,X.read];show (P.O _ _ e _ _ _).bind _=_;rw [X.PW];show cond _ (K b h a) none=_;rw [X.room];rfl
theorem mU {A:Nat->Option Addr} {T:BT} {h:Nat} {c:Code} {b:P6} {k:Result->Sem Fin} {κ:Kt} {r:hZ} {K:Code->Kt->Bool->Sem Fin->Nat->List (Ob×Ob)->Rs} {z} (e:u3 P A T h c b k κ r K=some z):
  (∃v,r= .end_ v/\K c κ false (k v) h []=some z)\/∃a y,r= .again a/\kN P A T h a=some y/\K a (.ret c b k κ) y.e y.t y.h y.q=some z:=by
 cases r with
 |end_ v=>exact .inl ⟨v,rfl,e⟩
 |again a=>
  obtain ⟨y,d,e⟩:=fj e;exact .inr ⟨a,y,rfl,d,e⟩
theorem Cv {c:Code} {d:P6} {k:Result->Sem Fin} {g:Bool} {l:P5} {m:List (Nat×Obj)} {n:Nat} {o:Qa} {a:mL} (p:Nat.beq (st.h%256) 253=false) (r:st.e=false) (t:kA d=true) (u:(Nat.beq (st.h%256) 0||Nat.ble 254 (st.h%256))=false) (X:mT P (eF P st.m) st c d k m n o a)
  {b:P4} {e:P2} {i:Nat->List Pos} (h:∀j,j<st.m->b j=P.adr j):cb (P.at b e i) st (.call c d g l k)=tK (P.at b e i) st d k m n a (ae a.nn λx=>b (st.m+x)) (ae a.Pm λx=>e (st.i+x)):=by
 have Y:mT (P.at b e i) (eF (P.at b e i) st.m) st c d k m n o a:=⟨X.slots,X.nodup,by rw [mR h];exact X.read,by rw [show cx (P.at b e i) (.ret st.c d k st.κ)=cx P (.ret st.c d k st.κ) from fQ _];exact X.PW,X.room⟩
 show cond _ _ (cond _ _ (cond _ (cond _ _ (u4 (P.at b e i) (eF (P.at b e i) st.m) st c d k _)) _))=_;rw [p,r,t,u];exact Y.go _
noncomputable def ext (m:Nat) (f g:Nat->Nat) (j:Nat):Nat:=if j<m then f j else g (j-m)
theorem vc {m:Nat} {f g:Nat->Nat} {j:Nat} (h:j<m):ext m f g j=f j:=if_pos h
theorem gE {m:Nat} {f g:Nat->Nat}:(λx=>ext m f g (m+x))=g:=funext λx=>(if_neg (Nat.not_lt.mpr (Nat.le_add_right m x))).trans (congrArg g (Nat.add_sub_cancel_left m x))
theorem pB {l:P6} {k:Result->Sem Fin} {j:List (Nat×Obj)} {h:Nat} {a:mL} {b:P4} {d:P2} {x} (e:tK P st l k j h a b d=some x):(a.new b d).length<=a.nn/\(a.upd b d).length=j.length/\∃T,fi (ju st.T (j.map (·.1)) (a.upd b d)) st.m (a.new b d)=some T/\
  u3 P (rd P (st.m+a.nn)) T h st.c l k st.κ (a.res b d) (λc κ e t h q=>some (q++a.eqs,a.Pq,.inl {h,c,e,κ,t,T,m:=st.m+a.nn,i:=st.i+a.Pm,q:=st.q,kn:=a.gives b d++st.kn}))=some x:=by
 obtain ⟨g,e⟩:=dA e;obtain ⟨T,o,e⟩:=Option.bind_eq_some_iff.mp e;have g:=Bool.and_eq_true_iff.mp g;exact ⟨Nat.le_of_ble_eq_true g.1,Nat.eq_of_beq_eq_true g.2,T,o,e⟩
theorem Fh {c:Code} {O:P6} {k:Result->Sem Fin} {g:Bool} {l:P5} {U:List (Nat×Obj)} {h:Nat} {fs:Qa} {a:mL} (IH:sO E n) (S:my E (n+1) P st q f F s) (ht:st.t= .call c O g l k) (hm:kA O=true) (he:st.e=false) (X:mT P (eF P st.m) st c O k U h fs a)
  (B:∀{adr:P4} {tk:P2} {Pp:Nat->List Pos},(∀j,j<st.m->adr j=P.adr j)->cb (P.at adr tk Pp) st (.call c O g l k)=tK (P.at adr tk Pp) st O k U h a (ae a.nn λx=>adr (st.m+x)) (ae a.Pm λx=>tk (st.i+x))):cL E P.base st (.call c O g l k) s:=by
 have hs:=dT X.slots;have C:(∀x∈a.eqs,x.1=x.2)/\(∀x∈a.Pq,x):=by
  obtain ⟨o,V,y⟩:=S.H.now;rw [jv] at V;obtain ⟨x,u,V⟩:=Option.bind_eq_some_iff.mp V;rw [ht] at u;obtain ⟨_,_,T,_,u⟩:=pB ((B (adr:=P.adr) (tk:=P.tk) (Pp:=P.Pp) λ_ _=>rfl).symm.trans u);obtain ⟨q',Pm,rfl⟩:∃q' Pm,x=(q'++a.eqs,a.Pq,.inl Pm):=by
   rcases mU u with ⟨_,_,e⟩|⟨_,_,_,_,e⟩<;>exact ⟨_,_,(Option.some.inj e).symm⟩
  have mo:=fM V;exact ⟨λx u=>y.1 x (mo.1 x (List.mem_append_left _ (List.mem_append_right _ u))),λx u=>y.2.1 x (mo.2 x (List.mem_append_left _ u))⟩
 refine .of (t':=.call c O g l k) (by rw [he];rfl) λΓ p hc hΓ hC=>?_
 refine wpCode_mono (λ_ _ q=>q Γ p hc hΓ hC) ((?_:mN (model E.prog E.w) (((bV E.A st.κ).under st.c).mark O) (st.c::cy P.base st.κ) c (rr E.prog E.w (bV E.A st.κ) (cy P.base st.κ) st.c (eH E.prog E.w (bV E.A st.κ) (cy P.base st.κ) (fP E.prog E.w E.A P.base E.R st.κ)) (postE (fP E.prog E.w E.A P.base E.R st.κ)) k) s).mark (mQ hm) Γ p (hc▸hΓ.in) (by rw [hc,hC]))
 clear hC hΓ hc p Γ;have hc:=Bool.and_eq_true_iff.mp X.room;refine S.HP.O _ _ _ _ _ _ _ X.PW F S.D.grow.le C.1 C.2 S.D.kn _ s _ (dS E.A S.HP.handled (.ret st.c O k st.κ)) ?_ ?_ S.D.grow.base (pA S.D X.slots X.read) ?_ λs' d r F' G Pn Po Y=>?_
 ·show (bV E.A st.κ).depth+st.c.weight+a.need<recursionLimit
  rw [fm,Nat.add_assoc,Nat.add_assoc];exact Nat.lt_of_le_of_lt (Nat.add_le_add_left (Nat.add_assoc _ _ _▸Nat.le_of_ble_eq_true hc.1) _) S.HP.depth
 ·show (bV E.A st.κ).units+st.c.cUnits+a.Po<cLine
  rw [iM,Nat.add_assoc,Nat.add_assoc];exact Nat.lt_of_le_of_lt (Nat.add_le_add_left (Nat.add_assoc _ _ _▸Nat.le_of_ble_eq_true hc.2) _) S.HP.units
 ·have Q:∀j∈U.map (·.1),j<st.m:=λj hj=>by
   obtain ⟨x,u,rfl⟩:=List.mem_map.mp hj;exact (S.D.own _ _ (hs x u)).1
  rw [ij X.read,List.map_map];show (U.map (P.adr∘λx=>x.1)).Nodup;rw [<-List.map_map];exact iN (λa h1 b h2 Pq=>S.D.inj _ _ (Q a h1) (Q b h2) Pq) (ep X.nodup)
 rw [ij X.read] at G Y;have a1:∀j,j<st.m->ext st.m P.adr d j=P.adr j:=λ_=>vc;have b1:∀j,j<st.i->ext st.i P.tk r j=P.tk j:=λ_=>vc;obtain ⟨x,u⟩:∃x,cb (P.at (ext st.m P.adr d) (ext st.i P.tk r) P.Pp) st st.t=some x:=by
  obtain ⟨o,V,_⟩:=S.H (ext st.m P.adr d) (ext st.i P.tk r) P.Pp a1 b1 λ_ _=>rfl;rw [jv] at V;obtain ⟨x,u,_⟩:=Option.bind_eq_some_iff.mp V;exact ⟨x,u⟩
 rw [ht,B a1,gE,gE] at u;obtain ⟨hl,hu,T,hT,hy⟩:=pB u;have eS:(U.map λx=>((P.at (ext st.m P.adr d) (ext st.i P.tk r) P.Pp).adr x.1,x.2))=U.map λx=>(P.adr x.1,x.2):=List.map_congr_left λx u=>congrArg (·,x.2) (a1 _ (S.D.own _ _ (hs x u)).1);have D:=(S.D.congr (tk:=ext st.i P.tk r) (Pp:=P.Pp) a1).PS hs (ep X.nodup) hu hl hT (by rw [eS];exact G) (λi hi=>by
   show F' ((λx=>ext st.m P.adr d (st.m+x)) i)=none;rw [gE];exact Pn i hi) Po (by
   rw [eS];show fk s s' _ _ _ _ λx=>ext st.m P.adr d (st.m+x);rw [gE];exact Y)
 have W:∀{H A I J L N},x=(N++a.eqs,a.Pq,.inl {h:=L,c:=H,e:=I,κ:=A,t:=J,T,m:=st.m+a.nn,i:=st.i+a.Pm,q:=st.q,kn:=a.gives (ae a.nn d) (ae a.Pm r)++st.kn})->kQ (P.at (ext st.m P.adr d) (ext st.i P.tk r) P.Pp) n {h:=L,c:=H,e:=I,κ:=A,t:=J,T,m:=st.m+a.nn,i:=st.i+a.Pm,q:=st.q,kn:=a.gives (ae a.nn d) (ae a.Pm r)++st.kn} ((N++a.eqs)++q) (a.Pq++f) (Ff E):=λ{H A I J L N} ex=>
  S.H.go (ext st.m P.adr d) (ext st.i P.tk r) P.Pp (Nat.le_add_right _ _) (Nat.le_add_right _ _) (Nat.le_refl _) a1 b1 (λ_ _=>rfl) λadr tk Pp h1 h2 _=>by
   rw [ht,B λj hj=>(h1 j (Nat.lt_of_lt_of_le hj (Nat.le_add_right _ _))).trans (a1 j hj),show (ae a.nn λx=>adr (st.m+x))=ae a.nn λx=>ext st.m P.adr d (st.m+x) from jx λx u=>h1 (st.m+x) (Nat.add_lt_add_left u _),show (ae a.Pm λx=>tk (st.i+x))=ae a.Pm λx=>ext st.i P.tk r (st.i+x) from jx λx u=>h2 (st.i+x) (Nat.add_lt_add_left u _),gE,gE,<-ex]
   refine Eq.trans ?_ u;show tK ((P.at (ext st.m P.adr d) (ext st.i P.tk r) P.Pp).at adr tk Pp) st O k U h a _ _=_;unfold tK;rw [mP (P:=P.at (ext st.m P.adr d) (ext st.i P.tk r) P.Pp) h1];rfl
 rcases mU hy with ⟨v,hr,e⟩|⟨c₃,w,hr,hg,e⟩
 ·have z:=IH _ _ _ _ F' s' ⟨S.HP.at _ _ _,W (Option.some.inj e).symm,D⟩
  rw [hr];exact z
 ·have W:=W (Option.some.inj e).symm
  rw [hr];exact ic (fq (S.HP.at _ _ _) D hg (λx u=>W.eqs.1 x (List.mem_append_left _ (List.mem_append_left _ u))) (IH _ _ _ _ F' s' ⟨S.HP.at _ _ _,W,D⟩))
theorem Cw {c:Code} {i:P6} {k:Result->Sem Fin} {g:Bool} {l:P5} (B:sO E n) (S:my E (n+1) P st q f F s) (u:st.t= .call c i g l k):cL E P.base st (.call c i g l k) s:=by
 obtain ⟨x,e⟩:=S.step u;have same:∀{X:(Nat->Option Addr)->Rs},(∀d m p,cb (P.at d m p) st (.call c i g l k)=X (rd (P.at d m p) st.m))->∀d m p,(∀j,j<st.m->d j=P.adr j)->cb (P.at d m p) st (.call c i g l k)=cb P st (.call c i g l k):=λh d m p H=>by rw [h,mP H];exact (h P.adr P.tk P.Pp).symm
 rcases cB (show cond _ _ _=some x from e) with ⟨v,h⟩|⟨v,h⟩
 ·rw [mM] at h
  obtain ⟨o,C,h⟩:=Option.bind_eq_some_iff.mp h;obtain ⟨b,I,h⟩:=Option.bind_eq_some_iff.mp h;have W:=S.PF u (e.trans h.symm) (same (X:=λA=>fh (st.h/256%256) (AF A st)) λY Y Y=>congrArg (cond · _ _) v);have D:=S.D.freeze C;rw [u7 I] at D;have z:=B _ _ _ _ _ _ ⟨S.HP,W,D⟩;rw [<-u];exact z
 ·obtain ⟨w,h⟩:=ee h
  obtain ⟨y,h⟩:=dA h;rcases cB h with ⟨G,h⟩|⟨G,h⟩
  ·obtain ⟨r,C,h⟩:=fj h
   have W:=S.PF u (e.trans h.symm) (same (X:=λA=>j0 (kN P A st.T st.h c) λe t h q=>kM q (st.to h c e (.ret st.c i k st.κ) t)) λd m p=>by
    show cond _ _ (cond _ _ (cond _ (cond _ (j0 (kN P (rd (P.at d m p) st.m) st.T st.h c) _) _) _))=_;rw [v,w,y,G];rfl)
   exact .of (t':=.call c i g l k) (by rw [w];rfl) (Cq (mQ y) (ic (fq S.HP S.D C (λx J=>W.eqs.1 x (List.mem_append_left _ J)) (B _ _ _ _ _ _ ⟨S.HP,W,S.D⟩))))
  ·obtain ⟨L,n,N,a,X,_⟩:=vb h
   exact Fh B S u y w X (Cv v w y G X)
theorem tO (d:sO E n) (S:my E (n+1) P st q f F s):cL E P.base st st.t s:=by
 cases b:st.t with
 |rule x k=>exact .of (tM _ _ _) (Cp (S.on d b rfl (λY Y Y Y=>rfl) S.D))
 |«at» x k=>exact .of (yV _ _ _) (KP (S.on d b rfl (λY Y Y Y=>rfl) S.D))
 |point x k=>exact .of (rt _ _ _) (yS (S.on d b rfl (λY Y Y Y=>rfl) S.D))
 |ask k=>exact Fg d S b
 |load a p k=>exact Ct d S b
 |update a p f k=>exact u9 d S b
 |alloc o k=>exact yX d S b
 |fresh k=>exact yY d S b
 |handled e k=>exact tN d S b
 |stack k=>exact yZ d S b
 |raise v=>exact .of (ry _ _) (yR (y_err _ _ _ (va d S b rfl λY Y Y=>rfl)))
 |pure x=>exact Cu d S b
 |call c i g l k=>exact Cw d S b
 |_=>
  obtain ⟨x,h⟩:=S.step b;injection h
theorem AG:∀n:Nat,sO E n
 |0=>λP st q f F s S=>by
  obtain ⟨o,e,_⟩:=S.H.now;injection e
 |n+1=>λP st q f F s S=>tO (AG n) S
end
end
noncomputable def tP:Stmt->List Stmt
 | .ClassDef _ _ _ b _ _ _ _ _ _ _=>b
 |_=>[]
noncomputable def er (i:Nat):Stmt:=PySem.Challenge.pw_om0152_01.main.body.getD i (.Pass ⟨0,0,0,0⟩)
def px (i j:Nat):Stmt:=(tP (er i)).getD j (.Pass ⟨0,0,0,0⟩)
noncomputable def jy (d:Stmt) (c:Str) (e f g:Value):Obj:=match d with
 | .FunctionDef n a b _ _ _ h _ _ _=>{cls:=.type "function",data:=.func {name:=n,qualname:=c,params:=a,body:=.stmts b,scope:=h,globals:=3,closure:=[],defaults:=e,kwdefaults:=.none,pyModule:=f,code:=g} }
 |_=>default
noncomputable def dE (P:Params) (k:Str) (t:Tok) (v:Value):DictEntry:=⟨PyData.keyHash P k,.str k t,v⟩
noncomputable def kB (n q:Str) (t:Tok) (b a p k c:Int) (r z:Nat):Obj:={cls:=.type "code",data:=.fields #[.str n t,.str q (t+1),.str "/claim/cut.py" (t+2),.int b 0,.int a 0,.int p 0,.int k 0,.int c 0,.ref r,.bool true,.int 318 0,.ref (r+1),.none,.ref (r+2),.ref (r+3),.ref (r+4),.int z 0,.int b 0,.str "/claim/cut.py" (z+1)]}
noncomputable def vd (l:List Int):Obj:={cls:=.type "tuple",data:=.seq ⟨l.map λi=>.int i 0⟩ 0}
def o0 (P:Params):Obj:={cls:=(.type "dict"),data:=.dict #[dE P "__name__" 1 (.str "builtins" 160),dE P "__doc__" 2 (.builtin "builtins.__doc__:str#opaque"),dE P "__package__" 3 (.builtin "builtins.__package__:str#opaque"),dE P "__loader__" 4 (.builtin "builtins.__loader__:shared#opaque"),dE P "__spec__" 5 (.builtin "builtins.__spec__#opaque"),dE P "__build_class__" 6 (.builtin "__build_class__"),dE P "__import__" 7 (.builtin "__import__"),dE P "abs" 8 (.builtin "abs"),dE P "all" 9 (.builtin "all"),dE P "any" 10 (.builtin "any"),dE P "ascii" 11 (.builtin "ascii"),dE P "bin" 12 (.builtin "bin"),dE P "breakpoint" 13 (.builtin "breakpoint"),dE P "callable" 14 (.builtin "callable"),dE P "chr" 15 (.builtin "chr"),dE P "compile" 16 (.builtin "compile"),dE P "delattr" 17 (.builtin "delattr"),dE P "dir" 18 (.builtin "dir"),dE P "divmod" 19 (.builtin "divmod"),dE P "eval" 20 (.builtin "eval"),dE P "exec" 21 (.builtin "exec"),dE P "format" 22 (.builtin "format"),dE P "getattr" 23 (.builtin "getattr"),dE P "globals" 24 (.builtin "globals"),dE P "hasattr" 25 (.builtin "hasattr"),dE P "hash" 26 (.builtin "hash"),dE P "hex" 27 (.builtin "hex"),dE P "id" 28 (.builtin "id"),dE P "input" 29 (.builtin "input"),dE P "isinstance" 30 (.builtin "isinstance"),dE P "issubclass" 31 (.builtin "issubclass"),dE P "iter" 32 (.builtin "iter"),dE P "aiter" 33 (.builtin "aiter"),dE P "len" 34 (.builtin "len"),dE P "locals" 35 (.builtin "locals"),dE P "max" 36 (.builtin "max"),dE P "min" 37 (.builtin "min"),dE P "next" 38 (.builtin "next"),dE P "anext" 39 (.builtin "anext"),dE P "oct" 40 (.builtin "oct"),dE P "ord" 41 (.builtin "ord"),dE P "pow" 42 (.builtin "pow"),dE P "print" 43 (.builtin "print"),dE P "repr" 44 (.builtin "repr"),dE P "round" 45 (.builtin "round"),dE P "setattr" 46 (.builtin "setattr"),dE P "sorted" 47 (.builtin "sorted"),dE P "sum" 48 (.builtin "sum"),dE P "vars" 49 (.builtin "vars"),dE P "None" 50 .none,dE P "Ellipsis" 51 .ellipsis,dE P "NotImplemented" 52 .notImplemented,dE P "False" 53 (.bool false),dE P "True" 54 (.bool true),dE P "bool" 55 (.type "bool"),dE P "memoryview" 56 (.type "memoryview"),dE P "bytearray" 57 (.type "bytearray"),dE P "bytes" 58 (.type "bytes"),dE P "classmethod" 59 (.type "classmethod"),dE P "complex" 60 (.type "complex"),dE P "dict" 61 (.type "dict"),dE P "enumerate" 62 (.type "enumerate"),dE P "filter" 63 (.type "filter"),dE P "float" 64 (.type "float"),dE P "frozenset" 65 (.type "frozenset"),dE P "property" 66 (.type "property"),dE P "int" 67 (.type "int"),dE P "list" 68 (.type "list"),dE P "map" 69 (.type "map"),dE P "object" 70 (.type "object"),dE P "range" 71 (.type "range"),dE P "reversed" 72 (.type "reversed"),dE P "set" 73 (.type "set"),dE P "slice" 74 (.type "slice"),dE P "staticmethod" 75 (.type "staticmethod"),dE P "str" 76 (.type "str"),dE P "super" 77 (.type "super"),dE P "tuple" 78 (.type "tuple"),dE P "type" 79 (.type "type"),dE P "zip" 80 (.type "zip"),dE P "__debug__" 81 (.bool true),dE P "BaseException" 82 (.type "BaseException"),dE P "BaseExceptionGroup" 83 (.type "BaseExceptionGroup"),dE P "Exception" 84 (.type "Exception"),dE P "GeneratorExit" 85 (.type "GeneratorExit"),dE P "KeyboardInterrupt" 86 (.type "KeyboardInterrupt"),dE P "SystemExit" 87 (.type "SystemExit"),dE P "ArithmeticError" 88 (.type "ArithmeticError"),dE P "AssertionError" 89 (.type "AssertionError"),dE P "AttributeError" 90 (.type "AttributeError"),dE P "BufferError" 91 (.type "BufferError"),dE P "EOFError" 92 (.type "EOFError"),dE P "ImportError" 93 (.type "ImportError"),dE P "LookupError" 94 (.type "LookupError"),dE P "MemoryError" 95 (.type "MemoryError"),dE P "NameError" 96 (.type "NameError"),dE P "OSError" 97 (.type "OSError"),dE P "ReferenceError" 98 (.type "ReferenceError"),dE P "RuntimeError" 99 (.type "RuntimeError"),dE P "StopAsyncIteration" 100 (.type "StopAsyncIteration"),dE P "StopIteration" 101 (.type "StopIteration"),dE P "SyntaxError" 102 (.type "SyntaxError"),dE P "SystemError" 103 (.type "SystemError"),dE P "TypeError" 104 (.type "TypeError"),dE P "ValueError" 105 (.type "ValueError"),dE P "Warning" 106 (.type "Warning"),dE P "FloatingPointError" 107 (.type "FloatingPointError"),dE P "OverflowError" 108 (.type "OverflowError"),dE P "ZeroDivisionError" 109 (.type "ZeroDivisionError"),dE P "BytesWarning" 110 (.type "BytesWarning"),dE P "DeprecationWarning" 111 (.type "DeprecationWarning"),dE P "EncodingWarning" 112 (.type "EncodingWarning"),dE P "FutureWarning" 113 (.type "FutureWarning"),dE P "ImportWarning" 114 (.type "ImportWarning"),dE P "PendingDeprecationWarning" 115 (.type "PendingDeprecationWarning"),dE P "ResourceWarning" 116 (.type "ResourceWarning"),dE P "RuntimeWarning" 117 (.type "RuntimeWarning"),dE P "SyntaxWarning" 118 (.type "SyntaxWarning"),dE P "UnicodeWarning" 119 (.type "UnicodeWarning"),dE P "UserWarning" 120 (.type "UserWarning"),dE P "BlockingIOError" 121 (.type "BlockingIOError"),dE P "ChildProcessError" 122 (.type "ChildProcessError"),dE P "ConnectionError" 123 (.type "ConnectionError"),dE P "FileExistsError" 124 (.type "FileExistsError"),dE P "FileNotFoundError" 125 (.type "FileNotFoundError"),dE P "InterruptedError" 126 (.type "InterruptedError"),dE P "IsADirectoryError" 127 (.type "IsADirectoryError"),dE P "NotADirectoryError" 128 (.type "NotADirectoryError"),dE P "PermissionError" 129 (.type "PermissionError"),dE P "ProcessLookupError" 130 (.type "ProcessLookupError"),dE P "TimeoutError" 131 (.type "TimeoutError"),dE P "IndentationError" 132 (.type "IndentationError"),dE P "_IncompleteInputError" 133 (.type "_IncompleteInputError"),dE P "IndexError" 134 (.type "IndexError"),dE P "KeyError" 135 (.type "KeyError"),dE P "ModuleNotFoundError" 136 (.type "ModuleNotFoundError"),dE P "NotImplementedError" 137 (.type "NotImplementedError"),dE P "PythonFinalizationError" 138 (.type "PythonFinalizationError"),dE P "RecursionError" 139 (.type "RecursionError"),dE P "UnboundLocalError" 140 (.type "UnboundLocalError"),dE P "UnicodeError" 141 (.type "UnicodeError"),dE P "BrokenPipeError" 142 (.type "BrokenPipeError"),dE P "ConnectionAbortedError" 143 (.type "ConnectionAbortedError"),dE P "ConnectionRefusedError" 144 (.type "ConnectionRefusedError"),dE P "ConnectionResetError" 145 (.type "ConnectionResetError"),dE P "TabError" 146 (.type "TabError"),dE P "UnicodeDecodeError" 147 (.type "UnicodeDecodeError"),dE P "UnicodeEncodeError" 148 (.type "UnicodeEncodeError"),dE P "UnicodeTranslateError" 149 (.type "UnicodeTranslateError"),dE P "ExceptionGroup" 150 (.type "ExceptionGroup"),dE P "EnvironmentError" 151 (.type "OSError"),dE P "IOError" 152 (.type "OSError"),dE P "open" 153 (.builtin "open"),dE P "quit" 154 (.builtin "builtins.quit#opaque"),dE P "exit" 155 (.builtin "builtins.exit#opaque"),dE P "copyright" 156 (.builtin "builtins.copyright#opaque"),dE P "credits" 157 (.builtin "builtins.credits#opaque"),dE P "license" 158 (.builtin "builtins.license#opaque"),dE P "help" 159 (.builtin "builtins.help#opaque")] 159}
def o2 (P:Params):Obj:={cls:=.none,data:=.dict #[dE P "\x69mport.loaded._sre" 183 (.bool true),dE P "class._frozen_importlib.BuiltinImporter" 185 (.ref 14),dE P "watched.\x69mport" 206 (.ref 18),dE P "class._frozen_importlib.ModuleSpec" 216 (.ref 22),dE P "sys.modules.booked-epoch" 245 (.int 4 0),dE P "\x69mport.later-laid._sre" 270 (.bool true),dE P "watched.library" 272 (.ref 27),dE P "watched.library-objects" 0 (.str ⟨#[12,30]⟩ 0),dE P "watched.library-deep._sre" 273 (.str ⟨#[4,0,0,11,4,0,0,11,4,0,0,3,4,0,0,11,8,4,100,105,99,116,2]⟩ 0),dE P "\x69mport.loaded._collections" 280 (.bool true),dE P "sys.modules.landed._collections" 294 (.bool true),dE P "\x69mport.later-laid._collections" 309 (.bool true),dE P "watched.library-deep._collections" 311 (.str ⟨#[4,0,0,29,4,0,0,29,4,0,0,3,4,0,0,29,8,4,100,105,99,116,2]⟩ 0),dE P "type.__subclasses__.OSError.0" 633 (.int 114 0),dE P "type.__subclasses__.OSError.n" 634 (.int 1 0)] 15}
def o3 (P:Params):Obj:={cls:=(.type "dict"),data:=.dict #[dE P "__name__" 165 (.str "law_om0152_01" 1465),dE P "__doc__" 166 .none,dE P "__package__" 167 .none,dE P "__loader__" 168 (.builtin "__main__.__loader__#opaque"),dE P "__spec__" 169 .none,dE P "__annotations__" 170 (.ref 6),dE P "__builtins__" 171 (.ref 4),dE P "__file__" 173 (.str "/claim/cut.py" 172),dE P "__cached__" 174 .none,dE P "_sre" 275 (.ref 12),dE P "deque" 317 (.type "collections.deque"),dE P "_wall" 330 (.ref 44),dE P "_twin_re_5" 360 (.ref 49),dE P "unmatched" 369 (.ref 56),dE P "HEADER_TOKEN_RE" 417 (.ref 61),dE P "HEADER_QUOTED_VALUE_RE" 495 (.ref 66),dE P "HEADER_VALUE_RE" 550 (.ref 71),dE P "HEADER_ESCAPE_RE" 573 (.ref 76),dE P "split_header_words" 589 (.ref 83),dE P "strip_quotes" 596 (.ref 90),dE P "_whence" 606 (.ref 97),dE P "_index" 614 (.ref 104),dE P "UnsupportedOperation" 636 (.ref 114),dE P "IOBase" 668 (.ref 134),dE P "BufferedIOBase" 686 (.ref 149),dE P "TextIOBase" 704 (.ref 161),dE P "BytesIO" 966 (.ref 391),dE P "StringIO" 1253 (.ref 638),dE P "_kind" 1264 (.ref 647),dE P "_fspath" 1273 (.ref 654),dE P "_check_arg_types" 1283 (.ref 661),dE P "isabs" 1290 (.ref 668),dE P "join" 1301 (.ref 675),dE P "dirname" 1311 (.ref 682),dE P "shlex" 1452 (.ref 773),dE P "unorderable_list_difference" 1464 (.ref 784),dE P "_law_piece" 1473 (.ref 791),dE P "_law_turned" 1482 (.ref 798),dE P "_law_held" 1490 (.ref 805),dE P "_law_value" 1500 (.ref 812),dE P "_law_meant" 1509 (.ref 819),dE P "_law_told" 1515 (.ref 824),dE P "_law_more" 1525 (.ref 831),dE P "_law_change" 1538 (.ref 838),dE P "_law_grows" 1544 (.ref 843),dE P "law" 1550 (.ref 848)] 46}
noncomputable def o4 (P:Params):Obj:={cls:=(.type "module"),dict:=some 0}
def N6 (P:Params):Obj:=vd [14,4,0,0,4294967295,6,0,24,13,0,4294967295,13,8,16,61,8,12,16,59,0,1,1]
noncomputable def N7 (P:Params):Obj:={cls:=(.type "re.Pattern"),data:=.fields #[(.str "^[=\\s;]*" 334),(.int 32 359),(.int 0 0),.none,.none,(.ref 48),(.int 0 0)]}
def N8 (P:Params):Obj:=kB "unmatched" "unmatched" 361 8 1 0 0 3 50 367
def N9 (P:Params):Obj:=jy (er 5) "unmatched" .none (.str "cpy313.http.cookiejar" 331) (.ref 55)
def Oa (P:Params):Obj:=vd [14,4,0,1,4294967295,6,0,24,9,0,4294967295,13,4,8,12,0,1,17,0,24,19,1,4294967295,13,14,21,9,0,671092736,0,0,0,0,0,0,8,12,0,1,17,1,1]
noncomputable def Oc (P:Params):Obj:={cls:=(.type "re.Pattern"),data:=.fields #[(.str "^\\s*([^=\\s;,]+)" 371),(.int 32 416),(.int 1 0),.none,.none,(.ref 60),(.int 0 0)]}
def Od (P:Params):Obj:=vd [14,4,0,3,4294967295,6,0,24,9,0,4294967295,13,4,8,12,0,1,16,61,24,9,0,4294967295,13,4,8,12,0,1,16,34,17,0,24,12,0,4294967295,13,7,21,16,34,16,92,0,1,23,19,0,4294967295,16,92,2,24,12,0,4294967295,13,7,21,16,34,16,92,0,1,18,17,1,16,34,1]
noncomputable def Oe (P:Params):Obj:={cls:=(.type "re.Pattern"),data:=.fields #[(.str "^\\s*=\\s*\\\"([^\\\"\\\\]*(?:\\\\.[^\\\"\\\\]*)*)\\\"" 419),(.int 32 494),(.int 1 0),.none,.none,(.ref 65),(.int 0 0)]}
def Of (P:Params):Obj:=vd [14,4,0,1,4294967295,6,0,24,9,0,4294967295,13,4,8,12,0,1,16,61,24,9,0,4294967295,13,4,8,12,0,1,17,0,24,14,0,4294967295,13,9,21,8,12,16,59,16,44,0,1,17,1,1]
noncomputable def Og (P:Params):Obj:={cls:=(.type "re.Pattern"),data:=.fields #[(.str "^\\s*=\\s*([^\\s;,]*)" 497),(.int 32 549),(.int 1 0),.none,.none,(.ref 70),(.int 0 0)]}
def Oh (P:Params):Obj:=vd [14,8,1,2,2,1,1,92,0,16,92,17,0,2,17,1,1]
noncomputable def Oi (P:Params):Obj:={cls:=(.type "re.Pattern"),data:=.fields #[(.str "\\\\(.)" 552),(.int 32 572),(.int 1 0),.none,.none,(.ref 75),(.int 0 0)]}
def KQ (P:Params):Obj:=kB "split_header_words" "split_header_words" 574 15 1 0 0 3 77 587
def Oj (P:Params):Obj:=jy (er 10) "split_header_words" .none (.str "cpy313.http.cookiejar" 331) (.ref 82)
def Ol (P:Params):Obj:=kB "strip_quotes" "strip_quotes" 590 52 1 0 0 3 84 594
def Om (P:Params):Obj:=jy (er 11) "strip_quotes" .none (.str "cpy313.http.cookiejar" 331) (.ref 89)
def KR (P:Params):Obj:=kB "_index" "_index" 607 64 2 0 0 3 98 612
def KS (P:Params):Obj:=jy (er 14) "_index" .none (.str "io" 597) (.ref 103)
def KU (P:Params):Obj:=kB "__new__" "IOBase.__new__" 651 76 1 1 0 15 125 657
def KV (P:Params):Obj:=jy (px 16 1) "IOBase.__new__" .none (.str "io" 597) (.ref 130)
def KW (P:Params):Obj:={cls:=(.type "dict"),data:=.dict #[dE P "__module__" 644 (.str "io" 649),dE P "__firstlineno__" 648 (.int 73 647),dE P "__new__" 659 (.ref 135),dE P "__static_attributes__" 660 (.ref 132),dE P "__dict__" 663 (.ref 136),dE P "__weakref__" 665 (.ref 137),dE P "__doc__" 666 .none] 4}
noncomputable def KX (P:Params):Obj:={cls:=(.type "type"),data:=.cls {name:="IOBase",bases:=[(.type "object")],mro:=[(.ref 134),(.type "object")],ns:=133,qualname:="IOBase",hasDict:=true,slotNames:=[],subclasses:=[(.ref 149),(.ref 161)],abstract:=false,collection:=none,hasDel:=false},slots:=#[none,none,some (.str "IOBase" 637),some (.str "IOBase" 645),some .none,some (.bool true)]}
noncomputable def KY (P:Params):Obj:={cls:=(.type "staticmethod"),data:=.fields #[(.ref 131)]}
def KZ (P:Params):Obj:={cls:=(.type "dict"),data:=.dict #[dE P "__module__" 694 (.str "io" 699),dE P "__firstlineno__" 698 (.int 82 697),dE P "__static_attributes__" 701 (.ref 159),dE P "__doc__" 702 .none] 2}
noncomputable def K0 (P:Params):Obj:={cls:=(.type "type"),data:=.cls {name:="TextIOBase",bases:=[(.ref 134)],mro:=[(.ref 161),(.ref 134),(.type "object")],ns:=160,qualname:="TextIOBase",hasDict:=true,slotNames:=[],subclasses:=[(.ref 638)],abstract:=false,collection:=none,hasDel:=false},slots:=#[some (.ref 152),none,some (.str "TextIOBase" 687),some (.str "TextIOBase" 695),some .none,some (.bool true)]}
noncomputable def K1 (P:Params):Obj:={cls:=(.type "type"),data:=.cls {name:="BytesIO",bases:=[(.ref 149)],mro:=[(.ref 391),(.ref 149),(.ref 134),(.type "object")],ns:=390,qualname:="BytesIO",hasDict:=true,slotNames:=[],subclasses:=[],abstract:=false,collection:=none,hasDel:=false},slots:=#[some (.ref 164),none,some (.str "BytesIO" 705),some (.str "BytesIO" 713),some .none,some (.bool true)]}
noncomputable def K2 (P:Params):Obj:={cls:=(.type "tuple"),data:=.seq #[(.str "" 981),(.str "\n" 982)] 0}
def K3 (P:Params):Obj:=kB "__init__" "StringIO.__init__" 983 257 3 0 0 3 402 989
def K4 (P:Params):Obj:=jy (px 20 1) "StringIO.__init__" (.ref 401) (.str "io" 597) (.ref 407)
def K5 (P:Params):Obj:=kB "__translated" "StringIO.__translated" 992 270 2 0 0 3 409 998
def K6 (P:Params):Obj:=jy (px 20 2) "StringIO.__translated" .none (.str "io" 597) (.ref 414)
def K7 (P:Params):Obj:=kB "__check" "StringIO.__check" 1001 278 1 0 0 3 416 1005
def K8 (P:Params):Obj:=jy (px 20 3) "StringIO.__check" .none (.str "io" 597) (.ref 421)
def K9 (P:Params):Obj:=kB "close" "StringIO.close" 1070 338 1 0 0 3 477 1074
def La (P:Params):Obj:=jy (px 20 11) "StringIO.close" .none (.str "io" 597) (.ref 482)
noncomputable def Lb (P:Params):Obj:={cls:=(.type "tuple"),data:=.seq #[(.int (-1) 1174)] 0}
def Lc (P:Params):Obj:=kB "read" "StringIO.read" 1175 400 2 2 0 3 578 1182
def Ld (P:Params):Obj:=jy (px 20 25) "StringIO.read" (.ref 577) (.str "io" 597) (.ref 583)
def Lg (P:Params):Obj:={cls:=(.type "dict"),data:=.dict #[dE P "__module__" 974 (.str "_io" 979),dE P "__firstlineno__" 978 (.int 254 977),dE P "__init__" 991 (.ref 408),dE P "_StringIO__translated" 1000 (.ref 415),dE P "_StringIO__check" 1007 (.ref 422),dE P "_StringIO__check_dot" 1014 (.ref 429),dE P "_StringIO__line" 1029 (.ref 436),dE P "closed" 1037 (.ref 444),dE P "line_buffering" 1045 (.ref 452),dE P "newlines" 1053 (.ref 460),dE P "encoding" 1061 (.ref 468),dE P "errors" 1069 (.ref 476),dE P "close" 1076 (.ref 483),dE P "__enter__" 1083 (.ref 490),dE P "__exit__" 1091 (.ref 497),dE P "readable" 1098 (.ref 504),dE P "writable" 1105 (.ref 511),dE P "seekable" 1112 (.ref 518),dE P "isatty" 1119 (.ref 525),dE P "flush" 1126 (.ref 532),dE P "fileno" 1133 (.ref 539),dE P "detach" 1140 (.ref 546),dE P "getvalue" 1147 (.ref 553),dE P "tell" 1154 (.ref 560),dE P "seek" 1164 (.ref 568),dE P "truncate" 1172 (.ref 576),dE P "read" 1184 (.ref 584),dE P "readline" 1194 (.ref 592),dE P "readlines" 1204 (.ref 600),dE P "__iter__" 1211 (.ref 607),dE P "__next__" 1219 (.ref 614),dE P "write" 1231 (.ref 621),dE P "writelines" 1239 (.ref 628),dE P "__repr__" 1246 (.ref 635),dE P "__static_attributes__" 1250 (.ref 636),dE P "__doc__" 1251 .none] 2}
noncomputable def Lh (P:Params):Obj:={cls:=(.type "type"),data:=.cls {name:="StringIO",bases:=[(.ref 161)],mro:=[(.ref 638),(.ref 161),(.ref 134),(.type "object")],ns:=637,qualname:="StringIO",hasDict:=true,slotNames:=[],subclasses:=[],abstract:=false,collection:=none,hasDel:=false},slots:=#[some (.ref 394),none,some (.str "StringIO" 967),some (.str "StringIO" 975),some .none,some (.bool true)]}
noncomputable def Li (P:Params):Obj:={cls:=(.type "tuple"),data:=.seq #[.none,.none,(.bool false),(.bool false)] 0}
def Lj (P:Params):Obj:=kB "__init__" "shlex.__init__" 1326 525 5 0 0 3 691 1335
def Lk (P:Params):Obj:=jy (px 29 0) "shlex.__init__" (.ref 690) (.str "cpy313.shlex" 1312) (.ref 696)
def Ll (P:Params):Obj:=kB "punctuation_chars" "shlex.punctuation_chars" 1338 566 1 0 0 3 698 1342
def Lm (P:Params):Obj:=jy (px 29 1) "shlex.punctuation_chars" .none (.str "cpy313.shlex" 1312) (.ref 703)
noncomputable def Ln (P:Params):Obj:={cls:=(.type "property"),data:=.fields #[(.ref 704),.none,.none,.none,(.str "punctuation_chars" 1345),(.bool false)]}
noncomputable def Lo (P:Params):Obj:={cls:=(.type "tuple"),data:=.seq #[.none] 0}
def Lp (P:Params):Obj:=kB "push_source" "shlex.push_source" 1354 573 3 0 0 3 714 1360
def Lq (P:Params):Obj:=jy (px 29 3) "shlex.push_source" (.ref 713) (.str "cpy313.shlex" 1312) (.ref 719)
def Lr (P:Params):Obj:=kB "pop_source" "shlex.pop_source" 1363 586 1 0 0 3 721 1367
def Ls (P:Params):Obj:=jy (px 29 4) "shlex.pop_source" .none (.str "cpy313.shlex" 1312) (.ref 726)
def Lu (P:Params):Obj:=kB "get_token" "shlex.get_token" 1370 593 1 0 0 3 728 1379
def Lv (P:Params):Obj:=jy (px 29 5) "shlex.get_token" .none (.str "cpy313.shlex" 1312) (.ref 733)
def Lw (P:Params):Obj:=kB "read_token" "shlex.read_token" 1382 620 1 0 0 3 735 1390
def Lx (P:Params):Obj:=jy (px 29 6) "shlex.read_token" .none (.str "cpy313.shlex" 1312) (.ref 740)
def Ly (P:Params):Obj:={cls:=(.type "dict"),data:=.dict #[dE P "__module__" 1321 (.str "cpy313.shlex" 1312),dE P "__firstlineno__" 1325 (.int 523 1324),dE P "__init__" 1337 (.ref 697),dE P "punctuation_chars" 1345 (.ref 705),dE P "push_token" 1353 (.ref 712),dE P "push_source" 1362 (.ref 720),dE P "pop_source" 1369 (.ref 727),dE P "get_token" 1381 (.ref 734),dE P "read_token" 1392 (.ref 741),dE P "sourcehook" 1400 (.ref 748),dE P "error_leader" 1409 (.ref 756),dE P "__iter__" 1416 (.ref 763),dE P "__next__" 1424 (.ref 770),dE P "__static_attributes__" 1445 (.ref 771),dE P "__dict__" 1447 (.ref 774),dE P "__weakref__" 1449 (.ref 775),dE P "__doc__" 1450 .none] 4}
noncomputable def Lz (P:Params):Obj:={cls:=(.type "type"),data:=.cls {name:="shlex",bases:=[(.type "object")],mro:=[(.ref 773),(.type "object")],ns:=772,qualname:="shlex",hasDict:=true,slotNames:=[],subclasses:=[],abstract:=false,collection:=none,hasDel:=false},slots:=#[none,none,some (.str "shlex" 1314),some (.str "shlex" 1322),some (.builtin "object.__new__"),some (.bool true)]}
def LA (P:Params):Obj:=kB "unorderable_list_difference" "unorderable_list_difference" 1455 776 2 0 0 3 778 1462
def LB (P:Params):Obj:=jy (er 31) "unorderable_list_difference" .none (.str "cpy313.unittest.util" 1453) (.ref 783)
def LC (P:Params):Obj:=kB "_law_piece" "_law_piece" 1467 786 1 0 0 3 785 1471
def LD (P:Params):Obj:=jy (er 33) "_law_piece" .none (.str "law_om0152_01" 1465) (.ref 790)
def LF (P:Params):Obj:=kB "_law_turned" "_law_turned" 1474 788 3 0 0 3 792 1480
def LG (P:Params):Obj:=jy (er 34) "_law_turned" .none (.str "law_om0152_01" 1465) (.ref 797)
def LH (P:Params):Obj:=kB "_law_held" "_law_held" 1483 791 1 0 0 3 799 1488
def LI (P:Params):Obj:=jy (er 35) "_law_held" .none (.str "law_om0152_01" 1465) (.ref 804)
def LJ (P:Params):Obj:=kB "_law_value" "_law_value" 1491 794 2 0 0 3 806 1498
def LK (P:Params):Obj:=jy (er 36) "_law_value" .none (.str "law_om0152_01" 1465) (.ref 811)
def LL (P:Params):Obj:=kB "_law_meant" "_law_meant" 1501 815 1 0 0 3 813 1507
def LM (P:Params):Obj:=jy (er 37) "_law_meant" .none (.str "law_om0152_01" 1465) (.ref 818)
noncomputable def LN (P:Params):Obj:={cls:=(.type "code"),data:=.fields #[(.str "_law_told" 1510),(.str "_law_told" 1511),(.str "/claim/cut.py" 1512),(.int 824 0),(.int 1 0),(.int 0 0),(.int 0 0),(.int 3 0),(.ref 820),(.bool true),(.int 318 0),(.ref 821),.none,.none,.none,(.ref 822),(.int 1513 0),(.int 824 0),(.str "/claim/cut.py" 1514)]}
def LO (P:Params):Obj:=jy (er 38) "_law_told" .none (.str "law_om0152_01" 1465) (.ref 823)
def LP (P:Params):Obj:=kB "_law_more" "_law_more" 1516 853 2 0 0 3 825 1523
def LQ (P:Params):Obj:=jy (er 39) "_law_more" .none (.str "law_om0152_01" 1465) (.ref 830)
def LR (P:Params):Obj:=kB "_law_change" "_law_change" 1526 859 3 0 0 3 832 1536
def LS (P:Params):Obj:=jy (er 40) "_law_change" .none (.str "law_om0152_01" 1465) (.ref 837)
noncomputable def LU (P:Params):Obj:={cls:=(.type "code"),data:=.fields #[(.str "_law_grows" 1539),(.str "_law_grows" 1540),(.str "/claim/cut.py" 1541),(.int 867 0),(.int 1 0),(.int 0 0),(.int 0 0),(.int 3 0),(.ref 839),(.bool true),(.int 318 0),(.ref 840),.none,.none,.none,(.ref 841),(.int 1542 0),(.int 867 0),(.str "/claim/cut.py" 1543)]}
def LV (P:Params):Obj:=jy (er 41) "_law_grows" .none (.str "law_om0152_01" 1465) (.ref 842)
noncomputable def y0 (P:Params):Obj:={cls:=(.type "code"),data:=.fields #[(.str "law" 1545),(.str "law" 1546),(.str "/claim/cut.py" 1547),(.int 881 0),(.int 1 0),(.int 0 0),(.int 0 0),(.int 3 0),(.ref 844),(.bool true),(.int 318 0),(.ref 845),.none,.none,.none,(.ref 846),(.int 1548 0),(.int 881 0),(.str "/claim/cut.py" 1549)]}
def fR (P:Params):Obj:=jy (er 42) "law" .none (.str "law_om0152_01" 1465) (.ref 847)
def kR (P:Params):List (Nat×Obj):=[(0,o0 P),(2,o2 P),(3,o3 P),(4,o4 P),(48,N6 P),(49,N7 P),(55,N8 P),(56,N9 P),(60,Oa P),(61,Oc P),(65,Od P),(66,Oe P),(70,Of P),(71,Og P),(75,Oh P),(76,Oi P),(82,KQ P),(83,Oj P),(89,Ol P),(90,Om P),(103,KR P),(104,KS P),(130,KU P),(131,KV P),(133,KW P),(134,KX P),(135,KY P),(160,KZ P),(161,K0 P),(391,K1 P),(401,K2 P),(407,K3 P),(408,K4 P),(414,K5 P),(415,K6 P),(421,K7 P),(422,K8 P),(482,K9 P),(483,La P),(577,Lb P),(583,Lc P),(584,Ld P),(637,Lg P),(638,Lh P),(690,Li P),(696,Lj P),(697,Lk P),(703,Ll P),(704,Lm P),(705,Ln P),(713,Lo P),(719,Lp P),(720,Lq P),(726,Lr P),(727,Ls P),(733,Lu P),(734,Lv P),(740,Lw P),(741,Lx P),(772,Ly P),(773,Lz P),(783,LA P),(784,LB P),(790,LC P),(791,LD P),(797,LF P),(798,LG P),(804,LH P),(805,LI P),(811,LJ P),(812,LK P),(818,LL P),(819,LM P),(823,LN P),(824,LO P),(830,LP P),(831,LQ P),(837,LR P),(838,LS P),(842,LU P),(843,LV P),(847,y0 P),(848,fR P)]
def tQ (P:Params):KT:=KT.of (kR P)
@[irreducible] def top (P:Params) (a:Addr):Option Obj:=(tQ P).get a
noncomputable def nK:List Obj->BT->Nat->Option BT
 |[],T,_=>some T
 |o::l,T,n=>match ((T.ins n o).get n).isSome with
  |true=>nK l (T.ins n o) (n+1)
  |false=>none
def ve (s:Shared):Option SharedT:=match Nat.beq s.1.1.toList.length 34 with
 |true=>(nK s.1.1.toList .nil 0).map λT=>⟨T,34,s.1.life,s.gens,s.drawn,s.toks,s.os⟩
 |false=>none
noncomputable abbrev pw:Program:=PySem.Challenge.pw_om0152_01
def sQ (w:World):Option (Shared×SharedT):=
 (PySem.W.Fast.tw14789777615569096658 PySem.W.Fast.tw14364793385576792824 (opening pw) w 1085 ⟨.nil,0,{},#[],{},1,(PySem.W.Fast.tw1435165496053646825 (opening pw)).1.os⟩ (PySem.W.Fast.tw1435165496053646825 (opening pw)).2).bind λr=>match r.2.atExitBegin with
  |some []=>(PySem.W.Fast.tw14289696077712309145 pw r.1.abs).bind λa=>(ve a).bind λb=>
    (PySem.W.Fast.tw10110043849684766642 PySem.W.Fast.tw14364793385576792824 pw w 34 (some (.ref 6)) 0 5600 b (topStub pw)).map λq=>(a,q.2.1)
  |_=>none
def mW:List Str:=importedModules pw.main.body
def Fj (P:Params) (r:Shared×SharedT):=
 (((kR P).map λp=>r.2.tree.get p.1),Nat.beq r.2.n 849,r.2.tree.get 78,r.1.1.isNs mainGlobals&&r.1.gens.size==0,r.1.1.nsMap mainGlobals "__annotations__",
 (staticsOk mW r.1.1 r.2.abs.1&&namesBound pw r.2.abs.1&&gensDone r.2.abs&&laidKept r.1.1 r.2.abs.1),
 r.2.abs.1.bltView,(r.2.abs.1.accountedOkI mW&&r.2.abs.1.isNs mainGlobals&&r.2.abs.1.isNs builtinsNs&&r.2.abs.1.bmainOk&&r.2.gens.size==0))
theorem Cx (w:World):(sQ w).map (Fj w.2)=some ((kR w.2).map λp=>some p.2,true,some {cls:=.none,data:=.fields #[]},true,some (.ref 6),true,bltViewBooted,true):=by kernel_rfl
section
theorem kS {life:Life}:∀(l:P7) (T:BT) (n:Nat) (R:BT),nK l T n=some R->absHeap R (n+l.length) life=⟨(absHeap T n life).objs++l.toArray,life⟩
 |[],T,n,R,h=>by
  obtain rfl:T=R:=Option.some.inj h;unfold absHeap;simp
 |o::l,T,n,R,h=>by
  unfold nK at h;cases q:((T.ins n o).get n).isSome with
  |false=>rw [q] at h;cases h
  |true=>
   rw [q] at h;have:=kS (life:=life) l _ _ _ h;rw [show n+(o::l).length=n+1+l.length by simp only [List.length_cons];lia,this,absHeap_ins q]
   show Heap.mk _ _=Heap.mk _ _;congr 1;show (absHeap T n life).objs.push o++l.toArray=_;apply Array.ext';simp
theorem mX {s:Shared} {S:SharedT} (h:ve s=some S):S.abs=s/\s.1.1.size=34:=by
 delta ve at h;cases q:Nat.beq s.1.1.toList.length 34 with
 |false=>rw [q] at h;cases h
 |true=>
  rw [q] at h;obtain ⟨T,c,rfl⟩:=Option.map_eq_some_iff.mp h;have e:s.1.1.toList.length=34:=Nat.eq_of_beq_eq_true q;have:=kS (life:=s.1.life) _ _ _ _ c;rw [e] at this;obtain ⟨⟨b,a⟩,g,d,t,os⟩:=s;refine ⟨?_,by simpa using e⟩
  show (⟨absHeap T 34 a,g,d,t,os⟩:Shared)=_;have f:absHeap T 34 a=⟨b,a⟩:=by
   refine this.trans ?_;show Heap.mk _ _=Heap.mk _ _;congr 1;delta absHeap BT.list;simp
  rw [f]
theorem pC {j:String->Option Builtin} {p:Program} {w:World} {b:Nat} {e:P6}:∀(n:Nat) (s:Shared) (t:Thread) (r:Flow×Shared×Code×Pos),segRun j p w b e 0 n s t=some r->topRun j p w b e n s t=some r.2.1
 |0,_,_,_,h=>by cases h
 |n+1,s,t,r,h=>by
  unfold segRun at h;unfold topRun;cases g:endAt 0 t with
  |some f=>
   simp only [g] at h;have k:through t=true:=by
    obtain ⟨d,code,i,stack⟩:=t;cases stack with
    |nil=>
     cases d with
     |pure x=>cases x with
      |done f=>rfl
      |again c=>cases g
     |_=>cases g
    |cons a l=>
     exfalso;have:endAt 0 ⟨d,code,i,a::l⟩=none:=by unfold endAt;rfl
     rw [this] at g;injection g
   simp only [k];obtain rfl:=Option.some.inj h;rfl
  |none=>
   rw [g] at h;have k:through t=false:=by
    obtain ⟨d,code,i,stack⟩:=t;cases stack with
    |nil=>
     cases d with
     |pure x=>cases x with
      |done f=>cases g
      |again c=>rfl
     |_=>rfl
    |cons a l=>rfl
   simp only [k];dsimp only at h⊢;cases m:stepOk b e t with
   |false=>rw [m] at h;cases h
   |true=>
    rw [m] at h;dsimp only at h⊢;cases q:step (denote j) p w s t with
    |halt o u=>rw [q] at h;cases h
    |go u v=>rw [q] at h;exact pC n u v r h
set_option tactic.hygienic true in
theorem rB {w:World} {a:Shared} {S:SharedT} (h:sQ w=some (a,S)):
  (∃s,importEnds treeTable (opening pw) w 1086 (PySem.start (opening pw)).1 (PySem.start (opening pw)).2=some s/\fenceModules? pw s=some a)/\
  topRun treeTable pw w 34 (some (.ref 6)) 5600 a (topStub pw)=some S.abs/\a.1.1.size=34:=by
 unfold sQ at h;rw [<-PySem.W.Fast.te14789777615569096658,<-PySem.W.Fast.te14364793385576792824,<-PySem.W.Fast.te1435165496053646825,<-PySem.W.Fast.te14289696077712309145,<-PySem.W.Fast.te10110043849684766642] at h;obtain ⟨⟨g,o⟩,i,h⟩:=Option.bind_eq_some_iff.mp h;have b:=impGo_of i;have j:SharedT.abs ⟨.nil,0,{},#[],{},1,(PySem.start (opening pw)).1.os⟩=(PySem.start (opening pw)).1:=by kernel_rfl
 rw [j] at b;dsimp only at h;split at h
 ·rename_i q
  obtain ⟨r,k,h⟩:=Option.bind_eq_some_iff.mp h;obtain ⟨t,d,h⟩:=Option.bind_eq_some_iff.mp h;obtain ⟨⟨f,u,c,p⟩,l,h⟩:=Option.map_eq_some_iff.mp h;obtain ⟨rfl,rfl⟩:=Prod.mk.inj h;have m:=(mX d).1;have n:=(mX d).2;have e:=segRun_of l;rw [m] at e;refine ⟨⟨g.abs,imp_go (N:=1) b ?_,k⟩,pC _ _ _ _ e,n⟩;unfold importEnds;rw [q]
 ·injection h
end
noncomputable abbrev aX:Program:=PySem.Challenge.pw_om0152_01
@[irreducible] noncomputable def iO:Code->Sem Fin:=PySem.W.Fast.tw11892475500146522536 PySem.W.Fast.tw14364793385576792824
theorem rC:denote table=iO:=by
 unfold iO;rw [table_eq_tree,PySem.W.Fast.te11892475500146522536,PySem.W.Fast.te14364793385576792824]
abbrev bH (w:World) (F:aA) (O:Nat->Code->Qa->Qb->List Code->Option Value->Option mL):Prop:=∀id c b kn C H a,O id c b kn C H=some a->∀d,Le F d->a.Ok aX w d c b kn C H
def Fk (w:World) (O:Nat->Code->Qa->Qb->List Code->Option Value->Option mL) (Py:Nat->Option (Addr×Obj)) (X:EM) (base:P8) (PI PJ:Nat) (PU:P6) (adr:P4) (tk:P2) (Pp:Nat->List Pos):eP:=
 {den:=iO,G:=⟨aX,w.2⟩,top:=top w.2,PU,PI,PJ,adr,tk,Pp,O,Py,base,X}
theorem pE (P:Params):top P 2=some (o2 P):=by kernel_rfl
theorem lim (P:Params) (h:Heap) (B:cK (top P) h):h.NoLimit:=by
 have e:=B _ _ (pE P);have i:h.isNs cStatics=true:=by
  unfold Heap.isNs;rw [show h.get? cStatics=some (o2 P) from e]
  kernel_rfl
 refine ⟨_,.of_isNs i,?_⟩;unfold Heap.nsMap;rw [show h.get? cStatics=some (o2 P) from e]
 kernel_rfl
def ah (b:Program) (w:World) (F:aA) (d u:Nat) (C:P8) (H:P6) (c:Code) (n:Qa) (k:P4->P2->P7) (e h:Nat) (l:P4->P2->P7) (o:P4->P2->hZ) (f:P4->P2->Qb):Prop:=
 ∀(A:Around) (s:Shared) (R:Result->Shared->Prop),A.handled=H->A.depth+d<recursionLimit->A.units+u<cLine->cK F s.1->(∀p∈n,s.1.get? p.1=some p.2/\F p.1=none)->(n.map (·.1)).Nodup->
  (∀q a j r,ie F r s q (fN n (k (ae e a) (ae h j)))->(∀i,i<(l (ae e a) (ae h j)).length->r (a i)=none)->(∀g∈f (ae e a) (ae h j),∀m,Le r m->g m)->
   fk s q n (k (ae e a) (ae h j)) e (l (ae e a) (ae h j)) a->sN b w A C R (o (ae e a) (ae h j)) q)->gT (model b w) A C c R s
noncomputable def ab (a:P4) (l:P7):Qa:=l.zipIdx.map λx=>(a x.2,x.1)
theorem aw {a:P4} {l:P7} {i:Nat}:(ab a l)[i]? =(l[i]?).map λo=>(a i,o):=by
 unfold ab;rw [List.getElem?_map,List.getElem?_zipIdx];cases l[i]? <;>simp
noncomputable def Fm (l:Qb) (j:Nat):aA->Prop:=l.getD j λY=>True
def pF (k:Nat) (a b c:P1) (o:uQ):=(o.eqs.map (·.1),o.Pq,o.res,(List.range k).map (gl o.T),a.map (gl o.T),(a++b).all (λj=>Nat.ble k j&&Nat.blt j o.m),c.map (Fm o.kn))
noncomputable def Cy (r:Option uQ):List Ob:=match r with
 |some o=>o.eqs.map (·.2)
 |none=>[]
theorem fu {l:P1} {f:Nat->Option Obj} {g:Obj->Option Obj} {a:P7} (h:l.map f=a.map g) {i j:Nat} (b:l[i]? =some j):∃o,a[i]? =some o/\f j=g o:=by
 have e:=congrArg (·[i]?) h;simp only [List.getElem?_map,b] at e;cases q:a[i]? with
 |none=>rw [q] at e;cases e
 |some o=>rw [q] at e;exact ⟨o,rfl,by simpa using e⟩
theorem mY {o:Obj} (h:o.isFreed=false):nH o=some o:=by unfold nH;rw [h]
theorem gG {l:P1} (h:l.Nodup) {i j:Nat} {a:i<l.length} {b:j<l.length} (e:l[i]=l[j]):i=j:=by
 have p:=List.pairwise_iff_getElem.mp h;rcases Nat.lt_trichotomy i j with q|q|q
 ·exact absurd e (p i j a b q)
 ·exact q
 ·exact absurd e.symm (p j i b a q)
theorem nM {w:World} {F:aA} {O:Nat->Code->Qa->Qb->List Code->Option Value->Option mL} {BF:P4->P8} {Py:Nat->Option (Addr×Obj)} {X:EM} {Hd:P6} {d u k nn Pm H N:Nat} {cF:P4->Code} {G:P4->P7} {uF nF:P4->P4->P2->P7} {rF:P4->P4->P2->hZ} {gF:P4->P4->P2->Qb} {n L Pz Pn:P1} {Po:List Prop}
  (hT:Le (top w.2) F) (hO:bH w F O) (PB:∀j x,Py j=some x->F x.1=some x.2) (hX:∀id c fs C x,X id c fs C=some x->x.Ok aX w c fs C) (hf:∀x∈Po,x) (hk:∀f,(G f).length=k) (hi:(n++L).length=nn) (hn:dQ (n++L)=true)
  (a:P4) (PC:∀l I Pp,ae k l=ae k a->(start (Fk w O Py X (BF (ae k l)) d u Hd l I Pp) H (cF (ae k l)) (G (ae k l)) N).map (pF k n L Pz)=
   some (Cy (start (Fk w O Py X (BF (ae k l)) d u Hd l I Pp) H (cF (ae k l)) (G (ae k l)) N),Po,rF (ae k l) (ae nn λj=>l ((n++L).getD j 0)) (ae Pm λj=>I (Pn.getD j 0)),
    (uF (ae k l) (ae nn λj=>l ((n++L).getD j 0)) (ae Pm λj=>I (Pn.getD j 0))).map nH,(nF (ae k l) (ae nn λj=>l ((n++L).getD j 0)) (ae Pm λj=>I (Pn.getD j 0))).map some,true,
    gF (ae k l) (ae nn λj=>l ((n++L).getD j 0)) (ae Pm λj=>I (Pn.getD j 0)))):
  ah aX w F d u (BF (ae k a)) Hd (cF (ae k a)) (ab a (G (ae k a))) (uF (ae k a)) nn Pm (nF (ae k a)) (rF (ae k a)) (gF (ae k a)):=by
 have PD:∀h,cK F h->h.NoLimit:=λh B=>lim w.2 h λa o e=>B a o (hT a o e);intro A s R hH hd hu hB PI PJ hR;have PK:=ep hn;have Pq:∀i o,(G (ae k a))[i]? =some o->s.1.get? (a i)=some o/\F (a i)=none:=λi o e=>
  PI (a i,o) (List.mem_of_getElem? (i:=i) (by rw [aw,e];rfl))
 obtain ⟨P,hP⟩:∃P,P=Fk w O Py X (BF (ae k a)) d u Hd a (λ_=>0) (λ_=>[]):=⟨_,rfl⟩;have HP:rz aX w A F P:=by rw [hP];exact ⟨rC.symm,rfl,hT,PD,hO,PB,hd,hu,hH,hX⟩
 have PL:∀l I Pp,Fk w O Py X (BF (ae k a)) d u Hd l I Pp=P.at l I Pp:=λl I Pp=>by rw [hP];rfl
 have Pt:P.adr=a:=by rw [hP];rfl
 obtain ⟨T,r0,PE,hg⟩:∃T r,fi .nil 0 (G (ae k a))=some T/\kN P (rd P (G (ae k a)).length) T H (cF (ae k a))=some r:=by
  have r:=PC a (λ_=>0) (λ_=>[]) rfl;rw [<-hP] at r;obtain ⟨o,hs,_⟩:=Option.map_eq_some_iff.mp r;obtain ⟨T,hT,hs⟩:=Option.bind_eq_some_iff.mp (show (fi .nil 0 _).bind _=some o from hs)
  obtain ⟨r0,hg,_⟩:=fj hs;exact ⟨T,r0,hT,hg⟩
 have Pu:∀j o,T.get j=some o->(G (ae k a))[j]? =some o:=λj o e=>by
  rcases fp PE e with ⟨i,rfl,hi⟩|⟨_,b⟩
  ·rw [Nat.zero_add];exact hi
  ·cases b
 have D:kq P F s k F s T k []:=by
  refine ⟨λj o e=>?_,λi j h1 h2 eq=>?_,λj hj=>?_,⟨Le.refl F,hB,λ_ _ e=>.inl e⟩,λj o e=>?_,λg hg=>(by cases hg),λb o e _=>e,Nat.le_refl _,λj h1 h2=>absurd h2 (Nat.not_lt.mpr h1),Nat.le_refl _,rfl,rfl,rfl,rfl⟩
  ·have x:=Pu j o (eI e).1
   exact ⟨by rw [<-hk (ae k a)];exact (List.getElem?_eq_some_iff.mp x).1,by rw [Pt];exact (Pq j o x).1⟩
  ·rw [Pt] at eq
   have hl:(ab a (G (ae k a))).length=k:=by unfold ab;rw [List.length_map,List.length_zipIdx,hk]
   have g:∀i,i<k->((ab a (G (ae k a))).map (·.1))[i]? =some (a i):=λi hi=>by
    rw [List.getElem?_map,aw];rw [List.getElem?_eq_getElem (by rw [hk];exact hi)]
    rfl
   have PF:((ab a (G (ae k a))).map (·.1)).length=k:=by rw [List.length_map];exact hl
   have g1:=g i h1;have g2:=g j h2;rw [List.getElem?_eq_getElem (by rw [PF];exact h1)] at g1
   rw [List.getElem?_eq_getElem (by rw [PF];exact h2)] at g2
   exact gG PJ ((Option.some.inj g1).trans (eq.trans (Option.some.inj g2).symm))
  ·have J:j<(G (ae k a)).length:=by rw [hk];exact hj
   rw [Pt];exact Heap.lt_size (Pq j _ (List.getElem?_eq_getElem J)).1
  ·rw [Pt]
   exact (Pq j o (Pu j o (eI e).1)).2
 have W:kQ P N {h:=r0.h,c:=cF (ae k a),e:=r0.e,κ:=.base,t:=r0.t,T,m:=(G (ae k a)).length,i:=0,q:=0,kn:=[]} r0.q [] (Ff ⟨aX,w,A,R,F,s,k⟩):=by
  intro l I Pp h1 h2 h3;have PM:=(congrArg (λA=>kN P A T H (cF (ae k a))) (mP (tk:=I) (Pp:=Pp) h1)).trans hg;dsimp only at h1;rw [hk,Pt] at h1;have ec:ae k l=ae k a:=jx λx hx=>h1 x hx;have r:=PC l I Pp ec;rw [ec,PL] at r;have sx:start (P.at l I Pp) H (cF (ae k a)) (G (ae k a)) N=yQ (P.at l I Pp) N {h:=r0.h,c:=cF (ae k a),e:=r0.e,κ:=.base,t:=r0.t,T,m:=(G (ae k a)).length,i:=0,q:=0,kn:=[]} r0.q []:=by
   unfold start;rw [PE];show j0 (kN P (rd (P.at l I Pp) (G (ae k a)).length) T H (cF (ae k a))) _=_;rw [PM];rfl
  rw [sx] at r;obtain ⟨o,hs,r⟩:=Option.map_eq_some_iff.mp r;rw [hs] at r
  ·simp only [pF,Cy,Prod.mk.injEq] at r
   obtain ⟨r1,r2,r3,r4,r5,r6,r7⟩:=r;refine ⟨o,hs,λx hx=>?_,λx hx=>hf x (by rw [<-r2];exact hx),λs' F' Q=>?_⟩
   ·obtain ⟨i,v⟩:=List.getElem?_of_mem hx
    have g:=congrArg (·[i]?) r1;simp only [List.getElem?_map,v,Option.map_some,Option.some.injEq] at g;exact g
   ·have zB:(P.at l I Pp).base=BF (ae k a):=by rw [hP];rfl
    rw [r3,zB];have U:∀i,i<nn->(n++L)[i]? =some ((n++L).getD i 0)/\k<=(n++L).getD i 0/\(n++L).getD i 0<o.m:=λi hl=>by
     have g:(n++L)[i]? =some ((n++L).getD i 0):=by rw [List.getD_eq_getElem?_getD,List.getElem?_eq_getElem (by rw [hi];exact hl)];rfl
     have z:=List.all_eq_true.mp r6 _ (List.mem_of_getElem? g);obtain ⟨z1,z2⟩:=Bool.and_eq_true_iff.mp z;exact ⟨g,Nat.le_of_ble_eq_true z1,Nat.le_of_ble_eq_true z2⟩
    have PG:=congrArg List.length r5;simp only [List.length_map] at PG;have Pw:∀i o',(nF (ae k a) (ae nn λj=>l ((n++L).getD j 0)) (ae Pm λj=>I (Pn.getD j 0)))[i]? =some o'->gl o.T ((n++L).getD i 0)=some o':=λi o' ho=>by
     have hl:i<n.length:=by
      have h2:=(List.getElem?_eq_some_iff.mp ho).1;lia
     have PN:n[i]? =some ((n++L).getD i 0):=by
      rw [List.getD_eq_getElem?_getD,List.getElem?_append_left hl,List.getElem?_eq_getElem hl];rfl
     obtain ⟨y,V,Y⟩:=fu r5 PN;rw [ho] at V;cases V;exact Y
    refine hR s' (λj=>l ((n++L).getD j 0)) (λj=>I (Pn.getD j 0)) F' ⟨Q.grow.le,Q.grow.base,λa' o' e'=>?_⟩ (λi hl=>?_) (λg hg=>by
     rw [<-r7] at hg;obtain ⟨j,hj,rfl⟩:=List.mem_map.mp hg;unfold Fm;rw [List.getD_eq_getElem?_getD];cases q:o.kn[j]? with
     |none=>exact λ_ _=>trivial
     |some g=>exact Q.kn g (List.mem_of_getElem? q)) ⟨λb o' e' hb=>?_,λi p o' hp ho PA=>?_,λi o' ho=>?_,λi v=>?_,λi v=>?_,λi j v J eq=>?_,Q.size,Q.life,Q.gens,Q.drawn,Q.os⟩
    ·rcases Q.grow.new a' o' e' with x|x|⟨j,hj,x⟩
     ·exact .inl x
     ·exact .inr (.inl x)
     ·refine .inr (.inr ?_)
      have J:j<(G (ae k a)).length:=by rw [hk];exact hj
      have ea:a'=a j:=x.trans (h1 j hj);obtain ⟨y,V,Y⟩:=fu r4 (i:=j) (j:=j) (by rw [List.getElem?_range hj])
      refine ⟨j,(a j,(G (ae k a))[j]),y,by rw [aw,List.getElem?_eq_getElem J];rfl,V,?_,ea⟩
      cases PA:y.isFreed with
      |true=>rfl
      |false=>
       rw [mY PA] at Y;have:=Q.off j y Y;rw [<-x] at this;rw [this] at e';cases e'
    ·exact Q.off _ _ (Pw i _ (List.getElem?_eq_getElem hl))
    ·refine Q.keep b o' e' λj hj eq=>hb ?_
     have J:j<(G (ae k a)).length:=by rw [hk];exact hj
     refine List.mem_map.mpr ⟨(a j,(G (ae k a))[j]),List.mem_of_getElem? (i:=j) (by rw [aw,List.getElem?_eq_getElem J];rfl),?_⟩
     rw [eq];exact (h1 j hj).symm
    ·rw [aw] at hp
     obtain ⟨x,hx,rfl⟩:=Option.map_eq_some_iff.mp hp;have PH:i<k:=by rw [<-hk (ae k a)];exact (List.getElem?_eq_some_iff.mp hx).1
     obtain ⟨y,V,Y⟩:=fu r4 (i:=i) (j:=i) (by rw [List.getElem?_range PH])
     rw [ho] at V;cases V;simp only [mY PA] at Y;have:=(Q.own i o' Y).2;rw [show (P.at l I Pp).adr i=a i from h1 i PH] at this
     exact this
    ·exact (Q.own _ _ (Pw i o' ho)).2
    ·exact Q.PA _ (U i v).2.1 (U i v).2.2
    ·exact Q.lt _ (U i v).2.2
    ·have x:=Q.inj _ _ (U i v).2.2 (U j J).2.2 eq
     have g1:=(U i v).1;have g2:=(U j J).1;rw [<-x] at g2;rw [List.getElem?_eq_getElem (by rw [hi];exact v)] at g1
     rw [List.getElem?_eq_getElem (by rw [hi];exact J)] at g2
     exact gG PK ((Option.some.inj g1).trans (Option.some.inj g2).symm)
 have z:=AG (E:=⟨aX,w,A,R,F,s,k⟩) N P _ _ _ F s ⟨HP,W,by dsimp only;rw [hk];exact D⟩
 have zB:P.base=BF (ae k a):=by rw [hP];rfl
 rw [zB] at z;exact ic (fq (E:=⟨aX,w,A,R,F,s,k⟩) HP (by rw [hk];exact D) hg W.eqs.1 z)
section
noncomputable def mk (l:P1):Str:=⟨⟨l⟩⟩
abbrev Qc (l:P1):Value:=.str (mk l) 0
noncomputable def aD (s:Str):Prop:=s.length<=1000
section
variable {w:World} {F:aA} {c b:Code} {kn:Qb} {C:P8} {H:P6}
theorem pG {A:Around} {R:Result->Shared->Prop} {s:Shared} (a:iO c= .pure (.again b)) (d:b.quiet=true) (e:wpOwn (model aX w) A b (iO b) (postC aX w A R) (postE R) s):codeAny (model aX w) A c R s:=by
 refine y_code _ _ _ _ _ _ ?_;rw [rC,a];refine y_pure _ _ _ _ _ _ _ _ _ (y_again _ _ _ _ _ _ d (y_code _ _ _ _ _ _ ?_));rw [rC];exact e
theorem bz {F:aA} {s:Shared} {S:Addr->Prop} (a:cK F s.1) (k:Nat):ie F F s {s with toks:=k} S:=⟨Le.refl F,a,λY Y e=>.inl e⟩
theorem jz (s:Shared) (k:Nat) (a:P4):fk s {s with toks:=k} [] [] 0 [] a:=
 ⟨λY Y e Y=>e,λY Y Y h Y=>by simp at h,λY Y h=>by simp at h,λY h=>absurd h (Nat.not_lt_zero _),λY h=>absurd h (Nat.not_lt_zero _),λY Y h=>absurd h (Nat.not_lt_zero _),Nat.le_refl _,rfl,rfl,rfl,rfl⟩
theorem a5 (s:Shared) (k:Nat) (a:Qa) (d:∀p∈a,s.1.get? p.1=some p.2) (f:P4):fk s {s with toks:=k} a (a.map (·.2)) 0 [] f:=
 ⟨λY Y e Y=>e,λi p o h g=>by
  simp only [List.getElem?_map,h] at g;cases g;exact λY=>d p (List.mem_of_getElem? h),λY Y h=>by simp at h,λY h=>absurd h (Nat.not_lt_zero _),λY h=>absurd h (Nat.not_lt_zero _),λY Y h=>absurd h (Nat.not_lt_zero _),Nat.le_refl _,rfl,rfl,rfl,rfl⟩
noncomputable def fI (x y:Str):Bool:=!(Builtin.Str.occurrences x y 0 x.length 1).isEmpty
theorem eQ {a:Str} (h:aD a):a.length<=sizeLine:=Nat.le_trans h (by decide+kernel)
noncomputable def fS (x:Str) (i:Int) (a:Str):Prop:=∃k:Nat,i=k/\k<1000/\∃c,x.cps[k]? =some c/\(⟨#[c]⟩:Str)=a
noncomputable def Cz (l u:Value):Obj:={cls:=.type "slice",data:=.fields #[l,u,.none]}
noncomputable def pH:Value->Option Int
 | .int i _=>some i
 |_=>none
noncomputable def Ni (o:Obj) (i:Nat):Value:=match o.data with
 | .fields a=>a.toList.getD i .none
 |_=>.none
def ak:Value->Prop
 | .int _ _=>True
 | .none=>True
 |_=>False
noncomputable def sR:Value->Option (Int×Tok)
 | .int i t=>some (i,t)
 |_=>none
theorem mZ {v:Value} (h:ak v):partValue (sR v)=v:=by cases v<;>first|rfl|exact h.elim
theorem pI {v:Value}:(sR v).map (·.1)=pH v:=by cases v<;>rfl
noncomputable def Kg:Code:=.builtin "" ⟨[],[]⟩
noncomputable def az (a:P5):Obj:={cls:=.type "tuple",data:=.seq a.toArray 0}
noncomputable def CA (o:Obj):P5:=match o.data with
 | .seq a _=>a.toList
 |_=>[]
noncomputable def aU (x:Str):Value->Bool
 | .str y _=>y.cps.toList==x.cps.toList
 |_=>false
noncomputable def dm:Value->Bool
 | .str _ _=>true
 |_=>false
noncomputable def Fn (a:P5) (n:Nat):Obj:={cls:=.type "list",data:=.seq a.toArray n}
noncomputable def Pr (o:Obj):Nat:=match o.data with
 | .seq _ n=>n
 |_=>0
noncomputable def aR:Value->Tok
 | .int _ t=>t
 | .str _ t=>t
 |_=>0
noncomputable def vI:Value->Int
 | .int i _=>i
 |_=>0
noncomputable def vS:Value->Str
 | .str s _=>s
 |_=>⟨#[]⟩
noncomputable def vA:Value->Addr
 | .ref a=>a
 |_=>0
end
structure sS where
 need:Nat
 Po:Nat
 code:Code
 fs:Qa
 Pq:List Prop
 wants:Qb
 below:Option P8:=none
 hand:Option P6:=none
 upd:P4->P2->P7
 nn:Nat
 new:P4->P2->P7
 Pm:Nat
 res:P4->P2->hZ
 gives:P4->P2->Qb
noncomputable def bC (code:Code) (fs:Qa) (Pq:List Prop) (Pm:Nat) (a:P2->Value):sS:=
 {need:=0,Po:=0,code,fs,Pq,wants:=[],upd:=λY Y=>fs.map (·.2),nn:=0,new:=λY Y=>[],Pm,res:=λY b=>.end_ (.ok (.ret (a b))),gives:=λY Y=>[]}
def sS.PH (X:sS):Prop:=∀{w:World} {F:aA} {C:P8} {H:P6},(∀x∈X.Pq,x)->Fe aX w F X.need X.Po C H X.code X.fs X.upd X.nn X.Pm X.new X.res X.gives
noncomputable abbrev LW:={X:sS // X.PH}
section
variable {c c':Code} {j:Qa} {f:List Prop} {m:Nat} {d:P2->Value} {g:String} {args:P5} {x y out:Str} {t u:Tok} {b v:Bool} {i:Int}
theorem iP (h:(∀x∈f,x)->∀{w:World} {A:Around} {s:Shared} {R:Result->Shared->Prop},(∀p∈j,s.1.get? p.1=some p.2)->(∀k e,R (.ok (.ret (d (ae m e)))) {s with toks:=k})->aK (model aX w) A c R s):(bC c j f m d).PH:=
 λ{w F C H} n A s R _ _ _ o a _ q=>aK.o (h n (λp l=>(a p l).1) λk e=>q {s with toks:=k} (λY=>0) e F (bz o k) (λY h=>absurd h (Nat.not_lt_zero _)) (λY h=>nomatch h) (a5 s k j (λp l=>(a p l).1) _))
theorem EO (a:iO c= .pure (.again c')) (e:iO c'= .pure (.done (.ret (.bool b)))) (h:c'.quiet=true):(bC c [] [b=v] 0 λY=>.bool v).PH:=
 iP λk {w A s R} _ l=>cc (pG a h (by
  rw [e];exact y_pure _ _ _ _ _ _ _ _ _ (y_done _ _ _ _ _ _ ((k _ (.head _):b=v)▸l s.toks λY=>0))))
theorem Nj (a:iO c= .pure (.again c')) (e:iO c'= .fresh λt=>.pure (.done (.ret (.int i t)))) (h:c'.quiet=true):(bC c [] [] 1 λk=>.int i (k 0)).PH:=
 iP λn {w A s R} _ l=>cc (pG a h (by
  rw [e];exact y_fresh _ _ _ _ _ _ _ _ _ _ _ _ _ (y_pure _ _ _ _ _ _ _ _ _ (y_done _ _ _ _ _ _ (l (s.toks+1) λY=>s.toks)))))
theorem vf (h:∀{w:World} {A:Around} {E:Value->Shared->Prop} {s:Shared} {Q:Value->Shared->Prop},Q (.bool b) s->wpAny (model aX w) A (call (.builtin g) args) Q E s):(bC (.call (.builtin g) ⟨args,[]⟩) [] [b=v] 0 λY=>.bool v).PH:=
 iP λa {w A s R} _ e=>aq (h ((a _ (.head _):b=v)▸e s.toks λY=>0))
theorem pK (h:(∀p∈f,p)->∀{w:World} {A:Around} {E:Value->Shared->Prop} {s:Shared} {Q:Value->Shared->Prop},(∀t k,Q (.str x t) {s with toks:=k})->wpAny (model aX w) A (call (.builtin g) args) Q E s):(bC (.call (.builtin g) ⟨args,[]⟩) [] f 1 λa=>.str x (a 0)).PH:=
 iP λe {w A s R} _ l=>aq (h e λt k=>l k λY=>t)
theorem CB:(bC (.call (.builtin "len") ⟨[.str x t],[]⟩) [] [aD x] 1 λa=>.int x.length (a 0)).PH:=
 iP λe {w A s R} _ h=>aq (PyProof.Rows.len_str (by have:x.length<=1000:=e _ (.head _);lia) (h _ λY=>_))
theorem tR:(bC (.call (.builtin "str.lstrip") ⟨[.str x t],[]⟩) [] [aD x,Txt.lstrip x=out] 1 λe=>.str out (e 0)).PH:=
 pK λa {w A E s Q} h=>SC.lstrip ((a _ (.tail _ (.head _)):Txt.lstrip x=out)▸h) (eQ (a _ (.head _)))
theorem tS:(bC (.call (.builtin "str.rstrip") ⟨[.str x t],[]⟩) [] [aD x,Txt.rstrip x=out] 1 λe=>.str out (e 0)).PH:=
 pK λa {w A E s Q} h=>SC.rstrip ((a _ (.tail _ (.head _)):Txt.rstrip x=out)▸h) (eQ (a _ (.head _)))
theorem rD:(bC (.call (.builtin "str.rstrip") ⟨[.str x t,.str y u],[]⟩) [] [aD x,Txt.rstripChars x y=out] 1 λe=>.str out (e 0)).PH:=
 pK λa {w A E s Q} h=>SC.rstripChars ((a _ (.tail _ (.head _)):Txt.rstripChars x y=out)▸h) (eQ (a _ (.head _)))
theorem y5:(bC (.call (.builtin "str.__add__") ⟨[.str x t,.str y u],[]⟩) [] [aD (x++y),x++y=out] 1 λe=>.str out (e 0)).PH:=
 pK λa {w A E s Q} h=>call_str_add ((a _ (.tail _ (.head _)):x++y=out)▸h) ((Array.size_append:(x.cps++y.cps).size=_)▸eQ (a _ (.head _)))
theorem y6:(bC (.call (.builtin "str.__getitem__") ⟨[.str x t,.int i u],[]⟩) [] [fS x i out] 1 λo=>.str out (o 0)).PH:=by
 refine pK λp {w A E s Q} h=>?_;obtain ⟨k,rfl,q,c,n,e⟩:fS x i out:=p _ (.head _);have l:k<x.length:=(Array.getElem?_eq_some_iff.mp n).1;refine call_gives PySem.F.slot_str_getitem (typeIs_str _ _ _) PySem.F.entry_str_getitem (PySem.F.args_str_getitem_2 _ _) (gives_str_getitem x k _ _ c ?_ ?_) ?_
 ·simp only [Bool.or_eq_false_iff,decide_eq_false_iff_not];lia
 ·have:seqIndex? (k:Int) x.length=some k:=by
   unfold seqIndex?;have a:¬((k:Int)<0):=by lia
   simp [a,l]
  rw [this];exact n
 ·rw [e]
  exact ⟨by rw [<-e];exact (by decide+kernel:(1:Nat)<=sizeLine),h _ _⟩
theorem kT {x:Str} {t:Tok} {l u:Option (Int×Tok)} {Q:Value->Shared->Prop} {s:Shared} (a:aD x) (h:∀t k,Q (.str (Txt.slice x (l.map (·.1)) (u.map (·.1))) t) {s with toks:=k}):(sliceMade x t l u none).post Q s:=
 post_val_or_str ⟨Nat.le_trans (Txt.slice_le x _ _) (eQ a),λe k=>h e k⟩
theorem vg {p:Addr} {l r:Value}:(bC (.call (.builtin "str.__getitem__") ⟨[.str x t,.ref p],[]⟩) [(p,Cz l r)] [aD x,ak l,ak r,Txt.slice x (pH l) (pH r)=out] 1 λh=>.str out (h 0)).PH:=
 iP λa {w A s R} e n=>aq (call_meets PySem.F.slot_str_getitem (typeIs_str _ _ _) PySem.F.entry_str_getitem (PySem.F.args_str_getitem_2 _ _) (meets_str_getitem_slice x t p (sR l) (sR r) none (by decide)) ⟨⟨_,e _ (.head _),rfl,by rw [mZ (a _ (.tail _ (.head _))),mZ (a _ (.tail _ (.tail _ (.head _))))];rfl⟩,kT (a _ (.head _)) λo k=>by
  rw [pI,pI,(a _ (.tail _ (.tail _ (.tail _ (.head _)))):Txt.slice x (pH l) (pH r)=out)];exact n k λY=>o⟩)
theorem Fo {p:Addr} {vs:P5}:(bC (.call (.builtin "tuple.__contains__") ⟨[.ref p,.str x t],[]⟩) [(p,az vs)] [vs.all dm=true,vs.any (aU x)=v] 0 λY=>.bool v).PH:=by
 refine iP λe {w A s R} a h=>?_;refine aq (call_meets PySem.F.slot_tuple_contains ⟨_,a _ (.head _),rfl⟩ PySem.F.entry_tuple_contains (PySem.F.args_tuple_contains_2 _ _) (SeqAt.tuple_containsAt p vs.toArray 0 none #[] (.str x t) (aU x)) ⟨a _ (.head _),λy k=>?_,?_⟩)
 ·have l:=List.all_eq_true.mp (e _ (.head _):vs.all dm=true) y (by simpa using k)
  cases y<;>first|exact (SeqRoads2.EqGives.str _ _ _ _).at _ _|injection l
 ·rw [List.any_toArray,(e _ (.tail _ (.head _)):vs.any (aU x)=v)]
  exact h s.toks λY=>0
theorem y7:(bC (.builtin "len" ⟨[.str x t],[]⟩) [] [aD x] 1 λh=>.int x.length (h 0)).PH:=by
 refine iP λk {w A s R} _ l=>cc (codeAny_builtin entry_len ?_);have q:x.length<=1000:=k _ (.head _);rw [Around.under_plainId plain_len _];exact wpAny_mono (wpAny_len_body (Q:=λr a=>R (.ok (.ret r)) a) (typeIs_str s x t) PySem.F.slot_str_len PySem.F.entry_str_len (PySem.F.args_str_len_1 _) (gives_str_len x t) (by lia) (by lia) (l (s.toks+1+1) λY=>s.toks+1)) (λn a o=>by obtain ⟨r,rfl,p⟩:=o;exact p) λY Y e=>e
theorem y8 {p:Addr} {vs:P5} {n:Nat}:(bC (.builtin "len" ⟨[.ref p],[]⟩) [(p,Fn vs n)] [vs.length<=1000] 1 λk=>.int (vs.length:Nat) (k 0)).PH:=by
 refine iP λl {w A s R} a o=>cc (codeAny_builtin entry_len ?_);have C:vs.toArray.size<=1000:=l _ (.head _);rw [Around.under_plainId plain_len _];exact wpAny_mono (wpAny_len_body_list (Q:=λr h=>R (.ok (.ret r)) h) ⟨_,a _ (.head _),rfl,n,rfl⟩ (by lia) (o (s.toks+1+1) λY=>s.toks+1)) (λq h z=>by obtain ⟨r,rfl,B⟩:=z;exact B) λY Y e=>e
end
def LX (v:Bool) (o:Str) (x y:Value) (p:Addr×Obj):List (Nat×LW):=[
 (0x1818199a18180bdd5bda8,⟨_,EO (v:=v) (c:=.call (.builtin "int.__ge__") ⟨[.int (vI x) (aR x),.int (vI y) (aR y)],[]⟩) (c':=.builtin "int.__ge__" ⟨[.int (vI x) (aR x),.int (vI y) (aR y)],[]⟩) (b:=decide (vI y<=vI x)) (by kernel_rfl) (by kernel_rfl) (by kernel_rfl)⟩),
 (0x18181d5b58180bdd5bda8,⟨_,EO (v:=v) (c:=.call (.builtin "int.__lt__") ⟨[.int (vI x) (aR x),.int (vI y) (aR y)],[]⟩) (c':=.builtin "int.__lt__" ⟨[.int (vI x) (aR x),.int (vI y) (aR y)],[]⟩) (b:=decide (vI x<vI y)) (by kernel_rfl) (by kernel_rfl) (by kernel_rfl)⟩),
 (0x18181d5a18180bdd5bda8,⟨_,EO (v:=v) (c:=.call (.builtin "int.__gt__") ⟨[.int (vI x) (aR x),.int (vI y) (aR y)],[]⟩) (c':=.builtin "int.__gt__" ⟨[.int (vI x) (aR x),.int (vI y) (aR y)],[]⟩) (b:=decide (vI y<vI x)) (by kernel_rfl) (by kernel_rfl) (by kernel_rfl)⟩),
 (0x18181c9998180bdd5bda8,⟨_,EO (v:=v) (c:=.call (.builtin "int.__eq__") ⟨[.int (vI x) (aR x),.int (vI y) (aR y)],[]⟩) (c':=.builtin "int.__eq__" ⟨[.int (vI x) (aR x),.int (vI y) (aR y)],[]⟩) (b:=vI x==vI y) (by kernel_rfl) (by kernel_rfl) (by kernel_rfl)⟩),
 (0x18181c9998180bdcdd5d0,⟨_,EO (v:=v) (c:=.call (.builtin "str.__eq__") ⟨[.str (vS x) (aR x),.str (vS y) (aR y)],[]⟩) (c':=.builtin "str.__eq__" ⟨[.str (vS x) (aR x),.str (vS y) (aR y)],[]⟩) (b:=(vS x).cps.toList==(vS y).cps.toList) (by kernel_rfl) (by kernel_rfl) (by kernel_rfl)⟩),
 (0x1818199bd8180bdcdd5d0,⟨_,EO (v:=v) (c:=.call (.builtin "str.__ne__") ⟨[.str (vS x) (aR x),.str (vS y) (aR y)],[]⟩) (c':=.builtin "str.__ne__" ⟨[.str (vS x) (aR x),.str (vS y) (aR y)],[]⟩) (b:=(vS x).cps.toList != (vS y).cps.toList) (by kernel_rfl) (by kernel_rfl) (by kernel_rfl)⟩),
 (0x181819595898180bdd5bda8,⟨_,Nj (c:=.call (.builtin "int.__add__") ⟨[.int (vI x) (aR x),.int (vI y) (aR y)],[]⟩) (c':=.builtin "int.__add__" ⟨[.int (vI x) (aR x),.int (vI y) (aR y)],[]⟩) (i:=vI x+vI y) (by kernel_rfl) (by kernel_rfl) (by kernel_rfl)⟩),
 (0x181818dd9d18180bdd5bda8,⟨_,Nj (c:=.call (.builtin "int.__sub__") ⟨[.int (vI x) (aR x),.int (vI y) (aR y)],[]⟩) (c':=.builtin "int.__sub__" ⟨[.int (vI x) (aR x),.int (vI y) (aR y)],[]⟩) (i:=vI x-vI y) (by kernel_rfl) (by kernel_rfl) (by kernel_rfl)⟩),
 (0x18181d1bda989d5bdc1918180bdcdd5d0,⟨_,vf (v:=v) (b:=fI (vS x) (vS y)) (args:=[.str (vS x) (aR x),.str (vS y) (aR y)]) λh=>call_gives PySem.F.slot_str_contains (typeIs_str _ _ _) PySem.F.entry_str_contains (PySem.F.args_str_contains_2 _ _) (gives_str_contains _ _ _ _) h⟩),
 (0x1a5d5a9e1d1d5cd89d5d0bdcdd5d0,⟨_,vf (v:=v) (b:=Txt.startswith (vS x) (vS y)) (args:=[.str (vS x) (aR x),.str (vS y) (aR y)]) λh=>SC.startswith h⟩),
 (0x1a5d5a9e1d195bd98bdcdd5d0,⟨_,vf (v:=v) (b:=Txt.endswith (vS x) (vS y)) (args:=[.str (vS x) (aR x),.str (vS y) (aR y)]) λh=>SC.endswith h⟩),
 (29202868,⟨_,CB (x:=vS x) (t:=aR x)⟩),
 (29202870,⟨_,y7 (x:=vS x) (t:=aR x)⟩),
 (29202871,⟨_,y8 (p:=p.1) (vs:=CA p.2) (n:=Pr p.2)⟩),
 (0x1c5a9cdd5d1b4bdcdd5d0,⟨_,tR (x:=vS x) (t:=aR x) (out:=o)⟩),
 (0x1c5a9cdd5d1ccbdcdd5d0,match y with| .none=>⟨_,tS (x:=vS x) (t:=aR x) (out:=o)⟩|_=>⟨_,rD (x:=vS x) (t:=aR x) (y:=vS y) (u:=aR y) (out:=o)⟩),
 (0x181819595898180bdcdd5d0,⟨_,y5 (x:=vS x) (t:=aR x) (y:=vS y) (u:=aR y) (out:=o)⟩),
 (0x18181b999d5a9d599a18180bdcdd5d0,⟨_,y6 (x:=vS x) (t:=aR x) (i:=vI y) (u:=aR y) (out:=o)⟩),
 (0x18181b999d5a9d599a18180bdcdd5d1,⟨_,vg (x:=vS x) (t:=aR x) (p:=p.1) (l:=Ni p.2 0) (r:=Ni p.2 1) (out:=o)⟩),
 (0x18181d1bda989d5bdc1918180bd99b5c5d9d5,⟨_,Fo (p:=p.1) (vs:=CA p.2) (x:=vS y) (t:=aR y) (v:=v)⟩)]
noncomputable def AH (n:Nat):List (Nat×LW)->Option LW
 |[]=>none
 |e::l=>cond (Nat.beq n e.1) (some e.2) (AH n l)
noncomputable def AI:Code->Nat
 | .call f _=>match f with
  | .builtin id=>4*PySem.code id
  |_=>0
 | .builtin id _=>4*PySem.code id+2
 |_=>0
noncomputable def AJ:Code->P5
 | .call _ a=>a.pos
 | .builtin _ a=>a.pos
 |_=>[]
noncomputable def sS.PX (X:sS) (c:Code) (a:Qa):mL:=
 {need:=X.need,Po:=X.Po,eqs:=[(Ob.code c a,Ob.code X.code X.fs)],Pq:=X.Pq,upd:=X.upd,nn:=X.nn,new:=X.new,Pm:=X.Pm,res:=X.res,gives:=X.gives}
def CC (a:List Str) (k:Nat) (c:Code) (b:Qa):Option mL:=
 (AH (cond b.isEmpty (AI c) (AI c+1)) (LX (Nat.beq k 2||Nat.beq k 4) (a.getD (cond (Nat.ble 48 k) (k-48) (k-16)) ⟨#[]⟩) ((AJ c).getD 0 .none) ((AJ c).getD 1 .none) (b.getD 0 (0,default)))).bind λX=>some (X.1.PX c b)
theorem sT {w:World} {F:aA} {kn:Qb} {C:P8} {H:P6} {b:List Str} {k:Nat} {c:Code} {d:Qa} {a:mL} (h:CC b k c d=some a):a.Ok aX w F c d kn C H:=by
 obtain ⟨X,_,h⟩:=Option.bind_eq_some_iff.mp h;cases h;intro e f _;obtain ⟨rfl,rfl⟩:=Ob.code.inj (e _ (.head _));exact X.2 f
def sS.Ok (w:World) (F:aA) (X:sS):Prop:=(∀x∈X.Pq,x)->(∀g∈X.wants,∀a,Le F a->g a)->∀C H,(∀l,X.below=some l->C=l)->(∀h,X.hand=some h->H=h)->Fe aX w F X.need X.Po C H X.code X.fs X.upd X.nn X.Pm X.new X.res X.gives
noncomputable def y9 (o:Option P8) (C:P8):List (Ob×Ob):=match o with
 |some l=>[(Ob.codes C,Ob.codes l)]
 |none=>[]
noncomputable def CD (o:Option P6) (H:P6):List (Ob×Ob):=match o with
 |some h=>[(Ob.hand H,Ob.hand h)]
 |none=>[]
def sS.PV (X:sS) (a:P1) (c:Code) (b:Qa) (kn:Qb) (C:P8) (H:P6):mL:=
 {need:=X.need,Po:=X.Po,eqs:=(Ob.code c b,Ob.code X.code X.fs)::(y9 X.below C++CD X.hand H++(a.zip X.wants).map (λp=>(Ob.pred (kn.getD p.1 λY=>True),Ob.pred p.2))),Pq:=(Nat.beq a.length X.wants.length=true)::X.Pq,
  upd:=X.upd,nn:=X.nn,new:=X.new,Pm:=X.Pm,res:=X.res,gives:=X.gives}
theorem sS.PT {w:World} {F:aA} {X:sS} (h:X.Ok w F) {a:P1} {c:Code} {d:Qa} {kn:Qb} {C:P8} {H:P6}:(X.PV a c d kn C H).Ok aX w F c d kn C H:=by
 intro b j n;have k:=b (Ob.code c d,Ob.code X.code X.fs) (List.mem_cons_self);dsimp only at k;obtain ⟨rfl,rfl⟩:=Ob.code.inj k;have e:a.length=X.wants.length:=Nat.eq_of_beq_eq_true (j _ (List.mem_cons_self));refine h (λx o=>j x (List.mem_cons_of_mem _ o)) (λg p=>?_) C H (λl e=>?_) λr s=>?_
 ·obtain ⟨i,m⟩:=List.getElem?_of_mem p
  have f:i<a.length:=by simp only [e];exact (List.getElem?_eq_some_iff.mp m).1
  have t:(a[i],g)∈a.zip X.wants:=List.mem_of_getElem? (i:=i) (by rw [List.getElem?_zip_eq_some];exact ⟨List.getElem?_eq_getElem f,m⟩)
  have:=Ob.pred.inj (b (Ob.pred (kn.getD a[i] λY=>True),Ob.pred g) (List.mem_cons_of_mem _ (List.mem_append_right _ (List.mem_map.mpr ⟨_,t,rfl⟩))));rw [<-this];intro u v;rw [List.getD_eq_getElem?_getD];cases q:kn[a[i]]? with
  |none=>trivial
  |some y=>exact n y (List.mem_of_getElem? q) u v
 ·exact Ob.codes.inj (b (Ob.codes C,Ob.codes l) (List.mem_cons_of_mem _ (List.mem_append_left _ (List.mem_append_left _ (by rw [e];exact List.mem_singleton.mpr rfl)))))
 ·exact Ob.hand.inj (b (Ob.hand H,Ob.hand r) (List.mem_cons_of_mem _ (List.mem_append_left _ (List.mem_append_right _ (by rw [s];exact List.mem_singleton.mpr rfl)))))
end
section
noncomputable def ai (a r:P1):Int:=((a.length-r.length:Nat):Int)
noncomputable def aj (d:Addr):Obj:={cls:=.ref 638,dict:=some d}
def ao (P:Params) (t:P2) (a:P1) (b:Int):Obj:={cls:=.type "dict",data:=.dict #[dE P "_StringIO__newline" (t 0) (.str "\n" (t 1)),dE P "_StringIO__buf" (t 2) (.str (mk a) (t 3)),dE P "_StringIO__pos" (t 4) (.int b (t 5))] 3}
abbrev EP:=Nat->Code->Qa->Qb->List Code->Option Value->Option mL
noncomputable def AK:Nat->Option (Addr×Obj):=λY=>none
theorem bL {F:aA}:∀j x,AK j=some x->F x.1=some x.2:=λY Y h=>by injection h
def oB (a:List Str):EP:=λk c b Y Y Y=>CC a k c b
theorem cG {w:World} {F:aA} {a:List Str}:bH w F (oB a):=λY Y Y Y Y Y Y h Y Y=>sT h
theorem nN {w:World}:∀id c a C x,Nh id c a C=some x->x.Ok aX w c a C:=λY Y Y Y Y h=>by injection h
structure a7 where
 O:EP
 X:EM:=Nh
 Py:Nat->Option (Addr×Obj):=AK
 B:P4->P8
 Hd:P6
 d:Nat:=50
 u:Nat:=500
 k:Nat
 nn:Nat:=0
 Pm:Nat
 H:Nat
 N:Nat
 cF:P4->Code
 oF:P4->P7
 uF:P4->P4->P2->P7
 nF:P4->P4->P2->P7:=λY Y Y=>[]
 rF:P4->P4->P2->hZ
 gF:P4->P4->P2->Qb:=λY Y Y=>[]
 idx:P1:=[]
 Px:P1:=[]
 Pz:P1:=[]
 Pn:P1
 facts:List Prop
def a7.lhs (w:World) (J:a7) (a:P4) (b:P2) (c:Nat->List Pos):Option uQ:=start (Fk w J.O J.Py J.X (J.B (ae J.k a)) J.d J.u J.Hd a b c) J.H (J.cF (ae J.k a)) (J.oF (ae J.k a)) J.N
def a7.rhs (w:World) (J:a7) (a:P4) (b:P2) (c:Nat->List Pos):=
 some (Cy (J.lhs w a b c),J.facts,J.rF (ae J.k a) (ae J.nn λj=>a ((J.idx++J.Px).getD j 0)) (ae J.Pm λj=>b (J.Pn.getD j 0)),
    (J.uF (ae J.k a) (ae J.nn λj=>a ((J.idx++J.Px).getD j 0)) (ae J.Pm λj=>b (J.Pn.getD j 0))).map nH,(J.nF (ae J.k a) (ae J.nn λj=>a ((J.idx++J.Px).getD j 0)) (ae J.Pm λj=>b (J.Pn.getD j 0))).map some,true,
    J.gF (ae J.k a) (ae J.nn λj=>a ((J.idx++J.Px).getD j 0)) (ae J.Pm λj=>b (J.Pn.getD j 0)))
def a7.Runs (w:World) (J:a7):Prop:=∀a b c,(J.lhs w a b c).map (pF J.k J.idx J.Px J.Pz)=J.rhs w a b c
theorem a7.Pu {w:World} {F:aA} (J:a7) (g:Le (top w.2) F) (h:bH w F J.O)
  (b:J.Runs w) (i:∀x∈J.facts,x) (a:P4) (k:∀id c e C x,J.X id c e C=some x->x.Ok aX w c e C:=by exact nN) (hfro:∀j x,J.Py j=some x->F x.1=some x.2:=by exact bL)
  (l:∀f,(J.oF f).length=J.k:=by exact λY=>rfl) (m:(J.idx++J.Px).length=J.nn:=by exact rfl) (n:dQ (J.idx++J.Px)=true:=by exact rfl):
  ah aX w F J.d J.u (J.B (ae J.k a)) J.Hd (J.cF (ae J.k a)) (ab a (J.oF (ae J.k a))) (J.uF (ae J.k a)) J.nn J.Pm (J.nF (ae J.k a)) (J.rF (ae J.k a)) (J.gF (ae J.k a)):=
 nM g h hfro k i l m n a λd o p Y=>b d o p
noncomputable def ER (j A:Nat) (a:P4):Nat->Addr:=λi=>match Nat.beq i j with
 |true=>A
 |false=>a i
set_option tactic.hygienic true in
theorem pL {j A:Nat} {a:P4} (h:a j=A):ER j A a=a:=by
 funext i;unfold ER;split
 ·rename_i e;rw [Nat.eq_of_beq_eq_true e,h]
 ·rfl
def a7.PB (j A:Nat) (w:World) (J:a7):Prop:=∀a b c,(J.lhs w (ER j A a) b c).map (pF J.k J.idx J.Px J.Pz)=J.rhs w (ER j A a) b c
theorem a7.PD {w:World} {F:aA} (j A:Nat) (J:a7) (i:Le (top w.2) F) (k:bH w F J.O) (b:∀j x,J.Py j=some x->F x.1=some x.2)
  (g:J.PB j A w) (l:∀x∈J.facts,x) (m:∀f,(J.oF f).length=J.k) (n:(J.idx++J.Px).length=J.nn) (o:dQ (J.idx++J.Px)=true) (a:P4) (p:j<J.k) (q:a j=A) (s:∀id c h C x,J.X id c h C=some x->x.Ok aX w c h C:=by exact nN):
  ah aX w F J.d J.u (J.B (ae J.k a)) J.Hd (J.cF (ae J.k a)) (ab a (J.oF (ae J.k a))) (J.uF (ae J.k a)) J.nn J.Pm (J.nF (ae J.k a)) (J.rF (ae J.k a)) (J.gF (ae J.k a)):=
 nM i k b s l m n o a λd t u e=>by
  have v:d j=A:=by
   have:=congrFun e j;unfold ae at this;have y:Nat.blt j J.k=true:=by simpa [Nat.blt_eq] using p
   rw [y] at this;exact this.trans q
  have r:=g d t u;rw [pL v] at r;exact r
theorem ah.Pu {w:World} {F:aA} {d u:Nat} {C:P8} {H:P6} {c:Code} {g:Qa} {b:P4->P2->P7} {i j:Nat} {e:P4->P2->P7} {f:P4->P2->hZ} {a:P4->P2->Qb}
  (h:ah aX w F d u C H c g b i j e f a):Fe aX w F d u C H c g b i j e f a:=
 λA s R k l m n o p q=>gU (h A s R k l m n o p q)
noncomputable def ax (d:Addr):Obj:={cls:=.ref 773,dict:=some d}
def On (a:P9) (t:Tok):Value:=match a with
 |some s=>.str (mk s) t
 |none=>.none
def ay (P:Params) (t:P2) (a c d:Addr) (W Q:P1) (e:P9) (b:P1):Obj:={cls:=.type "dict",data:=.dict #[
 dE P "instream" (t 0) (.ref a),dE P "infile" (t 2) .none,dE P "posix" (t 4) (.bool false),dE P "eof" (t 6) (.str (mk []) (t 7)),dE P "commenters" (t 8) (.str (mk []) (t 9)),dE P "wordchars" (t 10) (.str (mk W) (t 11)),
 dE P "whitespace" (t 12) (.str (mk [32]) (t 13)),dE P "whitespace_split" (t 14) (.bool false),dE P "quotes" (t 16) (.str (mk Q) (t 17)),dE P "escape" (t 18) (.str (mk [92]) (t 19)),dE P "escapedquotes" (t 20) (.str (mk [34]) (t 21)),
 dE P "state" (t 22) (On e (t 23)),dE P "pushback" (t 24) (.ref c),dE P "lineno" (t 26) (.int 1 (t 27)),dE P "debug" (t 28) (.int 0 (t 29)),dE P "token" (t 30) (.str (mk b) (t 31)),dE P "filestack" (t 32) (.ref d),dE P "source" (t 34) .none,dE P "_punctuation_chars" (t 36) (.str (mk []) (t 37))] 19}
noncomputable def Oo (v n:Value):Obj:={cls:=.type "collections.deque",data:=.fields #[v,n]}
def Pc:Obj:=Oo .none (.int 0 0)
noncomputable def bl (t:P2) (l:List (Nat×Tok)) (i:Nat):Tok:=match l with
 |[]=>t i
 |p::r=>match Nat.beq i p.1 with
  |true=>p.2
  |false=>bl t r i
def aE (o:Obj) (i:Nat):Tok:=match o.data with
 | .dict b _=>match b.toList.drop (i/2) with
  |e::_=>match Nat.beq (i%2) 0 with
   |true=>aR e.key
   |false=>aR e.val
  |[]=>0
 | .fields a=>aR (a.toList.getD i .none)
 | .seq a _=>aR (a.toList.getD i .none)
 |_=>0
noncomputable abbrev fA (a:Qa) (i:Nat):Addr:=match a.drop i with
 |p::_=>p.1
 |[]=>0
noncomputable def fO (a:Qa) (i:Nat):Obj:=match a.drop i with
 |p::_=>p.2
 |[]=>default
noncomputable def bD (c:Code) (i:Nat):Value:=match c with
 | .call _ a=>a.pos.getD i .none
 |_=>.none
def oT (a:List Str) (T:EP):EP:=λb c d kn C H=>match Nat.ble 100 b with
 |true=>T b c d kn C H
 |false=>CC a b c d
theorem bh {w:World} {F:aA} {b:List Str} {T:EP} (h:bH w F T):bH w F (oT b T):=by
 intro id c d kn C H a e f g;unfold oT at e;split at e
 ·exact h id c d kn C H a e f g
 ·exact sT e
abbrev aY:=Code->Qa->Qb->sS
noncomputable def aC (l:List (List Nat×aY)):EP:=λb c a kn C H=>match l.drop (b-100) with
 |p::_=>some ((p.2 c a kn).PV p.1 c a kn C H)
 |[]=>none
noncomputable def vh (w:World) (F:aA):List (List Nat×aY)->Prop
 |[]=>True
 |p::l=>(∀a,Le F a->∀c b kn,(p.2 c b kn).Ok w a)/\vh w F l
theorem vh.mem {w:World} {F:aA}:∀{l:List (List Nat×aY)},vh w F l->∀p∈l,∀a,Le F a->∀c b kn,(p.2 c b kn).Ok w a
 |q::l,h,p,hp=>by
  rcases List.mem_cons.mp hp with rfl|hp
  ·exact h.1
  ·exact vh.mem h.2 p hp
set_option tactic.hygienic true in
theorem aI {w:World} {F:aA} {l:List (List Nat×aY)} (h:vh w F l):bH w F (aC l):=by
 intro id c b kn C H a e d f;unfold aC at e;split at e
 ·rename_i p r g
  cases e;exact sS.PT (h.mem p (List.mem_of_mem_drop (by rw [g];exact List.mem_cons_self)) d f c b kn)
 ·injection e
noncomputable def bQ:Stmt->List Stmt
 | .FunctionDef _ _ b _ _ _ _ _ _ _=>b
 |_=>[]
noncomputable def za:Stmt->Scope
 | .FunctionDef _ _ _ _ _ _ a _ _ _=>a
 |_=>default
def jA (s:Stmt) (d:Env):Code:=match s with
 | .While b c a _=>.whileLoop b c a d
 |_=>Kg
noncomputable def nO (l:List Stmt) (i:Nat):Stmt:=l.getD i (.Pass ⟨0,0,0,0⟩)
def jB (d:Stmt) (qual:Str) (b c:Nat) (a:Addr):Env:={scope:=za d,locals:=a,globals:=3,cells:=[],qual,func:=some b,code:=.ref c,frame:=some a,builtins:=0}
noncomputable def ik (a:List DictEntry):Obj:={cls:=.type "frame",data:=.dict a.toArray a.length}
noncomputable def aO:Nat->Tok:=λY=>0
noncomputable def a6 (k:Int):Obj:={cls:=.type "collections.deque",data:=.fields #[.none,.int k 0]}
noncomputable def c5 (k:Int) (v:Value):Obj:={cls:=.type "collections.deque",data:=.fields #[.none,.int (k+1) 0,v]}
def vi (s:Stmt) (e:Value) (d:Env):Code:=match s with
 | .For a _ c b _=>.forLoop a e c b d
 |_=>Kg
noncomputable def aS (a:Array DictEntry) (n:Nat) (b:Array P6):Obj:={cls:=.type "frame",data:=.dict a n,slots:=b}
noncomputable def dI (b c:Nat) (a:Value):Array P6:=#[some (.ref b),some (.ref 3),none,some a,none,some (.ref c),some (.ref 0)]
noncomputable def nP:Array P6:=#[some (.ref 847),some (.ref 3),none,some .notImplemented,none,some (.ref 848),some (.ref 0),some (.ref 852),some (.ref 851)]
def Oq (d:Stmt) (b:Str) (c:Nat) (a:Addr):Code:=.func (bQ d) (jB d b c (c-1) a)
def Ot (a:Addr):Env:=jB (px 29 6) "shlex.read_token.<locals>." 741 740 a
def Ou (a:Addr):Env:=jB (px 29 5) "shlex.get_token.<locals>." 734 733 a
def Nk (a:Addr):Env:=jB (er 36) "_law_value.<locals>." 812 811 a
def Nl (a:Addr):Env:=jB (er 38) "_law_told.<locals>." 824 823 a
def Nm (a:Addr):Env:=jB (er 41) "_law_grows.<locals>." 843 842 a
def Ov (a:Addr):Env:={jB (er 42) "law.<locals>." 848 847 a with cells:=[(Str.ofString "own",852),(Str.ofString "script",851)]}
def Pd (a:Addr):Code:=.func (bQ (px 29 6)) (Ot a)
def Pe (a:Addr):Code:=.func (bQ (px 29 5)) (Ou a)
def Pf (a:Addr):Code:=.func (bQ (er 36)) (Nk a)
def kr (a:Addr):Code:=.func (bQ (er 38)) (Nl a)
def a9 (a:Addr):Code:=jA (nO (bQ (er 38)) 8) (Nl a)
def eT (a:Addr):Code:=.func (bQ (er 41)) (Nm a)
def bO (b:Value) (a:Addr):Code:=vi (nO (bQ (er 41)) 2) b (Nm a)
def d5 (a:Addr):Code:=.func (bQ (er 42)) (Ov a)
noncomputable def d6:Code:=.builtin "claim.caller" ⟨[],[]⟩
noncomputable def Fp (o:Obj) (a:Array P6):Obj:={o with slots:=a}
def kU (a:Addr):Code:=jA (nO (match nO (bQ (er 36)) 3 with| .Try b _ _ _ _=>b|_=>[]) 1) (Nk a)
end
theorem bG (l:P1):(mk l).length=l.length:=rfl
theorem rE {l m:P1} (h:mk l=mk m):l=m:=by
 have:=congrArg (λs:Str=>s.cps.toList) h;exact this
theorem bu (l m:P1):mk l++mk m=mk (l++m):=by
 show (⟨(⟨l⟩:Array Nat)++(⟨m⟩:Array Nat)⟩:Str)=⟨⟨l++m⟩⟩;congr 1;apply Array.ext';simp
theorem au {l:P1} (h:l.length<=1000):aD (mk l):=h
theorem vj (l m:P1):((mk l).cps.toList==(mk m).cps.toList)=(l==m):=rfl
theorem vk (l:P1) (c:Nat):fI (mk l) (mk [c])=decide (c∈l):=StrLaws.found_one (mk l) c
theorem pM {l:P1} {i j:Int} (a:0<=i) (b:i<=j) (c:j<=l.length):Txt.slice (mk l) (some i) (some j)=mk ((l.drop i.toNat).take (j-i).toNat):=by
 show StrLaws.sliceText (mk l) (some i) (some j)=_;rw [StrLaws.sliceText_plain (x:=mk l) ⟨a,b,c⟩];rfl
theorem iQ {l:P1} {j:Int} (a:0<=j) (b:j<=l.length):Txt.slice (mk l) none (some j)=mk (l.take j.toNat):=by
 show StrLaws.sliceText (mk l) none (some j)=_;rw [StrLaws.sliceText_to (x:=mk l) ⟨a,b⟩];simp [mk]
theorem pN {l:P1} {i:Int} (a:0<=i) (b:i<=l.length):Txt.slice (mk l) (some i) none=mk (l.drop i.toNat):=by
 show StrLaws.sliceText (mk l) (some i) none=_;rw [StrLaws.sliceText_from (x:=mk l) ⟨a,b⟩];have e:(((mk l).cps.toList.length:Int)-i).toNat=(l.drop i.toNat).length:=by
  rw [List.length_drop];show ((l.length:Int)-i).toNat=_;lia
 rw [e];show mk ((l.drop i.toNat).take (l.drop i.toNat).length)=_;rw [List.take_length]
section
open PySem.Sre (M Op Wait Kept Loop Outcome)
noncomputable def Go (N:Nat) (m:M) (Q:M->Prop):Prop:=∃n,n<=N/\Q (M.runFor n m)
theorem vm {N:Nat} {m:M} {Q:M->Prop} (h:Q m):Go N m Q:=⟨0,Nat.zero_le _,h⟩
theorem aH {N:Nat} {m a:M} {Q:M->Prop} (e:m.step=a) (b:m.outcome.isSome=false) (h:Go (N-1) a Q) (d:1<=N:=by omega):Go N m Q:=by
 obtain ⟨n,f,c⟩:=h;refine ⟨n+1,by omega,?_⟩
 show Q (if m.outcome.isSome then m else M.runFor n m.step)
 rw [b,e];exact c
def aJ (c:Array Nat) (l:P1) (a start pc pos handed:Nat) (b:Bool) (marks:Array (Option Nat)) (d e:Int) (loops:Array Loop) (inner:Option Nat) (frames:List Sre.Frame) (f:Nat) (g:Option Bool) (seen:Sre.Seen):M:=
 {code:=c,text:=⟨l⟩,lim:=l.length,start:=start,lastStart:=a,wholeText:=false,mustAdvance:=false,pc,pos,handed,outermost:=b,marks,lastmark:=d,lastindex:=e,loops,inner,frames,weight:=f,answer:=g,seen,outcome:=none}
noncomputable def bZ (w:Wait) (pc pos:Nat) (a:Bool) (count:Int) (kept:Sre.Kept) (loop:Nat) (began:Option Nat):Sre.Frame:={wait:=w,pc,pos,outermost:=a,count,kept,loop,began}
noncomputable def aP (a b:Int):Sre.Kept:={lastmark:=a,lastindex:=b,whole:=false,marks:=#[]}
noncomputable def gV (b c:Int) (a:Array (Option Nat)):Sre.Kept:={lastmark:=b,lastindex:=c,whole:=true,marks:=a.extract 0 (b+1).toNat}
noncomputable def lp (k:Int) (b:Option Nat):Array Loop:=#[{pc:=46,count:=k,began:=b,outer:=none}]
noncomputable def dy:Nat:=16777216
section
variable {l:P1} {p start m f u:Nat} {s:Bool} {e:Array (Option Nat)} {q t:Int} {g:Array Loop} {i:Option Nat} {d:List Sre.Frame} {o:Nat} {h:Sre.Seen} {Q:M->Prop} {c:Array Nat}
noncomputable def R1:Array Nat:=#[14,4,0,1,4294967295,6,0,24,9,0,4294967295,13,4,8,12,0,1,17,0,24,19,1,4294967295,13,14,21,9,0,671092736,0,0,0,0,0,0,8,12,0,1,17,1,1]
noncomputable def R2:Array Nat:=#[14,4,0,3,4294967295,6,0,24,9,0,4294967295,13,4,8,12,0,1,16,61,24,9,0,4294967295,13,4,8,12,0,1,16,34,17,0,24,12,0,4294967295,13,7,21,16,34,16,92,0,1,23,19,0,4294967295,16,92,2,24,12,0,4294967295,13,7,21,16,34,16,92,0,1,18,17,1,16,34,1]
noncomputable def R3:Array Nat:=#[14,4,0,1,4294967295,6,0,24,9,0,4294967295,13,4,8,12,0,1,16,61,24,9,0,4294967295,13,4,8,12,0,1,17,0,24,14,0,4294967295,13,9,21,8,12,16,59,16,44,0,1,17,1,1]
noncomputable def R4:Array Nat:=#[14,8,1,2,2,1,1,92,0,16,92,17,0,2,17,1,1]
noncomputable def R5:Array Nat:=#[14,4,0,0,4294967295,6,0,24,13,0,4294967295,13,8,16,61,8,12,16,59,0,1,1]
theorem Fq:M.step (aJ R1 l p start 5 m f s e q t g i d o none h)=if (m==0)=true then aJ R1 l p start 7 m f s e q t g i d o none ((h.add 6).add (43+0)) else aJ R1 l p start 5 m f s e q t g i d o (some false) ((h.add 6).add (43+0)):=by kernel_rfl
theorem LY:M.step (aJ R1 l p start 7 m f s e q t g none d o none h)=if ((0:Nat):Int)>(l.length:Int)-(m:Int) then aJ R1 l p start 7 m f s e q t g none d o (some false) (h.add 24) else match Sre.run R1 ⟨l⟩ 11 (min 4294967295 ((l.length:Int)-(m:Int)).toNat) m 0 ((h.add 24).add 13) with
 | .error a=>M.stick (aJ R1 l p start 7 m f s e q t g none d o none (h.add 24)) a
 | .ok r=>if r.1<0 then aJ R1 l p start 7 m f s e q t g none d o (some false) r.2 else if o+1+0>dy then M.stick (aJ R1 l p start 7 (m+r.1) f s e q t g none d o none r.2) "frames:memory" else aJ R1 l p start 17 (m+r.1) (m+r.1) s e q t g none (bZ .giveBack 7 (m+r.1) s (r.1:Nat) (aP q t) 0 none::d) (o+1+0) none r.2:=by kernel_rfl
theorem vn:M.step (aJ R1 l p start 17 m f s e q t g i d o none h)=aJ R1 l p start 19 m f s ((if (0:Int)<=q+1 then e else (List.range 0).foldl (λ(a:Array (Option Nat)) (j:Nat)=>if (j:Int)>q then a.setIfInBounds j none else a) e).setIfInBounds 0 (some m)) (max q 0) t g i d o none (h.add 17):=by kernel_rfl
theorem vo:M.step (aJ R1 l p start 19 m f s e q t g none d o none h)=if ((1:Nat):Int)>(l.length:Int)-(m:Int) then aJ R1 l p start 19 m f s e q t g none d o (some false) (h.add 24) else match Sre.run R1 ⟨l⟩ 23 (min 4294967295 ((l.length:Int)-(m:Int)).toNat) m 0 ((h.add 24).add 13) with
 | .error a=>M.stick (aJ R1 l p start 19 m f s e q t g none d o none (h.add 24)) a
 | .ok r=>if r.1<1 then aJ R1 l p start 19 m f s e q t g none d o (some false) r.2 else if o+1+0>dy then M.stick (aJ R1 l p start 19 (m+r.1) f s e q t g none d o none r.2) "frames:memory" else aJ R1 l p start 39 (m+r.1) (m+r.1) s e q t g none (bZ .giveBack 19 (m+r.1) s (r.1:Nat) (aP q t) 0 none::d) (o+1+0) none r.2:=by kernel_rfl
theorem Fs:M.step (aJ R1 l p start 39 m f s e q t g i d o none h)=aJ R1 l p start 41 m f s ((if (1:Int)<=q+1 then e else (List.range 1).foldl (λ(a:Array (Option Nat)) (j:Nat)=>if (j:Int)>q then a.setIfInBounds j none else a) e).setIfInBounds 1 (some m)) (max q 1) 1 g i d o none (h.add 17):=by kernel_rfl
theorem Ft:M.step (aJ R1 l p start 41 m f s e q t g i d o none h)=aJ R1 l p start 41 m m s e q t g i d o (some true) (h.add 1):=by cases s<;>kernel_rfl
theorem AL {n:Int} {k:Nat} {a:Bool} {b j:Int}:M.step (aJ R1 l p start u m f s e q t g i (bZ .giveBack 7 k a n (aP b j) 0 none::d) o (some false) h)=if n-1<((0:Nat):Int) then aJ R1 l p start 7 k f a e b j g i d (o-1) (some false) h else if o-1+1+0>dy then M.stick (aJ R1 l p start 7 (k-1) f a e b j g i d (o-1) none h) "frames:memory" else aJ R1 l p start 17 (k-1) (k-1) a e b j g i (bZ .giveBack 7 (k-1) a (n-1) (aP b j) 0 none::d) (o-1+1+0) none h:=by kernel_rfl
theorem Fu:M.step (aJ R2 l p start 5 m f s e q t g i d o none h)=if (m==0)=true then aJ R2 l p start 7 m f s e q t g i d o none ((h.add 6).add (43+0)) else aJ R2 l p start 5 m f s e q t g i d o (some false) ((h.add 6).add (43+0)):=by kernel_rfl
theorem LZ:M.step (aJ R2 l p start 7 m f s e q t g none d o none h)=if ((0:Nat):Int)>(l.length:Int)-(m:Int) then aJ R2 l p start 7 m f s e q t g none d o (some false) (h.add 24) else match Sre.run R2 ⟨l⟩ 11 (min 4294967295 ((l.length:Int)-(m:Int)).toNat) m 0 ((h.add 24).add 13) with
 | .error a=>M.stick (aJ R2 l p start 7 m f s e q t g none d o none (h.add 24)) a
 | .ok r=>if r.1<0 then aJ R2 l p start 7 m f s e q t g none d o (some false) r.2 else if o+1+0>dy then M.stick (aJ R2 l p start 7 (m+r.1) f s e q t g none d o none r.2) "frames:memory" else aJ R2 l p start 17 (m+r.1) (m+r.1) s e q t g none (bZ .giveBack 7 (m+r.1) s (r.1:Nat) (aP q t) 0 none::d) (o+1+0) none r.2:=by kernel_rfl
theorem vp:M.step (aJ R2 l p start 17 m f s e q t g i d o none h)=if l.length<=m then aJ R2 l p start 17 m f s e q t g i d o (some false) (h.add 16) else match (⟨l⟩:Array Nat).getD m 0==61 with
 |true=>aJ R2 l p start 19 (m+1) f s e q t g i d o none (h.add 16)
 |false=>aJ R2 l p start 17 m f s e q t g i d o (some false) (h.add 16):=by kernel_rfl
theorem Fv:M.step (aJ R2 l p start 19 m f s e q t g none d o none h)=if ((0:Nat):Int)>(l.length:Int)-(m:Int) then aJ R2 l p start 19 m f s e q t g none d o (some false) (h.add 24) else match Sre.run R2 ⟨l⟩ 23 (min 4294967295 ((l.length:Int)-(m:Int)).toNat) m 0 ((h.add 24).add 13) with
 | .error a=>M.stick (aJ R2 l p start 19 m f s e q t g none d o none (h.add 24)) a
 | .ok r=>if r.1<0 then aJ R2 l p start 19 m f s e q t g none d o (some false) r.2 else if o+1+0>dy then M.stick (aJ R2 l p start 19 (m+r.1) f s e q t g none d o none r.2) "frames:memory" else aJ R2 l p start 29 (m+r.1) (m+r.1) s e q t g none (bZ .giveBack 19 (m+r.1) s (r.1:Nat) (aP q t) 0 none::d) (o+1+0) none r.2:=by kernel_rfl
theorem vt:M.step (aJ R2 l p start 29 m f s e q t g i d o none h)=if l.length<=m then aJ R2 l p start 29 m f s e q t g i d o (some false) (h.add 16) else match (⟨l⟩:Array Nat).getD m 0==34 with
 |true=>aJ R2 l p start 31 (m+1) f s e q t g i d o none (h.add 16)
 |false=>aJ R2 l p start 29 m f s e q t g i d o (some false) (h.add 16):=by kernel_rfl
theorem Fw:M.step (aJ R2 l p start 31 m f s e q t g i d o none h)=aJ R2 l p start 33 m f s ((if (0:Int)<=q+1 then e else (List.range 0).foldl (λ(a:Array (Option Nat)) (j:Nat)=>if (j:Int)>q then a.setIfInBounds j none else a) e).setIfInBounds 0 (some m)) (max q 0) t g i d o none (h.add 17):=by kernel_rfl
theorem Fx:M.step (aJ R2 l p start 33 m f s e q t g none d o none h)=if ((0:Nat):Int)>(l.length:Int)-(m:Int) then aJ R2 l p start 33 m f s e q t g none d o (some false) (h.add 24) else match Sre.run R2 ⟨l⟩ 37 (min 4294967295 ((l.length:Int)-(m:Int)).toNat) m 0 ((h.add 24).add 13) with
 | .error a=>M.stick (aJ R2 l p start 33 m f s e q t g none d o none (h.add 24)) a
 | .ok r=>if r.1<0 then aJ R2 l p start 33 m f s e q t g none d o (some false) r.2 else if o+1+0>dy then M.stick (aJ R2 l p start 33 (m+r.1) f s e q t g none d o none r.2) "frames:memory" else aJ R2 l p start 46 (m+r.1) (m+r.1) s e q t g none (bZ .giveBack 33 (m+r.1) s (r.1:Nat) (aP q t) 0 none::d) (o+1+0) none r.2:=by kernel_rfl
theorem pO:M.step (aJ R2 l p start 50 m f s e q t g i d o none h)=if l.length<=m then aJ R2 l p start 50 m f s e q t g i d o (some false) (h.add 16) else match (⟨l⟩:Array Nat).getD m 0==92 with
 |true=>aJ R2 l p start 52 (m+1) f s e q t g i d o none (h.add 16)
 |false=>aJ R2 l p start 50 m f s e q t g i d o (some false) (h.add 16):=by kernel_rfl
theorem vu:M.step (aJ R2 l p start 52 m f s e q t g i d o none h)=if l.length<=m then aJ R2 l p start 52 m f s e q t g i d o (some false) (h.add 2) else match (⟨l⟩:Array Nat).getD m 0 != 10 with
 |true=>aJ R2 l p start 53 (m+1) f s e q t g i d o none (h.add 2)
 |false=>aJ R2 l p start 52 m f s e q t g i d o (some false) (h.add 2):=by kernel_rfl
theorem AM:M.step (aJ R2 l p start 53 m f s e q t g (some 0) d o none h)=if ((0:Nat):Int)>(l.length:Int)-(m:Int) then aJ R2 l p start 53 m f s e q t g (some 0) d o (some false) (h.add 24) else match Sre.run R2 ⟨l⟩ 57 (min 4294967295 ((l.length:Int)-(m:Int)).toNat) m 0 ((h.add 24).add 13) with
 | .error a=>M.stick (aJ R2 l p start 53 m f s e q t g (some 0) d o none (h.add 24)) a
 | .ok r=>if r.1<0 then aJ R2 l p start 53 m f s e q t g (some 0) d o (some false) r.2 else if o+1+(e.extract 0 (q+1).toNat).size>dy then M.stick (aJ R2 l p start 53 (m+r.1) f s e q t g (some 0) d o none r.2) "frames:memory" else aJ R2 l p start 66 (m+r.1) (m+r.1) s e q t g (some 0) (bZ .giveBack 53 (m+r.1) s (r.1:Nat) (gV q t e) 0 none::d) (o+1+(e.extract 0 (q+1).toNat).size) none r.2:=by kernel_rfl
theorem AN:M.step (aJ R2 l p start 67 m f s e q t g i d o none h)=aJ R2 l p start 69 m f s ((if (1:Int)<=q+1 then e else (List.range 1).foldl (λ(a:Array (Option Nat)) (j:Nat)=>if (j:Int)>q then a.setIfInBounds j none else a) e).setIfInBounds 1 (some m)) (max q 1) 1 g i d o none (h.add 17):=by kernel_rfl
theorem AO:M.step (aJ R2 l p start 69 m f s e q t g i d o none h)=if l.length<=m then aJ R2 l p start 69 m f s e q t g i d o (some false) (h.add 16) else match (⟨l⟩:Array Nat).getD m 0==34 with
 |true=>aJ R2 l p start 71 (m+1) f s e q t g i d o none (h.add 16)
 |false=>aJ R2 l p start 69 m f s e q t g i d o (some false) (h.add 16):=by kernel_rfl
theorem Fy:M.step (aJ R2 l p start 71 m f s e q t g i d o none h)=aJ R2 l p start 71 m m s e q t g i d o (some true) (h.add 1):=by cases s<;>kernel_rfl
theorem AP {n:Int} {k:Nat} {a:Bool} {b j:Int}:M.step (aJ R2 l p start u m f s e q t g i (bZ .giveBack 7 k a n (aP b j) 0 none::d) o (some false) h)=if n-1<((0:Nat):Int) then aJ R2 l p start 7 k f a e b j g i d (o-1) (some false) h else if o-1+1+0>dy then M.stick (aJ R2 l p start 7 (k-1) f a e b j g i d (o-1) none h) "frames:memory" else aJ R2 l p start 17 (k-1) (k-1) a e b j g i (bZ .giveBack 7 (k-1) a (n-1) (aP b j) 0 none::d) (o-1+1+0) none h:=by kernel_rfl
theorem vw {n:Int} {k:Nat} {a:Bool} {b j:Int}:M.step (aJ R2 l p start u m f s e q t g i (bZ .giveBack 19 k a n (aP b j) 0 none::d) o (some false) h)=if n-1<((0:Nat):Int) then aJ R2 l p start 19 k f a e b j g i d (o-1) (some false) h else if o-1+1+0>dy then M.stick (aJ R2 l p start 19 (k-1) f a e b j g i d (o-1) none h) "frames:memory" else aJ R2 l p start 29 (k-1) (k-1) a e b j g i (bZ .giveBack 19 (k-1) a (n-1) (aP b j) 0 none::d) (o-1+1+0) none h:=by kernel_rfl
theorem vx {n:Int} {k:Nat} {a:Bool} {b j:Int}:M.step (aJ R2 l p start u m f s e q t g i (bZ .giveBack 33 k a n (aP b j) 0 none::d) o (some false) h)=if n-1<((0:Nat):Int) then aJ R2 l p start 33 k f a e b j g i d (o-1) (some false) h else if o-1+1+0>dy then M.stick (aJ R2 l p start 33 (k-1) f a e b j g i d (o-1) none h) "frames:memory" else aJ R2 l p start 46 (k-1) (k-1) a e b j g i (bZ .giveBack 33 (k-1) a (n-1) (aP b j) 0 none::d) (o-1+1+0) none h:=by kernel_rfl
theorem Fz:M.step (aJ R3 l p start 5 m f s e q t g i d o none h)=if (m==0)=true then aJ R3 l p start 7 m f s e q t g i d o none ((h.add 6).add (43+0)) else aJ R3 l p start 5 m f s e q t g i d o (some false) ((h.add 6).add (43+0)):=by kernel_rfl
theorem L0:M.step (aJ R3 l p start 7 m f s e q t g none d o none h)=if ((0:Nat):Int)>(l.length:Int)-(m:Int) then aJ R3 l p start 7 m f s e q t g none d o (some false) (h.add 24) else match Sre.run R3 ⟨l⟩ 11 (min 4294967295 ((l.length:Int)-(m:Int)).toNat) m 0 ((h.add 24).add 13) with
 | .error a=>M.stick (aJ R3 l p start 7 m f s e q t g none d o none (h.add 24)) a
 | .ok r=>if r.1<0 then aJ R3 l p start 7 m f s e q t g none d o (some false) r.2 else if o+1+0>dy then M.stick (aJ R3 l p start 7 (m+r.1) f s e q t g none d o none r.2) "frames:memory" else aJ R3 l p start 17 (m+r.1) (m+r.1) s e q t g none (bZ .giveBack 7 (m+r.1) s (r.1:Nat) (aP q t) 0 none::d) (o+1+0) none r.2:=by kernel_rfl
theorem vy:M.step (aJ R3 l p start 17 m f s e q t g i d o none h)=if l.length<=m then aJ R3 l p start 17 m f s e q t g i d o (some false) (h.add 16) else match (⟨l⟩:Array Nat).getD m 0==61 with
 |true=>aJ R3 l p start 19 (m+1) f s e q t g i d o none (h.add 16)
 |false=>aJ R3 l p start 17 m f s e q t g i d o (some false) (h.add 16):=by kernel_rfl
theorem FA:M.step (aJ R3 l p start 19 m f s e q t g none d o none h)=if ((0:Nat):Int)>(l.length:Int)-(m:Int) then aJ R3 l p start 19 m f s e q t g none d o (some false) (h.add 24) else match Sre.run R3 ⟨l⟩ 23 (min 4294967295 ((l.length:Int)-(m:Int)).toNat) m 0 ((h.add 24).add 13) with
 | .error a=>M.stick (aJ R3 l p start 19 m f s e q t g none d o none (h.add 24)) a
 | .ok r=>if r.1<0 then aJ R3 l p start 19 m f s e q t g none d o (some false) r.2 else if o+1+0>dy then M.stick (aJ R3 l p start 19 (m+r.1) f s e q t g none d o none r.2) "frames:memory" else aJ R3 l p start 29 (m+r.1) (m+r.1) s e q t g none (bZ .giveBack 19 (m+r.1) s (r.1:Nat) (aP q t) 0 none::d) (o+1+0) none r.2:=by kernel_rfl
theorem FC:M.step (aJ R3 l p start 29 m f s e q t g i d o none h)=aJ R3 l p start 31 m f s ((if (0:Int)<=q+1 then e else (List.range 0).foldl (λ(a:Array (Option Nat)) (j:Nat)=>if (j:Int)>q then a.setIfInBounds j none else a) e).setIfInBounds 0 (some m)) (max q 0) t g i d o none (h.add 17):=by kernel_rfl
theorem FD:M.step (aJ R3 l p start 31 m f s e q t g none d o none h)=if ((0:Nat):Int)>(l.length:Int)-(m:Int) then aJ R3 l p start 31 m f s e q t g none d o (some false) (h.add 24) else match Sre.run R3 ⟨l⟩ 35 (min 4294967295 ((l.length:Int)-(m:Int)).toNat) m 0 ((h.add 24).add 13) with
 | .error a=>M.stick (aJ R3 l p start 31 m f s e q t g none d o none (h.add 24)) a
 | .ok r=>if r.1<0 then aJ R3 l p start 31 m f s e q t g none d o (some false) r.2 else if o+1+0>dy then M.stick (aJ R3 l p start 31 (m+r.1) f s e q t g none d o none r.2) "frames:memory" else aJ R3 l p start 46 (m+r.1) (m+r.1) s e q t g none (bZ .giveBack 31 (m+r.1) s (r.1:Nat) (aP q t) 0 none::d) (o+1+0) none r.2:=by kernel_rfl
theorem FE:M.step (aJ R3 l p start 46 m f s e q t g i d o none h)=aJ R3 l p start 48 m f s ((if (1:Int)<=q+1 then e else (List.range 1).foldl (λ(a:Array (Option Nat)) (j:Nat)=>if (j:Int)>q then a.setIfInBounds j none else a) e).setIfInBounds 1 (some m)) (max q 1) 1 g i d o none (h.add 17):=by kernel_rfl
theorem FF:M.step (aJ R3 l p start 48 m f s e q t g i d o none h)=aJ R3 l p start 48 m m s e q t g i d o (some true) (h.add 1):=by cases s<;>kernel_rfl
theorem AQ {n:Int} {k:Nat} {a:Bool} {b j:Int}:M.step (aJ R3 l p start u m f s e q t g i (bZ .giveBack 7 k a n (aP b j) 0 none::d) o (some false) h)=if n-1<((0:Nat):Int) then aJ R3 l p start 7 k f a e b j g i d (o-1) (some false) h else if o-1+1+0>dy then M.stick (aJ R3 l p start 7 (k-1) f a e b j g i d (o-1) none h) "frames:memory" else aJ R3 l p start 17 (k-1) (k-1) a e b j g i (bZ .giveBack 7 (k-1) a (n-1) (aP b j) 0 none::d) (o-1+1+0) none h:=by kernel_rfl
theorem zb:M.step (aJ R4 l p start 9 m f s e q t g i d o none h)=if l.length<=m then aJ R4 l p start 9 m f s e q t g i d o (some false) (h.add 16) else match (⟨l⟩:Array Nat).getD m 0==92 with
 |true=>aJ R4 l p start 11 (m+1) f s e q t g i d o none (h.add 16)
 |false=>aJ R4 l p start 9 m f s e q t g i d o (some false) (h.add 16):=by kernel_rfl
theorem FG:M.step (aJ R4 l p start 11 m f s e q t g i d o none h)=aJ R4 l p start 13 m f s ((if (0:Int)<=q+1 then e else (List.range 0).foldl (λ(a:Array (Option Nat)) (j:Nat)=>if (j:Int)>q then a.setIfInBounds j none else a) e).setIfInBounds 0 (some m)) (max q 0) t g i d o none (h.add 17):=by kernel_rfl
theorem FH:M.step (aJ R4 l p start 13 m f s e q t g i d o none h)=if l.length<=m then aJ R4 l p start 13 m f s e q t g i d o (some false) (h.add 2) else match (⟨l⟩:Array Nat).getD m 0 != 10 with
 |true=>aJ R4 l p start 14 (m+1) f s e q t g i d o none (h.add 2)
 |false=>aJ R4 l p start 13 m f s e q t g i d o (some false) (h.add 2):=by kernel_rfl
theorem FI:M.step (aJ R4 l p start 14 m f s e q t g i d o none h)=aJ R4 l p start 16 m f s ((if (1:Int)<=q+1 then e else (List.range 1).foldl (λ(a:Array (Option Nat)) (j:Nat)=>if (j:Int)>q then a.setIfInBounds j none else a) e).setIfInBounds 1 (some m)) (max q 1) 1 g i d o none (h.add 17):=by kernel_rfl
theorem FJ:M.step (aJ R4 l p start 16 m f s e q t g i d o none h)=aJ R4 l p start 16 m m s e q t g i d o (some true) (h.add 1):=by cases s<;>kernel_rfl
theorem CE:M.step (aJ R5 l p start 5 m f s e q t g i d o none h)=if (m==0)=true then aJ R5 l p start 7 m f s e q t g i d o none ((h.add 6).add (43+0)) else aJ R5 l p start 5 m f s e q t g i d o (some false) ((h.add 6).add (43+0)):=by kernel_rfl
theorem L1:M.step (aJ R5 l p start 7 m f s e q t g none d o none h)=if ((0:Nat):Int)>(l.length:Int)-(m:Int) then aJ R5 l p start 7 m f s e q t g none d o (some false) (h.add 24) else match Sre.run R5 ⟨l⟩ 11 (min 4294967295 ((l.length:Int)-(m:Int)).toNat) m 0 ((h.add 24).add 13) with
 | .error a=>M.stick (aJ R5 l p start 7 m f s e q t g none d o none (h.add 24)) a
 | .ok r=>if r.1<0 then aJ R5 l p start 7 m f s e q t g none d o (some false) r.2 else if o+1+0>dy then M.stick (aJ R5 l p start 7 (m+r.1) f s e q t g none d o none r.2) "frames:memory" else aJ R5 l p start 21 (m+r.1) (m+r.1) s e q t g none (bZ .giveBack 7 (m+r.1) s (r.1:Nat) (aP q t) 0 none::d) (o+1+0) none r.2:=by kernel_rfl
theorem FK:M.step (aJ R5 l p start 21 m f s e q t g i d o none h)=aJ R5 l p start 21 m m s e q t g i d o (some true) (h.add 1):=by cases s<;>kernel_rfl
theorem AR:M.step (aJ R2 l p start 46 m f s e q t #[] none d o none h)=if o+1+0>dy then M.stick (aJ R2 l p start 46 m f s e q t (lp (-1) none) (some 0) d o none (h.add 23)) "frames:memory" else aJ R2 l p start 66 m m s e q t (lp (-1) none) (some 0) (bZ .closeLoop 46 m s 0 (aP (-1) (-1)) 0 none::d) (o+1+0) none (h.add 23):=by kernel_rfl
theorem pP {k:Int} {b:Option Nat}:M.step (aJ R2 l p start 66 m f s e q t (lp k b) (some 0) d o none h)=if k+1<((0:Nat):Int) then M.round (aJ R2 l p start 67 m f s e q t (lp k b) (some 0) d o none (h.add 18)) .maxBelow 0 (k+1) false {} else if ((decide (k+1<((4294967295:Nat):Int))||(4294967295==Sre.maxRepeat))&&(b != some m))=true then if o+1+(e.extract 0 (q+1).toNat).size>dy then M.stick (aJ R2 l p start 67 m f s e q t (lp (k+1) (some m)) (some 0) d o none (h.add 18)) "frames:memory" else aJ R2 l p start 50 m m s e q t (lp (k+1) (some m)) (some 0) (bZ .maxMore 67 m s (k+1) (gV q t e) 0 b::d) (o+1+(e.extract 0 (q+1).toNat).size) none (h.add 18) else if o+1+0>dy then M.stick (aJ R2 l p start 67 m f s e q t (lp k b) none d o none (h.add 18)) "frames:memory" else aJ R2 l p start 67 m m s e q t (lp k b) none (bZ .maxTail 67 m s (k+1) (aP q t) 0 none::d) (o+1+0) none (h.add 18):=by kernel_rfl
theorem vz {n k:Int} {b x:Option Nat} {w:Nat} {r:Bool} {a v:Int} {j:Array (Option Nat)}:M.step (aJ R2 l p start u m f s e q t (lp k b) i (bZ .maxMore 67 w r n (gV a v j) 0 x::d) o (some false) h)=if o-(1+(j.extract 0 (a+1).toNat).size)+1+0>dy then M.stick (aJ R2 l p start 67 w f r (j.extract 0 (a+1).toNat++e.extract (j.extract 0 (a+1).toNat).size e.size) a v (lp (n-1) x) none d (o-(1+(j.extract 0 (a+1).toNat).size)) none h) "frames:memory" else aJ R2 l p start 67 w w r (j.extract 0 (a+1).toNat++e.extract (j.extract 0 (a+1).toNat).size e.size) a v (lp (n-1) x) none (bZ .maxTail 67 w r n (aP a v) 0 none::d) (o-(1+(j.extract 0 (a+1).toNat).size)+1+0) none h:=by kernel_rfl
theorem CF {n k:Int} {b w:Option Nat} {x:Nat} {a:Bool} {j v:Int} {r:Array (Option Nat)}:M.step (aJ R2 l p start u m f s e q t (lp k b) i (bZ .maxMore 67 x a n (gV j v r) 0 w::d) o (some true) h)=aJ R2 l p start 67 x f a e q t (lp k w) i d (o-(1+(r.extract 0 (j+1).toNat).size)) (some true) h:=by kernel_rfl
theorem AU {n:Int} {k:Nat} {a:Bool} {b j:Int} {y:Bool}:M.step (aJ R2 l p start u m f s e q t g i (bZ .maxTail 67 k a n (aP b j) 0 none::d) o (some y) h)=aJ R2 l p start 67 k f a e q t g (some 0) d (o-(1+0)) (some y) h:=by kernel_rfl
theorem AV {k:Int} {b:Option Nat} {j:Nat} {a y:Bool}:M.step (aJ R2 l p start u m f s e q t (lp k b) i (bZ .closeLoop 46 j a 0 (aP (-1) (-1)) 0 none::d) o (some y) h)=aJ R2 l p start 46 j f a e q t #[] none d (o-(1+0)) (some y) h:=by kernel_rfl
theorem vC {n k:Int} {b:Option Nat} {w:Nat} {r:Bool} {a v:Int} {j:Array (Option Nat)}:M.step (aJ R2 l p start u m f s e q t (lp k b) i (bZ .giveBack 53 w r n (gV a v j) 0 none::d) o (some false) h)=if n-1<((0:Nat):Int) then aJ R2 l p start 53 w f r (j.extract 0 (a+1).toNat++e.extract (j.extract 0 (a+1).toNat).size e.size) a v (lp k b) i d (o-(1+(j.extract 0 (a+1).toNat).size)) (some false) h else if o-(1+(j.extract 0 (a+1).toNat).size)+1+(j.extract 0 (a+1).toNat).size>dy then M.stick (aJ R2 l p start 53 (w-1) f r (j.extract 0 (a+1).toNat++e.extract (j.extract 0 (a+1).toNat).size e.size) a v (lp k b) i d (o-(1+(j.extract 0 (a+1).toNat).size)) none h) "frames:memory" else aJ R2 l p start 66 (w-1) (w-1) r (j.extract 0 (a+1).toNat++e.extract (j.extract 0 (a+1).toNat).size e.size) a v (lp k b) i (bZ .giveBack 53 (w-1) r (n-1) (gV a v j) 0 none::d) (o-(1+(j.extract 0 (a+1).toNat).size)+1+(j.extract 0 (a+1).toNat).size) none h:=by kernel_rfl
theorem mz {n:Int} {j:Nat} {a:Bool} {b:Nat} {k:Sre.Kept}:M.step (aJ c l p start u m f s e q t g i (bZ .giveBack b j a n k 0 none::d) o (some true) h)=aJ c l p start b j f a e q t g i d (o-(1+k.marks.size)) (some true) h:=by kernel_rfl
theorem vE {j:Nat} {a:Bool} {b:Nat}:M.step (aJ c l p start u m f s e q t g i (bZ .nextStart b j a 0 (aP (-1) (-1)) 0 none::d) o (some true) h)=aJ c l p start b j f a e q t g i d (o-(1+0)) (some true) h:=by kernel_rfl
theorem AW {y:Bool}:M.step (aJ c l p start u m f s e q t g i [] o (some y) h)={(aJ c l p start u m f s e q t g i [] o (some y) h) with outcome:=some (if y then .matched else .failed)}:=by kernel_rfl
theorem FL {a:Nat} {b:Bool}:M.step (aJ R1 l p start u m f s e q t g i [bZ .nextStart 5 a b 0 (aP (-1) (-1)) 0 none] o (some false) h)=if a<p then (if o-(1+0)+1+0>dy then M.stick (aJ R1 l p (a+1) 5 (a+1) f b e (-1) (-1) g i [] (o-(1+0)) none h) "frames:memory" else aJ R1 l p (a+1) 5 (a+1) (a+1) false e (-1) (-1) g i [bZ .nextStart 5 (a+1) false 0 (aP (-1) (-1)) 0 none] (o-(1+0)+1+0) none h) else aJ R1 l p start 5 a f b e q t g i [] (o-(1+0)) (some false) h:=by kernel_rfl
theorem FM {a:Nat} {b:Bool}:M.step (aJ R2 l p start u m f s e q t g i [bZ .nextStart 5 a b 0 (aP (-1) (-1)) 0 none] o (some false) h)=if a<p then (if o-(1+0)+1+0>dy then M.stick (aJ R2 l p (a+1) 5 (a+1) f b e (-1) (-1) g i [] (o-(1+0)) none h) "frames:memory" else aJ R2 l p (a+1) 5 (a+1) (a+1) false e (-1) (-1) g i [bZ .nextStart 5 (a+1) false 0 (aP (-1) (-1)) 0 none] (o-(1+0)+1+0) none h) else aJ R2 l p start 5 a f b e q t g i [] (o-(1+0)) (some false) h:=by kernel_rfl
theorem FN {a:Nat} {b:Bool}:M.step (aJ R3 l p start u m f s e q t g i [bZ .nextStart 5 a b 0 (aP (-1) (-1)) 0 none] o (some false) h)=if a<p then (if o-(1+0)+1+0>dy then M.stick (aJ R3 l p (a+1) 5 (a+1) f b e (-1) (-1) g i [] (o-(1+0)) none h) "frames:memory" else aJ R3 l p (a+1) 5 (a+1) (a+1) false e (-1) (-1) g i [bZ .nextStart 5 (a+1) false 0 (aP (-1) (-1)) 0 none] (o-(1+0)+1+0) none h) else aJ R3 l p start 5 a f b e q t g i [] (o-(1+0)) (some false) h:=by kernel_rfl
theorem vF {a:Nat} {b:Bool}:M.step (aJ R4 l p start u m f s e q t g i [bZ .nextStart 9 a b 0 (aP (-1) (-1)) 0 none] o (some false) h)=if a<p then (if o-(1+0)+1+0>dy then M.stick (aJ R4 l p (a+1) 9 (a+1) f b e (-1) (-1) g i [] (o-(1+0)) none h) "frames:memory" else aJ R4 l p (a+1) 9 (a+1) (a+1) false e (-1) (-1) g i [bZ .nextStart 9 (a+1) false 0 (aP (-1) (-1)) 0 none] (o-(1+0)+1+0) none h) else aJ R4 l p start 9 a f b e q t g i [] (o-(1+0)) (some false) h:=by kernel_rfl
theorem FP {a:Nat} {b:Bool}:M.step (aJ R5 l p start u m f s e q t g i [bZ .nextStart 5 a b 0 (aP (-1) (-1)) 0 none] o (some false) h)=if a<p then (if o-(1+0)+1+0>dy then M.stick (aJ R5 l p (a+1) 5 (a+1) f b e (-1) (-1) g i [] (o-(1+0)) none h) "frames:memory" else aJ R5 l p (a+1) 5 (a+1) (a+1) false e (-1) (-1) g i [bZ .nextStart 5 (a+1) false 0 (aP (-1) (-1)) 0 none] (o-(1+0)+1+0) none h) else aJ R5 l p start 5 a f b e q t g i [] (o-(1+0)) (some false) h:=by kernel_rfl
end
end
section
open PySem.Sre (M Op Wait Loop Outcome)
noncomputable def Al (c:Nat):Prop:=c=97\/c=98\/c=61\/c=59\/c=44\/c=32\/c=34\/c=92\/c=39
def bw (l:P1):Prop:=∀c∈l,Al c
noncomputable def aW (c:Nat):Bool:=c==32
noncomputable def aT (c:Nat):Bool:=!(c==61||c==32||c==59||c==44)
noncomputable def pQ (c:Nat):Bool:=!(c==34||c==92)
noncomputable def aG (c:Nat):Bool:=!(c==32||c==59||c==44)
noncomputable def pJ (c:Nat):Bool:=c==61||c==32||c==59
noncomputable def L2 (C:Array Nat) (i c:Nat) (s:Sre.Seen):Sre.Seen:=match Sre.accepts C i c s with
 | .ok r=>r.2
 | .error _=>s
def ks (C:Array Nat) (i:Nat) (p:Nat->Bool):Prop:=∀c,Al c->∀s,Sre.accepts C i c s= .ok (p c,L2 C i c s)
theorem FQ:ks R1 11 aW:=by rintro c (rfl|rfl|rfl|rfl|rfl|rfl|rfl|rfl|rfl) s<;>kernel_rfl
theorem vG:ks R1 23 aT:=by rintro c (rfl|rfl|rfl|rfl|rfl|rfl|rfl|rfl|rfl) s<;>kernel_rfl
theorem FR:ks R2 11 aW:=by rintro c (rfl|rfl|rfl|rfl|rfl|rfl|rfl|rfl|rfl) s<;>kernel_rfl
theorem FS:ks R2 23 aW:=by rintro c (rfl|rfl|rfl|rfl|rfl|rfl|rfl|rfl|rfl) s<;>kernel_rfl
theorem FT:ks R2 37 pQ:=by rintro c (rfl|rfl|rfl|rfl|rfl|rfl|rfl|rfl|rfl) s<;>kernel_rfl
theorem AX:ks R2 57 pQ:=by rintro c (rfl|rfl|rfl|rfl|rfl|rfl|rfl|rfl|rfl) s<;>kernel_rfl
theorem FU:ks R3 11 aW:=by rintro c (rfl|rfl|rfl|rfl|rfl|rfl|rfl|rfl|rfl) s<;>kernel_rfl
theorem FV:ks R3 23 aW:=by rintro c (rfl|rfl|rfl|rfl|rfl|rfl|rfl|rfl|rfl) s<;>kernel_rfl
theorem FW:ks R3 35 aG:=by rintro c (rfl|rfl|rfl|rfl|rfl|rfl|rfl|rfl|rfl) s<;>kernel_rfl
theorem FX:ks R5 11 pJ:=by rintro c (rfl|rfl|rfl|rfl|rfl|rfl|rfl|rfl|rfl) s<;>kernel_rfl
noncomputable def tw (p:Nat->Bool) (l:P1) (i:Nat):Nat:=((l.drop i).takeWhile p).length
theorem ba (l:P1) (i:Nat):(⟨l⟩:Array Nat).getD i 0=l.getD i 0:=by
 rw [Array.getD_eq_getD_getElem?,List.getD_eq_getElem?_getD];simp
theorem iR {p:Nat->Bool} {l:P1} {i:Nat} (h:i<l.length):tw p l i=if p (l.getD i 0) then tw p l (i+1)+1 else 0:=by
 unfold tw;rw [List.drop_eq_getElem_cons h,List.takeWhile_cons];have e:l.getD i 0=l[i]:=by rw [List.getD_eq_getElem?_getD,List.getElem?_eq_getElem h];rfl
 rw [e];split<;>simp
theorem kV {p:Nat->Bool} {l:P1} {i:Nat} (h:l.length<=i):tw p l i=0:=by
 unfold tw;rw [List.drop_eq_nil_of_le h];rfl
theorem dJ {p:Nat->Bool} {l:P1} {i:Nat}:tw p l i<=l.length-i:=by
 unfold tw;exact Nat.le_trans (List.takeWhile_sublist p).length_le (by simp)
theorem AY {l:P1} (a:bw l) {i:Nat} (h:i<l.length):Al (l.getD i 0):=by
 have e:l.getD i 0=l[i]:=by rw [List.getD_eq_getElem?_getD,List.getElem?_eq_getElem h];rfl
 simp only [e];exact a _ (List.getElem_mem h)
theorem vH {C:Array Nat} {i:Nat} {p:Nat->Bool} {l:P1} (c:ks C i p) (d:bw l):∀(n a f:Nat) (s:Sre.Seen),n=l.length-a->∃b,Sre.run C ⟨l⟩ i n a f s= .ok (f+tw p l a,b)
 |0,a,f,s,h=>⟨s,by rw [kV (by lia)];rfl⟩
 |n+1,a,f,s,h=>by
  have g:a<l.length:=by omega
  have e:=c _ (AY d g) s;rw [<-ba] at e;show ∃b,(Sre.accepts C i ((⟨l⟩:Array Nat).getD a 0) s>>=λx=>if x.1=true then Sre.run C ⟨l⟩ i n (a+1) (f+1) x.2 else pure (f,x.2))=_
  rw [e,iR g,<-ba];cases q:p ((⟨l⟩:Array Nat).getD a 0) with
  |true=>
   obtain ⟨b,j⟩:=vH c d n (a+1) (f+1) _ (by lia)
   refine ⟨b,?_⟩;show Sre.run C ⟨l⟩ i n (a+1) (f+1) _=_;rw [j];simp only [if_true];congr 2;lia
  |false=>exact ⟨_,rfl⟩
theorem dn {C:Array Nat} {i:Nat} {p:Nat->Bool} {l:P1} (c:ks C i p) (d:bw l) (f:l.length<=1000) {a:Nat} (g:a<=l.length) (s:Sre.Seen):
  ∃b,Sre.run C ⟨l⟩ i (min 4294967295 ((l.length:Int)-(a:Int)).toNat) a 0 s= .ok (tw p l a,b):=by
 have e:min 4294967295 ((l.length:Int)-(a:Int)).toNat=l.length-a:=by lia
 rw [e];obtain ⟨b,h⟩:=vH c d (l.length-a) a 0 s rfl;exact ⟨b,by rw [h,Nat.zero_add]⟩
noncomputable def Fl (m:M):Prop:=m.outcome=some .failed
def Mt (a h:Nat) (mk:Array (Option Nat)) (b c:Int) (m:M):Prop:=m.outcome=some .matched/\m.start=a/\m.handed=h/\m.marks=mk/\m.lastmark=b/\m.lastindex=c
section
variable {C:Array Nat} {l:P1} {o start i a s:Nat} {r:Bool} {b:Array (Option Nat)} {p q:Int} {c:Array Loop} {f:Option Nat} {j:List Sre.Frame} {n:Nat} {g:Sre.Seen} {Q:M->Prop}
theorem bx {N:Nat} {m d:M} (e:m.step=d) (k:m.outcome.isSome=false) (h:Go N d Q):Go (N+1) m Q:=aH e k h (Nat.le_add_left 1 N)
theorem Go.mono {N d:Nat} {m:M} (h:Go N m Q) (e:N<=d):Go d m Q:=h.imp λY h=>⟨Nat.le_trans h.1 e,h.2⟩
theorem pR {w m:Nat}:w+1+m-(1+m)=w:=by rw [Nat.add_assoc,Nat.add_sub_cancel]
theorem small {x k:Nat} (h:x<=k) (d:k+1<=dy:=by decide):¬x+1>dy:=Nat.not_lt.mpr (Nat.le_trans (Nat.succ_le_succ h) d)
theorem kX {N:Nat} (d:1<=N:=by lia):Go N (aJ C l o start s i a r b p q c f [] n (some false) g) Fl:=aH AW rfl (vm rfl)
theorem pS {N:Nat} (d:1<=N:=by lia):Go N (aJ C l o start s i a r b p q c f [] n (some true) g) (Mt start a b p q):=aH AW rfl (vm ⟨rfl,rfl,rfl,rfl,rfl,rfl⟩)
def NF (C:Array Nat) (P:Nat):Prop:=∀{l:P1} {o start i a s:Nat} {r:Bool} {b:Array (Option Nat)} {p q:Int} {c:Array Loop} {f:Option Nat} {n:Nat} {g:Sre.Seen} {e:Nat} {d:Bool},n<=1000000->o<=1000->
 Go 5000 (aJ C l o start s i a r b p q c f [bZ .nextStart P e d 0 (aP (-1) (-1)) 0 none] n (some false) g) Fl
theorem sU (u:∀{l:P1} {o start i a s:Nat} {r:Bool} {b:Array (Option Nat)} {p q:Int} {c:Array Loop} {f:Option Nat} {n:Nat} {g:Sre.Seen} {h:Nat} {e:Bool},M.step (aJ C l o start s i a r b p q c f [bZ .nextStart 5 h e 0 (aP (-1) (-1)) 0 none] n (some false) g)=if h<o then (if n-(1+0)+1+0>dy then M.stick (aJ C l o (h+1) 5 (h+1) a e b (-1) (-1) c f [] (n-(1+0)) none g) "frames:memory" else aJ C l o (h+1) 5 (h+1) (h+1) false b (-1) (-1) c f [bZ .nextStart 5 (h+1) false 0 (aP (-1) (-1)) 0 none] (n-(1+0)+1+0) none g) else aJ C l o start 5 h a e b p q c f [] (n-(1+0)) (some false) g)
  (v:∀{l:P1} {o start i a:Nat} {r:Bool} {b:Array (Option Nat)} {p q:Int} {c:Array Loop} {f:Option Nat} {j:List Sre.Frame} {n:Nat} {g:Sre.Seen},M.step (aJ C l o start 5 i a r b p q c f j n none g)=if (i==0)=true then aJ C l o start 7 i a r b p q c f j n none ((g.add 6).add (43+0)) else aJ C l o start 5 i a r b p q c f j n (some false) ((g.add 6).add (43+0))):NF C 5:=by
 have t:∀(d:Nat) {l:P1} {o start i a s:Nat} {r:Bool} {b:Array (Option Nat)} {p q:Int} {c:Array Loop} {f:Option Nat} {n:Nat} {g:Sre.Seen} {h:Nat} {e:Bool},o-h=d->n-1<=1000000->
   Go (2*d+2) (aJ C l o start s i a r b p q c f [bZ .nextStart 5 h e 0 (aP (-1) (-1)) 0 none] n (some false) g) Fl:=by
  intro d
  induction d with
  |zero=>
   intro l o start i a s r b p q c f n g h e m k;exact aH (u.trans (if_neg (Nat.not_lt.mpr (Nat.sub_eq_zero_iff_le.mp m)))) rfl (kX (Nat.le_refl 1)) (by decide)
  |succ d w=>
   intro l o start i a s r b p q c f n g h e m k;refine bx (N:=2*d+3) ((u.trans (if_pos (Nat.lt_of_sub_eq_succ m))).trans (if_neg (small k))) rfl ?_;refine bx (N:=2*d+2) (v.trans (if_neg (by simp))) rfl ?_
   exact w (congrArg Nat.pred m) k
 intro l o start i a s r b p q c f n g h e k x;exact (t _ rfl (Nat.le_trans (Nat.sub_le _ _) k)).mono (by lia)
theorem Ow:NF R1 5:=sU FL Fq
theorem Ox:NF R2 5:=sU FM Fu
theorem Oy:NF R3 5:=sU FN Fz
theorem Oz:NF R5 5:=sU FP CE
end
end
section
open PySem.Sre (M Op Wait Loop Outcome)
section
variable {l:P1} {o start m a v:Nat} {w:Bool} {b:Array (Option Nat)} {t x:Int} {z:Array Loop} {u:List Sre.Frame} {r:Nat} {c:Sre.Seen} {Q:M->Prop} {A:Nat} {n y:Bool} {f k:Int}
theorem nQ {p:Nat->Bool}:∀{l:P1} {i j:Nat},j<tw p l i->p (l.getD (i+j) 0)=true:=by
 intro l i j
 induction j generalizing i with
 |zero=>
  intro h;by_cases d:i<l.length
  ·rw [iR d] at h
   cases q:p (l.getD i 0) with
   |true=>first|exact q|rfl
   |false=>rw [q] at h;simp at h
  ·rw [kV (by lia)] at h;lia
 |succ j e=>
  intro h;by_cases d:i<l.length
  ·rw [iR d] at h
   cases q:p (l.getD i 0) with
   |true=>
    rw [q] at h;have:=e (i:=i+1) (by simpa using h)
    rw [show i+(j+1)=i+1+j by lia];exact this
   |false=>rw [q] at h;simp at h
  ·rw [kV (by lia)] at h;lia
theorem Kh {p:Nat->Bool} {l:P1}:∀{i:Nat},i+tw p l i<l.length->p (l.getD (i+tw p l i) 0)=false:=by
 have e:∀(d i:Nat),d=l.length-i->i+tw p l i<l.length->p (l.getD (i+tw p l i) 0)=false:=by
  intro d
  induction d with
  |zero=>intro i g h;rw [kV (by lia)] at h;lia
  |succ d j=>
   intro i g h;have s:i<l.length:=by lia
   rw [iR s] at h⊢;cases q:p (l.getD i 0) with
   |true=>
    rw [q] at h;simp only [if_true] at h⊢;have:=j (i+1) (by lia) (by lia)
    rw [show i+(tw p l (i+1)+1)=i+1+tw p l (i+1) by lia];exact this
   |false=>simp only [Bool.false_eq_true,if_false,Nat.add_zero];exact q
 intro i h;exact e _ i rfl h
theorem zc {p:Nat->Bool} {l:P1} {i:Nat} (h:p (l.getD i 0)=false) (d:i<l.length):tw p l i=0:=by
 rw [iR d,h];rfl
theorem nR (j:bw l) (s:l.length<=900):∀(e:Nat) {o start m a v:Nat} {w n:Bool} {b:Array (Option Nat)} {t x f k:Int} {r:Nat} {c:Sre.Seen},(∀i,i<e->l.getD i 0=32)->e<=l.length->r-1<=900->o<=1000->
  Go (3*e+5001) (aJ R1 l o start v m a w b t x #[] none [bZ .giveBack 7 e n (e:Nat) (aP f k) 0 none,bZ .nextStart 5 A y 0 (aP (-1) (-1)) 0 none] r (some false) c) Fl
 |0,o,start,m,a,v,w,n,b,t,x,f,k,r,c,h,q,g,d=>by
  exact bx (N:=5000) (AL.trans (if_pos (by decide))) rfl (Ow (Nat.le_trans g (by decide)) d)
 |p+1,o,start,m,a,v,w,n,b,t,x,f,k,r,c,h,q,g,d=>by
  refine bx (N:=3*p+5003) ((AL.trans (if_neg (by simp))).trans (if_neg (small g))) rfl ?_
  rw [Int.natCast_succ,Int.add_sub_cancel,Nat.add_sub_cancel];refine bx vn rfl ?_;refine bx vo rfl ?_;have B:tw aT l p=0:=zc (by rw [h p (by lia)];rfl) (by lia)
  rw [if_neg (by lia)]
  obtain ⟨E,C⟩:=dn vG j (by lia) (show p<=l.length by lia) (((c.add 17).add 24).add 13)
  rw [C,B];exact nR j s p (λi D=>h i (Nat.lt_succ_of_lt D)) (Nat.le_of_succ_le q) g d
noncomputable def gW (C:Array Nat) (l:P1) (g:Nat):M:=Sre.forSearch C ⟨l⟩ g 0 l.length false
theorem OA:gW R1 l 1=if (decide (0>l.length)||decide (l.length-0<1))=true then aJ R1 l 0 0 5 0 0 true (Array.replicate 2 none) (-1) (-1) #[] none [] 0 (some false) (({}:Sre.Seen).add 14) else (if 0+1+0>dy then M.stick (aJ R1 l l.length 0 5 0 0 true (Array.replicate 2 none) (-1) (-1) #[] none [] 0 none (({}:Sre.Seen).add 14)) "frames:memory" else aJ R1 l l.length 0 5 0 0 true (Array.replicate 2 none) (-1) (-1) #[] none [bZ .nextStart 5 0 true 0 (aP (-1) (-1)) 0 none] (0+1+0) none (({}:Sre.Seen).add 14)):=by kernel_rfl
theorem vJ (d:bw l) (C:l.length<=900):(tw aT l (tw aW l 0)=0->Go 100000 (gW R1 l 1) Fl)/\
  (tw aT l (tw aW l 0)≠0->Go 100000 (gW R1 l 1) (Mt 0 (tw aW l 0+tw aT l (tw aW l 0)) #[some (tw aW l 0),some (tw aW l 0+tw aT l (tw aW l 0))] 1 1)):=by
 rw [OA];by_cases D:l.length=0
 ·rw [if_pos (by simp [D])]
  refine ⟨λY=>kX,λh=>absurd (kV (by lia)) h⟩
 rw [if_neg (by simp only [Bool.or_eq_true,decide_eq_true_eq];lia),if_neg (by decide)]
 have st:∀Q,(∀s,Go 90000 (aJ R1 l l.length 0 17 (tw aW l 0) (tw aW l 0) true (Array.replicate 2 none) (-1) (-1) #[] none [bZ .giveBack 7 (tw aW l 0) true (tw aW l 0:Nat) (aP (-1) (-1)) 0 none,bZ .nextStart 5 0 true 0 (aP (-1) (-1)) 0 none] 2 none s) Q)->Go 100000 (aJ R1 l l.length 0 5 0 0 true (Array.replicate 2 none) (-1) (-1) #[] none [bZ .nextStart 5 0 true 0 (aP (-1) (-1)) 0 none] (0+1+0) none (({}:Sre.Seen).add 14)) Q:=λQ h=>by
  refine aH (Fq.trans (if_pos rfl)) rfl ?_;refine aH LY rfl ?_;rw [if_neg (by lia)]
  obtain ⟨B,g⟩:=dn FQ d (by lia) (show 0<=l.length by lia) (((((({}:Sre.Seen).add 14).add 6).add (43+0)).add 24).add 13)
  rw [g];show Go _ (if tw aW l 0<0 then _ else if 0+1+0+1+0>dy then _ else _) Q
  rw [if_neg (by lia),if_neg (by decide)]
  have e:0+tw aW l 0=tw aW l 0:=Nat.zero_add _;rw [e];exact (h B).mono (by lia)
 have E:=dJ (p:=aW) (l:=l) (i:=0);have j:∀i,i<tw aW l 0->l.getD i 0=32:=λi G=>by
  have:=nQ (p:=aW) (l:=l) (i:=0) G;rw [Nat.zero_add] at this;simpa [aW] using this
 refine ⟨λh=>st _ λs=>?_,λh=>st _ λs=>?_⟩
 ·refine aH vn rfl ?_
  refine aH vo rfl ?_;by_cases q:((1:Nat):Int)>(l.length:Int)-((tw aW l 0:Nat):Int)
  ·rw [if_pos q]
   exact (nR d C _ j (by lia) (by decide) (by lia)).mono (by lia)
  ·rw [if_neg q]
   obtain ⟨B,g⟩:=dn vG d (by lia) (show tw aW l 0<=l.length by lia) (((s.add 17).add 24).add 13)
   rw [g,h];exact (nR d C _ j (by lia) (by decide) (by lia)).mono (by lia)
 ·have H:=dJ (p:=aT) (l:=l) (i:=tw aW l 0)
  refine aH vn rfl ?_;refine aH vo rfl ?_;rw [if_neg (by lia)]
  obtain ⟨B,g⟩:=dn vG d (by lia) (show tw aW l 0<=l.length by omega) (((s.add 17).add 24).add 13)
  rw [g];show Go _ (if tw aT l (tw aW l 0)<1 then _ else if 2+1+0>dy then _ else _) _
  rw [if_neg (by lia),if_neg (by decide)]
  refine aH Fs rfl ?_;refine aH Ft rfl ?_;refine aH mz rfl ?_;refine aH mz rfl ?_;refine aH vE rfl ?_;exact pS
end
end
section
open PySem.Sre (M Op Wait Loop Outcome)
section
variable {l:P1} {t start o a x:Nat} {k:Bool} {f:Array (Option Nat)} {v y:Int} {z:Array Loop} {w:List Sre.Frame} {u:Nat} {b:Sre.Seen} {Q:M->Prop} {A:Nat} {q c:Bool} {m n:Int}
theorem vK (l:P1) (i:Nat):∀j,i<=j->j<i+tw aW l i->l.getD j 0=32:=λj d e=>by
 have:=nQ (p:=aW) (l:=l) (i:=i) (j:=j-i) (by lia)
 rw [show i+(j-i)=j by lia] at this
 simpa [aW] using this
theorem nS (r:l.length<=900):∀(e:Nat) {t start o a x:Nat} {k q:Bool} {f:Array (Option Nat)} {v y m n:Int} {u:Nat} {b:Sre.Seen},(∀i,i<e->l.getD i 0=32)->e<=l.length->u-1<=900->t<=1000->
  Go (3*e+5001) (aJ R3 l t start x o a k f v y #[] none [bZ .giveBack 7 e q (e:Nat) (aP m n) 0 none,bZ .nextStart 5 A c 0 (aP (-1) (-1)) 0 none] u (some false) b) Fl
 |0,t,start,o,a,x,k,q,f,v,y,m,n,u,b,h,j,g,d=>by
  exact bx (N:=5000) (AQ.trans (if_pos (by decide))) rfl (Oy (Nat.le_trans g (by decide)) d)
 |p+1,t,start,o,a,x,k,q,f,v,y,m,n,u,b,h,j,g,d=>by
  refine bx (N:=3*p+5003) ((AQ.trans (if_neg (by simp))).trans (if_neg (small g))) rfl ?_
  rw [Int.natCast_succ,Int.add_sub_cancel,Nat.add_sub_cancel];refine bx vy rfl ?_;rw [if_neg (by lia),ba,h p (by lia)]
  exact Go.mono (nS r p (λi s=>h i (Nat.lt_succ_of_lt s)) (Nat.le_of_succ_le j) (by exact g) d) (Nat.le_succ _)
theorem OB:gW R3 l 1=if (decide (0>l.length)||decide (l.length-0<1))=true then aJ R3 l 0 0 5 0 0 true (Array.replicate 2 none) (-1) (-1) #[] none [] 0 (some false) (({}:Sre.Seen).add 14) else (if 0+1+0>dy then M.stick (aJ R3 l l.length 0 5 0 0 true (Array.replicate 2 none) (-1) (-1) #[] none [] 0 none (({}:Sre.Seen).add 14)) "frames:memory" else aJ R3 l l.length 0 5 0 0 true (Array.replicate 2 none) (-1) (-1) #[] none [bZ .nextStart 5 0 true 0 (aP (-1) (-1)) 0 none] (0+1+0) none (({}:Sre.Seen).add 14)):=by kernel_rfl
def ku (l:P1):Prop:=tw aW l 0<l.length/\l.getD (tw aW l 0) 0=61
def vB (l:P1):Nat:=tw aW l 0+1+tw aW l (tw aW l 0+1)
theorem vL (j:bw l) (G:l.length<=900):(¬ku l->Go 100000 (gW R3 l 1) Fl)/\
  (ku l->Go 100000 (gW R3 l 1) (Mt 0 (vB l+tw aG l (vB l)) #[some (vB l),some (vB l+tw aG l (vB l))] 1 1)):=by
 rw [OB];by_cases O:l.length=0
 ·rw [if_pos (by simp only [Bool.or_eq_true,decide_eq_true_eq];lia)]
  exact ⟨λY=>kX,λh=>absurd h.1 (by lia)⟩
 rw [if_neg (by simp only [Bool.or_eq_true,decide_eq_true_eq];lia),if_neg (by decide)]
 have J:=dJ (p:=aW) (l:=l) (i:=0);have d:∀i,i<tw aW l 0->l.getD i 0=32:=λi T=>vK l 0 i (by lia) (by lia)
 have st:∀Q,(∀s,Go 90000 (aJ R3 l l.length 0 17 (tw aW l 0) (tw aW l 0) true (Array.replicate 2 none) (-1) (-1) #[] none [bZ .giveBack 7 (tw aW l 0) true (tw aW l 0:Nat) (aP (-1) (-1)) 0 none,bZ .nextStart 5 0 true 0 (aP (-1) (-1)) 0 none] 2 none s) Q)->Go 100000 (aJ R3 l l.length 0 5 0 0 true (Array.replicate 2 none) (-1) (-1) #[] none [bZ .nextStart 5 0 true 0 (aP (-1) (-1)) 0 none] (0+1+0) none (({}:Sre.Seen).add 14)) Q:=λQ h=>by
  refine aH (Fz.trans (if_pos rfl)) rfl ?_;refine aH L0 rfl ?_;rw [if_neg (by lia)]
  obtain ⟨g,B⟩:=dn FU j (by lia) (show 0<=l.length by lia) (((((({}:Sre.Seen).add 14).add 6).add (43+0)).add 24).add 13)
  rw [B];show Go _ (if tw aW l 0<0 then _ else if 0+1+0+1+0>dy then _ else _) Q
  rw [if_neg (by lia),if_neg (by decide)]
  have e:0+tw aW l 0=tw aW l 0:=Nat.zero_add _;rw [e];exact (h g).mono (by lia)
 refine ⟨λh=>st _ λs=>?_,λh=>st _ λs=>?_⟩
 ·refine aH vy rfl ?_
  by_cases C:l.length<=tw aW l 0
  ·rw [if_pos C]
   exact (nS G _ d (by lia) (by decide) (by lia)).mono (by lia)
  ·rw [if_neg C,ba]
   have:(l.getD (tw aW l 0) 0==61)=false:=beq_false_of_ne λe=>h ⟨by lia,e⟩
   rw [this];exact (nS G _ d (by lia) (by decide) (by lia)).mono (by lia)
 ·have C:=h.1
  have L:=h.2;have H:=dJ (p:=aW) (l:=l) (i:=tw aW l 0+1);have I:=dJ (p:=aG) (l:=l) (i:=vB l);have D:vB l<=l.length:=by unfold vB;lia
  refine aH vy rfl ?_;rw [if_neg (by lia),ba,L]
  refine aH FA rfl ?_;rw [if_neg (by lia)]
  obtain ⟨g,B⟩:=dn FV j (by lia) (show tw aW l 0+1<=l.length by lia) (((s.add 16).add 24).add 13)
  rw [B];show Go _ (if tw aW l (tw aW l 0+1)<0 then _ else if 2+1+0>dy then _ else _) _
  rw [if_neg (by lia),if_neg (by decide)]
  refine aH FC rfl ?_;refine aH FD rfl ?_;show Go _ (if ((0:Nat):Int)>(l.length:Int)-(vB l:Nat) then _ else _) _
  rw [if_neg (by lia)]
  obtain ⟨U,E⟩:=dn FW j (by lia) D (((g.add 17).add 24).add 13)
  show Go _ (match Sre.run R3 ⟨l⟩ 35 (min 4294967295 ((l.length:Int)-(vB l:Nat)).toNat) (vB l) 0 (((g.add 17).add 24).add 13) with| .error N=>_| .ok r=>_) _
  rw [E];show Go _ (if tw aG l (vB l)<0 then _ else if 3+1+0>dy then _ else _) _
  rw [if_neg (by lia),if_neg (by decide)]
  refine aH FE rfl ?_;refine aH FF rfl ?_;refine aH mz rfl ?_;refine aH mz rfl ?_;refine aH mz rfl ?_;refine aH vE rfl ?_;exact pS
noncomputable def tT (C:Array Nat) (l:P1) (g i:Nat):M:=Sre.forSearch C ⟨l⟩ g i l.length false
theorem Nn {i:Nat}:tT R5 l 0 i=if (decide (i>l.length)||decide (l.length-i<0))=true then aJ R5 l 0 i 5 i i true (Array.replicate 0 none) (-1) (-1) #[] none [] 0 (some false) (({}:Sre.Seen).add 14) else (if 0+1+0>dy then M.stick (aJ R5 l l.length i 5 i i true (Array.replicate 0 none) (-1) (-1) #[] none [] 0 none (({}:Sre.Seen).add 14)) "frames:memory" else aJ R5 l l.length i 5 i i true (Array.replicate 0 none) (-1) (-1) #[] none [bZ .nextStart 5 i true 0 (aP (-1) (-1)) 0 none] (0+1+0) none (({}:Sre.Seen).add 14)):=by kernel_rfl
theorem CG (d:bw l) (h:l.length<=900):Go 100000 (tT R5 l 0 0) (Mt 0 (tw pJ l 0) #[] (-1) (-1)):=by
 rw [Nn,if_neg (by simp only [Bool.or_eq_true,decide_eq_true_eq];lia),if_neg (by decide)]
 refine aH (CE.trans (if_pos rfl)) rfl ?_;refine aH L1 rfl ?_;rw [if_neg (by lia)]
 obtain ⟨i,g⟩:=dn FX d (by lia) (show 0<=l.length by lia) (((((({}:Sre.Seen).add 14).add 6).add (43+0)).add 24).add 13)
 rw [g];show Go _ (if tw pJ l 0<0 then _ else if 0+1+0+1+0>dy then _ else _) _
 rw [if_neg (by lia),if_neg (by decide)]
 have e:0+tw pJ l 0=tw pJ l 0:=Nat.zero_add _;rw [e];refine aH FK rfl ?_;refine aH mz rfl ?_;refine aH vE rfl ?_;exact pS
theorem zd {i:Nat} (d:l.length<=900) (e:0<i) (g:i<=l.length):Go 100000 (tT R5 l 0 i) Fl:=by
 rw [Nn,if_neg (by simp only [Bool.or_eq_true,decide_eq_true_eq];lia),if_neg (by decide)]
 refine aH (CE.trans (if_neg (by simp;lia))) rfl ?_
 exact (Oz (by decide) (by lia)).mono (by decide)
theorem Np {i:Nat}:tT R4 l 1 i=if (decide (i>l.length)||decide (l.length-i<2))=true then aJ R4 l 0 i 9 i i true (Array.replicate 2 none) (-1) (-1) #[] none [] 0 (some false) (({}:Sre.Seen).add 14) else (if 0+1+0>dy then M.stick (aJ R4 l l.length i 9 i i true (Array.replicate 2 none) (-1) (-1) #[] none [] 0 none (({}:Sre.Seen).add 14)) "frames:memory" else aJ R4 l l.length i 9 i i true (Array.replicate 2 none) (-1) (-1) #[] none [bZ .nextStart 9 i true 0 (aP (-1) (-1)) 0 none] (0+1+0) none (({}:Sre.Seen).add 14)):=by kernel_rfl
theorem AZ:∀(d:Nat) {i:Nat} {k c:Bool} {a:Nat} {b:Sre.Seen},l.length-i=d->(∀j,i<=j->j<l.length->l.getD j 0≠92)->Go (2*d+3) (aJ R4 l l.length i 9 i a k (Array.replicate 2 none) (-1) (-1) #[] none [bZ .nextStart 9 i c 0 (aP (-1) (-1)) 0 none] 1 none b) Fl
 |0,i,k,c,a,b,e,h=>by
  have e:=Nat.sub_eq_zero_iff_le.mp e;refine bx (zb.trans (if_pos e)) rfl ?_;exact bx (vF.trans (if_neg (Nat.not_lt.mpr e))) rfl (kX (Nat.le_refl 1))
 |d+1,i,k,c,a,b,e,h=>by
  have g:=Nat.lt_of_sub_eq_succ e;refine bx (N:=2*d+4) zb rfl ?_;rw [if_neg (Nat.not_le.mpr g),ba,beq_false_of_ne (h i (Nat.le_refl _) g)];refine bx ((vF.trans (if_pos g)).trans (if_neg (by decide))) rfl ?_
  exact AZ d (congrArg Nat.pred e) (λj p r=>h j (Nat.le_of_succ_le p) r)
theorem vM {s:Nat} (r:s+1<l.length) (e:l.getD s 0=92) (g:l.getD (s+1) 0≠10):∀(d:Nat) {i:Nat} {k c:Bool} {a:Nat} {b:Sre.Seen},i+d=s->(∀j,i<=j->j<s->l.getD j 0≠92)->Go (2*d+7) (aJ R4 l l.length i 9 i a k (Array.replicate 2 none) (-1) (-1) #[] none [bZ .nextStart 9 i c 0 (aP (-1) (-1)) 0 none] 1 none b) (Mt s (s+2) #[some (s+1),some (s+2)] 1 1)
 |0,i,k,c,a,b,p,h=>by
  obtain rfl:i=s:=p;refine bx zb rfl ?_;rw [if_neg (by lia),ba,e]
  refine bx FG rfl ?_;refine bx FH rfl ?_;rw [if_neg (by lia),ba,bne_iff_ne.mpr g]
  refine bx FI rfl ?_;refine bx FJ rfl ?_;refine bx vE rfl ?_;exact pS
 |d+1,i,k,c,a,b,p,h=>by
  refine bx (N:=2*d+8) zb rfl ?_;rw [if_neg (by lia),ba,beq_false_of_ne (h i (Nat.le_refl _) (by lia))]
  refine bx ((vF.trans (if_pos (by lia))).trans (if_neg (by decide))) rfl ?_
  exact vM r e g d (by lia) (λj B C=>h j (Nat.le_of_succ_le B) C)
theorem ze {i:Nat} (d:l.length<=900) (e:i<=l.length) (h:∀j,i<=j->j<l.length->l.getD j 0≠92):Go 100000 (tT R4 l 1 i) Fl:=by
 rw [Np];split
 ·exact kX
 ·rw [if_neg (by decide)]
  exact (AZ _ rfl h).mono (by lia)
theorem CH {i s:Nat} (r:l.length<=900) (g:i<=s) (p:s+1<l.length) (d:l.getD s 0=92) (e:l.getD (s+1) 0≠10) (h:∀j,i<=j->j<s->l.getD j 0≠92):Go 100000 (tT R4 l 1 i) (Mt s (s+2) #[some (s+1),some (s+2)] 1 1):=by
 rw [Np,if_neg (by simp only [Bool.or_eq_true,decide_eq_true_eq];lia),if_neg (by decide)]
 exact (vM p d e _ (Nat.add_sub_cancel' g) h).mono (by lia)
end
end
section
open PySem.Sre (M Op Wait Loop Outcome)
inductive QE (l:P1):Nat->Option Nat->Prop
 |close {p:Nat}:p<l.length->l.getD p 0=34->QE l p (some p)
 |eof {p:Nat}:l.length<=p->QE l p none
 |PP {p:Nat}:p<l.length->l.getD p 0=92->l.length<=p+1->QE l p none
 |PQ {p:Nat} {r:Option Nat}:p+1<l.length->l.getD p 0=92->QE l (p+2+tw pQ l (p+2)) r->QE l p r
noncomputable def WW:Nat:=1000000
section
variable {l:P1} {o start A a C:Nat} {v:Bool} {E:Array (Option Nat)} {f t:Int} {D:Array Loop} {F:List Sre.Frame} {B:Nat} {c:Sre.Seen} {Q:M->Prop} {H:Nat} {u G:Bool} {m z:Int}
theorem Ki {x y:Nat} (k:Nat) (h:x+y<=WW) (b:k<=10:=by decide):¬x+k>dy:=by
 unfold WW at h;unfold dy;lia
def FY (l:P1) (o:Nat) (F:List Sre.Frame) (κ:Nat):Prop:=∀{C A a:Nat} {v:Bool} {mk:Array (Option Nat)} {f t k:Int} {b d:Option Nat} {B:Nat} {c:Sre.Seen},
 Go κ (aJ R2 l o 0 C A a v mk f t (lp k b) d F B (some true) c) (Mt 0 a mk f t)
theorem CI {n:Int} {d b:Nat} {u:Bool} {e:Sre.Kept} {κ:Nat} (h:FY l o F κ):FY l o (bZ .giveBack b d u n e 0 none::F) (κ+1):=bx mz rfl h
theorem CJ {n:Int} {d:Nat} {u:Bool} {m z:Int} {b:Array (Option Nat)} {e:Option Nat} {κ:Nat} (h:FY l o F κ):FY l o (bZ .maxMore 67 d u n (gV m z b) 0 e::F) (κ+1):=bx CF rfl h
theorem FZ {p:Nat} {k:Int} {b:Option Nat} (h:b≠some p):((decide (k+1<((4294967295:Nat):Int))||(4294967295==Sre.maxRepeat))&&(b != some p))=true:=by
 rw [show (b != some p)=true by simpa using h];simp [Sre.maxRepeat]
theorem A0 (b:bw l) {p:Nat} (h:p<l.length):(l.getD p 0 != 10)=true:=by
 rcases AY b h with q|q|q|q|q|q|q|q|q<;>rw [q]<;>rfl
theorem A1 {p d:Nat} (h:p+1<l.length) (e:l.length<=p+d):∃b,d=b+(2+tw pQ l (p+2))/\l.length<=p+2+tw pQ l (p+2)+b:=by
 have:=dJ (p:=pQ) (l:=l) (i:=p+2);exact ⟨d-(2+tw pQ l (p+2)),by lia,by lia⟩
theorem vN (J:bw l) (T:l.length<=900) {p e:Nat} (h:QE l p (some e)):∀{F:List Sre.Frame} {a g:Nat} {w:Option Nat} {t k:Int} {b:Option Nat} {B:Nat} {c:Sre.Seen} {κ d:Nat},FY l o F κ->(-1:Int)<=k->b≠some p->l.length<=p+d->B+6*d<=WW->
  Go (κ+20*d+20) (aJ R2 l o 0 66 p a true #[some g,w] 0 t (lp k b) (some 0) F B none c) (Mt 0 (e+1) #[some g,some e] 1 1):=by
 generalize q:some e=r at h
 induction h with
 |eof=>cases q
 |PP=>cases q
 | @close p i s=>
  cases q;intro F a g w t k b B c κ d x N j L n;refine bx pP rfl ?_;rw [if_neg (by lia),if_pos (FZ j),if_neg (by exact Ki 2 n)]
  refine bx pO rfl ?_;rw [if_neg (Nat.not_le.mpr i),ba,show (l.getD e 0==92)=false by rw [s];rfl]
  refine bx vz rfl ?_;rw [if_neg (by exact Ki 1 n)]
  refine bx AN rfl ?_;refine bx AO rfl ?_;rw [if_neg (Nat.not_le.mpr i),ba,s];refine bx Fy rfl ?_;refine bx AU rfl ?_;exact x.mono (by lia)
 | @PQ p r i s U O=>
  intro F a g w t k b B c κ d x N j L n;obtain ⟨V,rfl,y⟩:=A1 i L;refine bx pP rfl ?_;rw [if_neg (by lia),if_pos (FZ j),if_neg (by exact Ki 2 n)]
  refine bx pO rfl ?_;rw [if_neg (Nat.not_le.mpr (Nat.lt_of_succ_lt i)),ba,s];refine bx vu rfl ?_;rw [if_neg (Nat.not_le.mpr i),ba,A0 J i];refine bx AM rfl ?_;rw [if_neg (by lia)]
  obtain ⟨Y,I⟩:=dn AX J (by lia) (show p+1+1<=l.length from i) (((((c.add 18).add 16).add 2).add 24).add 13)
  rw [I];show Go _ (if tw pQ l (p+1+1)<0 then _ else if B+1+1+1+1>dy then _ else _) _
  rw [if_neg (Nat.not_lt_zero _),if_neg (by exact Ki 4 n)]
  refine (O q (CI (CJ x)) (by lia) (by simp;lia) y ?_).mono (by lia)
  show B+4+_<=_;lia
def eu (l:P1) (w:Nat) (F:List Sre.Frame) (κ:Nat):Prop:=∀{o start C A a:Nat} {v:Bool} {mk:Array (Option Nat)} {f t k:Int} {b:Option Nat} {c:Sre.Seen},o<=1000->mk.size<=2->0<=f->(-1:Int)<=k->
 Go κ (aJ R2 l o start C A a v mk f t (lp k b) (some 0) F w (some false) c) Fl
noncomputable def vO (l:P1) (p:Nat):Prop:=l.length<=p\/l.getD p 0≠34
theorem fT {mk:Array (Option Nat)} {n:Nat} (h:mk.size<=2):(mk.extract 0 n).size<=2:=by
 rw [Array.size_extract];lia
theorem nT {mk b:Array (Option Nat)} {n:Nat} (h:mk.size<=2) (d:b.size<=2):(b.extract 0 n++mk.extract (b.extract 0 n).size mk.size).size<=2:=by
 have:=fT (n:=n) d;rw [Array.size_append,Array.size_extract (xs:=mk)];lia
variable {w κ:Nat}
theorem gH {p:Nat} (hs:vO l p) (g:eu l w F κ) {o start a:Nat} {v u:Bool} {mk:Array (Option Nat)} {f t n k:Int} {b:Option Nat} {c:Sre.Seen} {m z:Int} (e:o<=1000) (h:mk.size<=2) (j:0<=f) (i:(-1:Int)<=k):
  Go (κ+3) (aJ R2 l o start 67 p a v mk f t (lp k b) none (bZ .maxTail 67 p u n (aP m z) 0 none::F) (w+1+0) none c) Fl:=by
 refine bx AN rfl ?_;refine bx AO rfl ?_;rw [if_pos (show (1:Int)<=f+1 by lia)]
 have d:∀s,Go (κ+1) (aJ R2 l o start 69 p a v (mk.setIfInBounds 1 (some p)) (max f 1) 1 (lp k b) none (bZ .maxTail 67 p u n (aP m z) 0 none::F) (w+1+0) (some false) s) Fl:=λs=>by
  refine bx AU rfl ?_;rw [pR];exact g e (by simpa using h) (by lia) i
 rcases hs with hs|hs
 ·rw [if_pos hs];exact d _
 ·split
  ·exact d _
  ·rw [ba,beq_false_of_ne hs];exact d _
theorem kY {p:Nat} (i:vO l p) (j:eu l w F κ) (s:w+100<=dy) {u:Bool} {n m z:Int} {d:Array (Option Nat)} {q:Option Nat} (x:0<=n) (e:0<=m) (g:d.size<=2):eu l (w+1+(d.extract 0 (m+1).toNat).size) (bZ .maxMore 67 p u n (gV m z d) 0 q::F) (κ+4):=by
 intro o start C A a v mk f t k b c h r y I;refine bx vz rfl ?_;rw [pR,if_neg (by lia)]
 exact gH i j h (nT r g) e (by lia)
theorem CK {p:Nat} (i:vO l p) (h92:l.length<=p\/l.getD p 0≠92) (j:eu l w F κ) (q:w+100<=dy) {o start a:Nat} {v:Bool} {mk:Array (Option Nat)} {f t k:Int} {b:Option Nat} {c:Sre.Seen} (d:o<=1000) (g:mk.size<=2) (h:0<=f) (r:(-1:Int)<=k):
  Go (κ+6) (aJ R2 l o start 66 p a v mk f t (lp k b) (some 0) F w none c) Fl:=by
 refine bx pP rfl ?_;rw [if_neg (by lia)]
 have x:=fT (n:=(f+1).toNat) g;split
 ·rw [if_neg (by lia)]
  have e:∀s,Go (κ+4) (aJ R2 l o start 50 p p v mk f t (lp (k+1) (some p)) (some 0) (bZ .maxMore 67 p v (k+1) (gV f t mk) 0 b::F) (w+1+(mk.extract 0 (f+1).toNat).size) (some false) s) Fl:=λs=>
   kY i j q (by lia) h g d g h (by lia)
  refine bx pO rfl ?_;split
  ·exact e _
  ·rcases h92 with h92|h92
   ·contradiction
   ·rw [ba,beq_false_of_ne h92];exact e _
 ·rw [if_neg (by lia)]
  exact (gH i j d g h r).mono (Nat.le_add_right _ 2)
theorem A2 {l:P1} {j:Nat} (h:pQ (l.getD j 0)=true):l.getD j 0≠34/\l.getD j 0≠92:=by
 simpa [pQ] using h
theorem vP (y:eu l w F κ) (O:w+110<=dy) {u:Bool} {m z:Int} {e:Array (Option Nat)} (i:0<=m) (g:e.size<=2):∀(n d:Nat),n<=d->(∀j,d-n<=j->j<d->pQ (l.getD j 0)=true)->eu l (w+1+(e.extract 0 (m+1).toNat).size) (bZ .giveBack 53 d u (n:Nat) (gV m z e) 0 none::F) (κ+1+7*n):=by
 intro n;have I:=fT (n:=(m+1).toNat) g
 induction n with
 |zero=>
  intro d J r o start C A a v mk f t k b c h p x s;refine bx (vC.trans (if_pos (by decide))) rfl ?_
  rw [pR];exact y h (nT p g) i s
 |succ n L=>
  intro d J r o start C A a v mk f t k b c h p x s;refine bx (N:=κ+1+7*n+6) ((vC.trans (if_neg (by simp))).trans (if_neg (by lia))) rfl ?_
  rw [Int.natCast_succ,Int.add_sub_cancel,pR];have q:=A2 (r (d-1) (by lia) (by lia))
  exact CK (.inr q.1) (.inr q.2) (L (d-1) (by lia) λj p x=>r j (by lia) (by lia)) (by lia) h (nT p g) i s
theorem zf (V:bw l) (y:l.length<=900) {p:Nat} (h:QE l p none):∀{F:List Sre.Frame} {w o start a:Nat} {v:Bool} {mk:Array (Option Nat)} {f t k:Int} {b:Option Nat} {c:Sre.Seen} {κ d:Nat},eu l w F κ->o<=1000->mk.size<=2->0<=f->(-1:Int)<=k->l.length<=p+d->w+6*d+200<=dy->
  Go (κ+12*d+30) (aJ R2 l o start 66 p a v mk f t (lp k b) (some 0) F w none c) Fl:=by
 generalize Y:none=r at h
 induction h with
 |close=>cases Y
 |eof h=>
  intro F w o start a v mk f t k b c κ d s e g q I N hw;exact (CK (.inl h) (.inl h) s (by lia) e g q I).mono (by lia)
 | @PP p x y hc=>
  intro F w o start a v mk f t k b c κ d s e g q I N hw;have J:vO l p:=.inr (by rw [y];decide)
  have O:=fT (n:=(f+1).toNat) g;refine bx pP rfl ?_;rw [if_neg (by lia)]
  split
  ·rw [if_neg (by lia)]
   refine bx pO rfl ?_;rw [if_neg (Nat.not_le.mpr x),ba,y];refine bx (vu.trans (if_pos hc)) rfl ?_;exact (kY J s (by lia) (by lia) q g e g q (by lia)).mono (by lia)
  ·rw [if_neg (by lia)]
   exact (gH J s e g q I).mono (by lia)
 | @PQ p r x y hc ih=>
  intro F w o start a v mk f t k b c κ d s e g q I N hw;obtain ⟨d',rfl,T⟩:=A1 x N;have J:vO l p:=.inr (by rw [y];decide)
  have O:=fT (n:=(f+1).toNat) g;refine bx pP rfl ?_;rw [if_neg (by lia)]
  split
  ·rw [if_neg (by lia)]
   refine bx pO rfl ?_;rw [if_neg (Nat.not_le.mpr (Nat.lt_of_succ_lt x)),ba,y];refine bx vu rfl ?_;rw [if_neg (Nat.not_le.mpr x),ba,A0 V x];refine bx AM rfl ?_;rw [if_neg (by lia)]
   obtain ⟨s',U⟩:=dn AX V (by lia) (show p+1+1<=l.length from x) (((((c.add 18).add 16).add 2).add 24).add 13)
   rw [U];have Pm:=dJ (p:=pQ) (l:=l) (i:=p+1+1);show Go _ (if tw pQ l (p+1+1)<0 then _ else if w+1+(mk.extract 0 (f+1).toNat).size+1+(mk.extract 0 (f+1).toNat).size>dy then _ else _) _
   rw [if_neg (Nat.not_lt_zero _),if_neg (by lia)]
   refine (ih Y (vP (kY J s (by lia) (by lia) q g) (by lia) q g _ _ (Nat.le_add_left _ _) λj L Pn=>?_) e g q (by lia) T ?_).mono (by lia)
   ·rw [Nat.add_sub_cancel] at L
    have:=nQ (p:=pQ) (l:=l) (i:=p+1+1) (j:=j-(p+1+1)) (by lia)
    rw [Nat.add_sub_cancel' L] at this;exact this
   ·show w+1+_+1+_+6*d'+200<=dy
    lia
  ·rw [if_neg (by lia)]
   exact (gH J s e g q I).mono (by lia)
end
end
section
open PySem.Sre (M Op Wait Loop Outcome)
section
variable {l:P1} {F:List Sre.Frame} {w κ:Nat}
def FO (l:P1) (w:Nat) (F:List Sre.Frame) (κ:Nat):Prop:=∀{b start c a handed:Nat} {d:Bool} {mk:Array (Option Nat)} {e f:Int} {seen:Sre.Seen},b<=1000->mk.size<=2->
 Go κ (aJ R2 l b start c a handed d mk e f #[] none F w (some false) seen) Fl
theorem FO.mono {c:Nat} (d:FO l w F κ) (h:κ<=c):FO l w F c:=λa b=>(d a b).mono h
theorem pT (d:FO l w F κ) {e:Nat} {a:Bool}:eu l (w+1+0) (bZ .closeLoop 46 e a 0 (aP (-1) (-1)) 0 none::F) (κ+1):=by
 intro h start i f handed j mk m n k b seen c g o p;refine bx AV rfl ?_;rw [pR];exact d c g
theorem F3 (k:FO l w F κ) (v:w+200<=dy) {e:Bool} {c f:Int} (g:0<=c):∀(n a:Nat),n<=a->(∀j,a-n<=j->j<a->pQ (l.getD j 0)=true)->FO l (w+1+0) (bZ .giveBack 33 a e (n:Nat) (aP c f) 0 none::F) (κ+1+9*n):=by
 intro n
 induction n with
 |zero=>
  intro a m h o start p i handed r mk s t seen b d;refine bx (vx.trans (if_pos (by decide))) rfl ?_
  exact k b d
 |succ n u=>
  intro a m h o start p i handed r mk s t seen b d;refine bx (N:=κ+1+9*n+8) ((vx.trans (if_neg (by simp))).trans (if_neg (by lia))) rfl ?_
  rw [Int.natCast_succ,Int.add_sub_cancel,show w+1+0-1+1+0=w+1+0 from rfl]
  refine bx (AR.trans (if_neg (by lia))) rfl ?_
  have q:=A2 (h (a-1) (by lia) (by lia))
  exact CK (.inr q.1) (.inr q.2) (pT (u (a-1) (by lia) λj d x=>h j (by lia) (by lia))) (by lia) b d g (by lia)
theorem F4 (i:FO l w F κ) (u:w+200<=dy) {d:Bool} {e f:Int}:∀(n a:Nat),n<=a->a<=l.length->(∀j,a-n<=j->j<a->l.getD j 0=32)->FO l (w+1+0) (bZ .giveBack 19 a d (n:Nat) (aP e f) 0 none::F) (κ+1+2*n):=by
 intro n
 induction n with
 |zero=>
  intro a k m g o start p h handed q mk r s seen b c;refine bx (vw.trans (if_pos (by decide))) rfl ?_
  exact i b c
 |succ n t=>
  intro a k m g o start p h handed q mk r s seen b c;refine bx (N:=κ+1+2*n+1) ((vw.trans (if_neg (by simp))).trans (if_neg (by lia))) rfl ?_
  rw [Int.natCast_succ,Int.add_sub_cancel,show w+1+0-1+1+0=w+1+0 from rfl]
  refine bx vt rfl ?_;rw [if_neg (by lia),ba,g (a-1) (by lia) (by lia)]
  exact t (a-1) (by lia) (by lia) (λj c v=>g j (by lia) (by lia)) b c
theorem L3 {o:Nat} {c d:Bool} {e f:Int}:∀(b:Nat),b<=l.length->(∀j,j<b->l.getD j 0=32)->FO l 2 [bZ .giveBack 7 b d (b:Nat) (aP e f) 0 none,bZ .nextStart 5 o c 0 (aP (-1) (-1)) 0 none] (5001+2*b):=by
 intro n
 induction n with
 |zero=>
  intro k g p start q i handed r mk s t seen a m;exact bx (N:=5000) (AP.trans (if_pos (by decide))) rfl (Ox (by decide) a)
 |succ n u=>
  intro k g p start q i handed r mk s t seen a m;refine bx (N:=5001+2*n+1) ((AP.trans (if_neg (by simp))).trans (if_neg (by decide))) rfl ?_
  rw [Int.natCast_succ,Int.add_sub_cancel,Nat.add_sub_cancel];refine bx vp rfl ?_;rw [if_neg (by lia),ba,g n (Nat.lt_succ_self n)]
  exact u (Nat.le_of_succ_le k) (λj h=>g j (Nat.lt_succ_of_lt h)) a m
theorem OC:gW R2 l 1=if (decide (0>l.length)||decide (l.length-0<3))=true then aJ R2 l 0 0 5 0 0 true (Array.replicate 2 none) (-1) (-1) #[] none [] 0 (some false) (({}:Sre.Seen).add 14) else (if 0+1+0>dy then M.stick (aJ R2 l (max 0 (l.length-2)) 0 5 0 0 true (Array.replicate 2 none) (-1) (-1) #[] none [] 0 none (({}:Sre.Seen).add 14)) "frames:memory" else aJ R2 l (max 0 (l.length-2)) 0 5 0 0 true (Array.replicate 2 none) (-1) (-1) #[] none [bZ .nextStart 5 0 true 0 (aP (-1) (-1)) 0 none] (0+1+0) none (({}:Sre.Seen).add 14)):=by kernel_rfl
def yM (l:P1):Prop:=ku l/\vB l<l.length/\l.getD (vB l) 0=34
theorem QE.lt {l:P1} {p e:Nat} (h:QE l p (some e)):p<=e/\e<l.length:=by
 generalize a:some e=r at h
 induction h with
 |close h=>cases a;exact ⟨Nat.le_refl _,h⟩
 |eof=>cases a
 |PP=>cases a
 |PQ _ _ _ b=>have:=b a;omega
def f7 (l:P1):List Sre.Frame:=[bZ .giveBack 7 (tw aW l 0) true (tw aW l 0:Nat) (aP (-1) (-1)) 0 none,bZ .nextStart 5 0 true 0 (aP (-1) (-1)) 0 none]
def Kj (l:P1):List Sre.Frame:=bZ .giveBack 19 (vB l) true (tw aW l (tw aW l 0+1):Nat) (aP (-1) (-1)) 0 none::f7 l
def qE (l:P1):Nat:=vB l+1+tw pQ l (vB l+1)
def L4 (l:P1):List Sre.Frame:=bZ .giveBack 33 (qE l) true (tw pQ l (vB l+1):Nat) (aP 0 (-1)) 0 none::Kj l
def mS (l:P1) (a p:Nat) (F:List Sre.Frame) (w:Nat) (s:Sre.Seen):M:=aJ R2 l (max 0 (l.length-2)) 0 a p p true (Array.replicate 2 none) (-1) (-1) #[] none F w none s
theorem Kk:(Array.replicate 2 (none:Option Nat)).size<=2:=by simp
theorem vQ (b:l.length<=900):FO l 2 (f7 l) 9000:=by
 have a:=dJ (p:=aW) (l:=l) (i:=0);have h:FO l 2 (f7 l) (5001+2*tw aW l 0):=L3 _ (by lia) λi c=>vK l 0 i (by lia) (by lia)
 exact @FO.mono _ _ _ _ _ @h (by lia)
theorem rG (b:l.length<=900) (c:ku l):FO l 3 (Kj l) 12000:=by
 have d:=dJ (p:=aW) (l:=l) (i:=tw aW l 0+1);have a:=c.1;have h:FO l 3 (Kj l) (9000+1+2*tw aW l (tw aW l 0+1)):=F4 (vQ b) (by decide) (tw aW l (tw aW l 0+1)) (vB l) (by unfold vB;lia) (by unfold vB;lia) λj a e=>vK l (tw aW l 0+1) j (by unfold vB at a;lia) (by unfold vB at e;lia)
 exact @FO.mono _ _ _ _ _ @h (by lia)
theorem CL (a:l.length<=900) (b:ku l):FO l 4 (L4 l) 31000:=by
 have c:=dJ (p:=pQ) (l:=l) (i:=vB l+1);have h:FO l 4 (L4 l) (12000+1+9*tw pQ l (vB l+1)):=F3 (rG a b) (by decide) (by decide) (tw pQ l (vB l+1)) (qE l) (by unfold qE;lia) λj d e=>by
  unfold qE at d e;have:=nQ (p:=pQ) (l:=l) (i:=vB l+1) (j:=j-(vB l+1)) (by lia)
  rw [Nat.add_sub_cancel' (by lia)] at this
  exact this
 exact @FO.mono _ _ _ _ _ @h (by lia)
theorem Nq (a:bw l) (e:l.length<=900) {Q:M->Prop} (h:∀s,Go 99000 (mS l 17 (tw aW l 0) (f7 l) 2 s) Q):Go 100000 (mS l 5 0 [bZ .nextStart 5 0 true 0 (aP (-1) (-1)) 0 none] (0+1+0) (({}:Sre.Seen).add 14)) Q:=by
 have b:=dJ (p:=aW) (l:=l) (i:=0);refine aH (Fu.trans (if_pos rfl)) rfl ?_;refine aH LZ rfl ?_;rw [if_neg (by lia)]
 obtain ⟨c,d⟩:=dn FR a (by lia) (show 0<=l.length by lia) (((((({}:Sre.Seen).add 14).add 6).add (43+0)).add 24).add 13)
 rw [d];show Go _ (if tw aW l 0<0 then _ else if 0+1+0+1+0>dy then _ else _) Q
 rw [if_neg (Nat.not_lt_zero _),if_neg (by decide),Nat.zero_add]
 exact (h c).mono (by decide)
theorem F5 (b:bw l) (c:l.length<=900) (a:ku l) {Q:M->Prop} (h:∀s,Go 98000 (mS l 29 (vB l) (Kj l) (2+1+0) s) Q):Go 100000 (mS l 5 0 [bZ .nextStart 5 0 true 0 (aP (-1) (-1)) 0 none] (0+1+0) (({}:Sre.Seen).add 14)) Q:=Nq b c λs=>by
 refine aH vp rfl ?_;rw [if_neg (Nat.not_le.mpr a.1),ba,a.2];refine aH Fv rfl ?_;rw [if_neg (by have:=a.1;lia)]
 obtain ⟨d,e⟩:=dn FS b (by lia) (show tw aW l 0+1<=l.length from a.1) (((s.add 16).add 24).add 13)
 rw [e];show Go _ (if tw aW l (tw aW l 0+1)<0 then _ else if 2+1+0>dy then _ else _) _
 rw [if_neg (Nat.not_lt_zero _),if_neg (by decide)]
 exact (h d).mono (by decide)
theorem F6 (b:bw l) (d:l.length<=900) (a:yM l) {Q:M->Prop} (h:∀s,Go 97000 (aJ R2 l (max 0 (l.length-2)) 0 66 (qE l) (qE l) true #[some (vB l+1),none] 0 (-1) (lp (-1) none) (some 0) (bZ .closeLoop 46 (qE l) true 0 (aP (-1) (-1)) 0 none::L4 l) (3+1+0+1+0) none s) Q):Go 100000 (mS l 5 0 [bZ .nextStart 5 0 true 0 (aP (-1) (-1)) 0 none] (0+1+0) (({}:Sre.Seen).add 14)) Q:=F5 b d a.1 λs=>by
 have c:=a.2.1;refine aH vt rfl ?_;rw [if_neg (Nat.not_le.mpr c),ba,a.2.2];refine aH Fw rfl ?_;refine aH Fx rfl ?_;rw [if_neg (by lia)]
 obtain ⟨f,e⟩:=dn FT b (by lia) (show vB l+1<=l.length from c) ((((s.add 16).add 17).add 24).add 13)
 rw [e];show Go _ (if tw pQ l (vB l+1)<0 then _ else if 3+1+0>dy then _ else _) _
 rw [if_neg (Nat.not_lt_zero _),if_neg (by decide)]
 refine aH (AR.trans (if_neg (by decide))) rfl ?_
 exact (h _).mono (by decide)
theorem rH (g:bw l) (a:l.length<=900):(¬yM l->Go 100000 (gW R2 l 1) Fl)/\(yM l->QE l (vB l+1+tw pQ l (vB l+1)) none->Go 100000 (gW R2 l 1) Fl)/\
  (∀e,yM l->QE l (vB l+1+tw pQ l (vB l+1)) (some e)->Go 100000 (gW R2 l 1) (Mt 0 (e+1) #[some (vB l+1),some e] 1 1)):=by
 rw [OC];by_cases o:l.length<3
 ·rw [if_pos (by simp only [Bool.or_eq_true,decide_eq_true_eq];lia)]
  refine ⟨λY=>kX,λY Y=>kX,λe h i=>?_⟩;have:=i.lt;have m:=h.2.1;unfold vB at this m;lia
 rw [if_neg (by simp only [Bool.or_eq_true,decide_eq_true_eq];lia),if_neg (by decide)]
 have c:max 0 (l.length-2)<=1000:=by lia
 refine ⟨λh=>?_,λh i=>?_,λe h i=>?_⟩
 ·by_cases d:ku l
  ·refine F5 g a d λs=>?_
   refine aH vt rfl ?_;by_cases f:l.length<=vB l
   ·rw [if_pos f];exact (rG a d c Kk).mono (by decide)
   ·rw [if_neg f,ba,beq_false_of_ne λe=>h ⟨d,Nat.not_le.mp f,e⟩]
    exact (rG a d c Kk).mono (by decide)
  ·refine Nq g a λs=>?_
   refine aH vp rfl ?_;by_cases f:l.length<=tw aW l 0
   ·rw [if_pos f];exact (vQ a c Kk).mono (by decide)
   ·rw [if_neg f,ba,beq_false_of_ne λe=>d ⟨Nat.not_le.mp f,e⟩]
    exact (vQ a c Kk).mono (by decide)
 ·refine F6 g a h λs=>?_
  exact (zf g a i (pT (CL a h.1)) c (by simp) (by decide) (by decide) (Nat.le_add_left _ _) (by unfold dy;lia)).mono (by lia)
 ·refine F6 g a h λs=>?_
  refine (vN (κ:=10) g a i ?_ (by decide) (by simp) (Nat.le_add_left _ _) (by unfold WW;lia)).mono (by lia)
  intro p n handed q mk r t k b j u seen;refine aH AV rfl ?_;refine aH mz rfl ?_;refine aH mz rfl ?_;refine aH mz rfl ?_;refine aH vE rfl ?_;exact pS
end
end
section
theorem bp (a:P4) (l:P7):(ab a l).map (·.1)=(List.range l.length).map a:=by
 apply List.ext_getElem?;intro i;rw [List.getElem?_map,aw,List.getElem?_map];by_cases h:i<l.length
 ·rw [List.getElem?_eq_getElem h,List.getElem?_range h];rfl
 ·rw [List.getElem?_eq_none (by lia),List.getElem?_eq_none (by simp;lia)];rfl
noncomputable def kZ (l:P7):Bool:=l.all λo=>!o.isFreed
theorem j3 {l:P7} (h:kZ l=true) {i:Nat} {o:Obj} (a:l[i]? =some o):o.isFreed=false:=by
 have:=List.all_eq_true.mp h o (List.mem_of_getElem? a);simpa using this
theorem ie.trans {F i c:aA} {s f d:Shared} {S j b:Addr->Prop} (h:ie F i s f S) (g:ie i c f d j) (k:s.1.1.size<=f.1.1.size) (l:∀a,S a->b a) (m:∀a,j a->b a):ie F c s d b:=
 ⟨h.le.trans g.le,g.base,λa o e=>by
  rcases g.new a o e with x|x|x
  ·rcases h.new a o x with y|y|y
   ·exact .inl y
   ·exact .inr (.inl y)
   ·exact .inr (.inr (l a y))
  ·exact .inr (.inl (Nat.le_trans k x))
  ·exact .inr (.inr (m a x))⟩
theorem fk.seq {s w l:Shared} {a:P4} {m c:P7} {x:Nat} {d:P7} {r g:P4} {j n:P7} {k:Nat} (h:fk s w (ab a m) c k n r) (y:c.length=m.length)
  (f:fk w l (ab a c) j x d g):fk s l (ab a m) j x d g:=by
 have A:(ab a c).map (·.1)=(ab a m).map (·.1):=by rw [bp,bp,y]
 refine ⟨λb o e z=>f.keep b o (h.keep b o e z) (by rw [A];exact z),λi p o t B u=>?_,f.new,λi q=>Nat.le_trans h.size (f.fresh i q),f.below,f.inj,Nat.le_trans h.size f.size,f.life.trans h.life,f.gens.trans h.gens,f.drawn.trans h.drawn,f.os.trans h.os⟩
 have q:i<m.length:=by
  have:=(List.getElem?_eq_some_iff.mp t).1;unfold ab at this;simpa using this
 have v:i<c.length:=by simp only [y];exact q
 simp only [aw,List.getElem?_eq_getElem q] at t;cases t;exact f.upd i (a i,c[i]) o (by rw [aw,List.getElem?_eq_getElem v];rfl) B u
section
variable {w:World} {F:aA} {d u:Nat} {C:P8} {H:P6} {c D:Code} {a:P4} {r:P7} {t B z f:Nat}
 {m j v l:P4->P2->P7} {n k:P4->P2->hZ} {g e:P4->P2->Qb}
theorem dU {s p:Shared} {i:aA} {S:Addr->Prop} (G:ie F i s p S) {b:Addr} {o:Obj} (h:s.1.get? b=some o) (y:F b=none) (A:¬S b):i b=none:=by
 cases q:i b with
 |none=>rfl
 |some E=>
  rcases G.new b E q with x|x|x
  ·rw [y] at x;injection x
  ·exact absurd (Heap.lt_size h) (Nat.not_lt.mpr x)
  ·exact absurd x A
theorem pU {x:Qa} {q:P7} (h:kZ q=true) {b:Addr}:¬fN x q b:=by
 rintro ⟨i,p,o,_,y,s,_⟩;rw [j3 h y] at s;injection s
theorem ah.seq (h1:ah aX w F d u C H c (ab a r) m t z v n g) (hr:∀ad h,n ad h= .again D) (Q:∀ad h,(m ad h).length=r.length)
  (h2:∀T,Le F T->∀ad h,ah aX w T d u C H D (ab a (m (ae t ad) (ae z h))) j B f l k e) (U:∀ad h,kZ (m ad h)=true:=by intros;kernel_rfl):ah aX w F d u C H c (ab a r) j B f l k e:=by
 intro A s R hH hd hu hB I J hR;refine h1 A s R hH hd hu hB I J λs' q h T G Po Pp X=>?_;rw [hr];refine h2 T G.le q h A s' R hH hd hu G.base (λp hp=>?_) ?_ λV L Y Pm G' x N X'=>?_
 ·obtain ⟨i,hi⟩:=List.getElem?_of_mem hp
  rw [aw] at hi;obtain ⟨o,ho,rfl⟩:=Option.map_eq_some_iff.mp hi;have E:i<r.length:=by rw [<-Q (ae t q) (ae z h)];exact (List.getElem?_eq_some_iff.mp ho).1
  have O:(ab a r)[i]? =some (a i,r[i]):=by rw [aw,List.getElem?_eq_getElem E];rfl
  have y:=I _ (List.mem_of_getElem? O);exact ⟨X.upd i (a i,r[i]) o O ho (j3 (U _ _) ho),dU G y.1 y.2 (pU (U _ _))⟩
 ·rw [bp,Q,<-bp];exact J
 ·refine hR V L Y Pm (G.trans G' X.size (λb hb=>absurd hb (pU (U _ _))) λb hb=>?_) x N (X.seq (Q _ _) X')
  obtain ⟨i,p,o,g1,g2,g3,g4⟩:=hb;rw [aw] at g1;obtain ⟨o',Pn,rfl⟩:=Option.map_eq_some_iff.mp g1;have E:i<r.length:=by simp only [<-Q (ae t q) (ae z h)];exact (List.getElem?_eq_some_iff.mp Pn).1
  exact ⟨i,(a i,r[i]),o,by rw [aw,List.getElem?_eq_getElem E];rfl,g2,g3,g4⟩
theorem ah.Pt {q:Qa} (σ:P4->P2->Nat->Tok) (h:ah aX w F d u C H c q m t z v n g)
  (y:∀ad b,j ad (ae f (σ ad b))=m ad b) (E:∀ad b,l ad (ae f (σ ad b))=v ad b) (I:∀ad b,k ad (ae f (σ ad b))=n ad b) (J:∀ad b,e ad (ae f (σ ad b))=g ad b):
  ah aX w F d u C H c q j t f l k e:=by
 intro A s R L N O Q T U V;refine h A s R L N O Q T U λY i b F' G o p X=>?_;have x:=V Y i (σ (ae t i) (ae z b)) F';rw [y,E,I,J] at x;exact x G o p X
end
noncomputable def sh (n:Nat) (t:P2) (i:Nat):Tok:=t (n+i)
end
noncomputable def L5 (b:Tok) (a:P4):Code:=.call (.ref 584) ⟨[.ref (a 0),.int 1 b],[]⟩
def ES (w:World) (t:P2) (b:P1) (c:Int) (a:P4):P7:=[aj (a 1),ao w.2 t b c]
noncomputable def CM (t:P2) (u:Tok) (i:Nat):Tok:=match Nat.beq i 5 with
 |true=>u
 |false=>t i
def CN (w:World) (t:P2) (f:Tok) (b d:P1) (c:Int) (B:P8) (g:P6):a7:={
 B:=λY=>B,Hd:=g,O:=oB [mk d],k:=2,Pm:=2,H:=aQ 0x8da0a0018489ee87850382a00189ee87850389ee878505aab1ffa585eeee03a0d583820483bf0182cd82cd82a401a4b1ff9797a001a00194,N:=400,cF:=L5 f,oF:=ES w t b c,
 uF:=λa Y e=>ES w t b c a,rF:=λY Y e=>.end_ (.ok (.ret (.str (mk []) (e 0)))),Pn:=[17,0],facts:=[decide (((mk b).length:Int)<=c)=true,aD (mk b)]}
theorem F7 {w:World} {t:P2} {d:Tok} {a b:P1} {c:Int} {B:P8} {e:P6}:(CN w t d a b c B e).Runs w:=by intro f g h;kernel_rfl
def CO (w:World) (t:P2) (f:Tok) (b d:P1) (c:Int) (B:P8) (g:P6):a7:={
 B:=λY=>B,Hd:=g,O:=oB [mk d],k:=2,Pm:=2,H:=aQ 0x5c8a089ee878503908d84ee928785a0df0384a08303dfa0a0018489ee87850382a00189ee87850389ee878505aab1ffa585eeee03a0d583820483bf0182cd82cd82a401a4b1ff9797a001a00194,N:=400,cF:=L5 f,oF:=ES w t b c,
 uF:=λa Y e=>ES w (CM t (e 1)) b ((mk b).length:Int) a,rF:=λY Y e=>.end_ (.ok (.ret (.str (mk d) (e 0)))),Pn:=[22,15],facts:=[aD (mk b),ak (.int c (t 5)),ak (.int ((mk b).length:Int) 0),Txt.slice (mk b) (some c) (some ((mk b).length:Int))=mk d,decide (c+1<((mk b).length:Int))=false,decide (((mk b).length:Int)<=c)=false,aD (mk b)]}
theorem F8 {w:World} {t:P2} {d:Tok} {a b:P1} {c:Int} {B:P8} {e:P6}:(CO w t d a b c B e).Runs w:=by intro f g h;kernel_rfl
def CP (w:World) (t:P2) (f:Tok) (c d:P1) (b:Int) (B:P8) (g:P6):a7:={
 B:=λY=>B,Hd:=g,O:=oB [mk d],k:=2,Pm:=2,H:=aQ 0x5c8a089ee878503908d84ee928785a0a00184a0a50384a08303dfa0a0018489ee87850382a00189ee87850389ee878505aab1ffa585eeee03a0d583820483bf0182cd82cd82a401a4b1ff9797a001a00194,N:=400,cF:=L5 f,oF:=ES w t c b,
 uF:=λa Y e=>ES w (CM t (e 1)) c (b+1) a,rF:=λY Y e=>.end_ (.ok (.ret (.str (mk d) (e 0)))),Pn:=[24,19],facts:=[aD (mk c),ak (.int b (t 5)),ak (.int (b+1) 0),Txt.slice (mk c) (some b) (some (b+1))=mk d,decide (b+1<((mk c).length:Int))=true,decide (((mk c).length:Int)<=b)=false,aD (mk c)]}
theorem F9 {w:World} {t:P2} {d:Tok} {a b:P1} {c:Int} {B:P8} {e:P6}:(CP w t d a b c B e).Runs w:=by intro f g h;kernel_rfl
def uR (w:World) (a:P1):aY:=λc b Y=>
 {need:=50,Po:=500,code:=.call (.ref 584) ⟨[.ref (fA b 0),.int 1 (aR (bD c 1))],[]⟩,fs:=[(fA b 0,aj (fA b 1)),(fA b 1,ao w.2 (aE (fO b 1)) a (ai a []))],Pq:=[a.length<=900],wants:=[],
  upd:=λY Y=>[aj (fA b 1),ao w.2 (aE (fO b 1)) a (ai a [])],nn:=0,new:=λY Y=>[],Pm:=2,res:=λY d=>.end_ (.ok (.ret (.str (mk []) (d 0)))),gives:=λY Y=>[]}
def mu (w:World) (a:P1) (x:Nat) (r:P1):aY:=λc b Y=>
 {need:=50,Po:=500,code:=.call (.ref 584) ⟨[.ref (fA b 0),.int 1 (aR (bD c 1))],[]⟩,fs:=[(fA b 0,aj (fA b 1)),(fA b 1,ao w.2 (aE (fO b 1)) a (ai a (x::r)))],Pq:=[a.length<=900,(x::r) <:+ a],wants:=[],
  upd:=λY d=>[aj (fA b 1),ao w.2 (CM (aE (fO b 1)) (d 1)) a (ai a r)],nn:=0,new:=λY Y=>[],Pm:=2,res:=λY d=>.end_ (.ok (.ret (.str (mk [x]) (d 0)))),gives:=λY Y=>[]}
noncomputable def L6 (a b:Addr) (i:Nat):Addr:=match i with
 |0=>a
 |_=>b
theorem il {w:World} {F:aA} (e:Le (top w.2) F) {a:P1} (c:Code) (b:Qa) (kn:Qb):(uR w a c b kn).Ok w F:=by
 intro f _ C H _ _;have g:a.length<=900:=f _ (.head _);exact ah.Pu ((CN w (aE (fO b 1)) (aR (bD c 1)) a [] (ai a []) C H).Pu e cG F7 (by
  intro p d;simp only [CN,List.mem_cons,List.not_mem_nil,or_false] at d;rcases d with rfl|rfl
  ·simp only [bG];simp [ai]
  ·exact au (by lia)) (L6 (fA b 0) (fA b 1)))
theorem CQ {w:World} {F:aA} (g:Le (top w.2) F) {a:P1} {x:Nat} {r:P1} (c:Code) (b:Qa) (kn:Qb):(mu w a x r c b kn).Ok w F:=by
 intro h _ C H _ _;have l:a.length<=900:=h _ (by simp [mu])
 have i:(x::r) <:+ a:=h _ (by simp [mu])
 obtain ⟨p,rfl⟩:=i;have e:(p++x::r).length=p.length+(r.length+1):=by simp
 have d:ai (p++x::r) (x::r)=(p.length:Int):=by unfold ai;rw [e];simp
 have j:ai (p++x::r) r=(p.length:Int)+1:=by unfold ai;rw [e];lia
 cases r with
 |nil=>
  have k:ai (p++[x]) []=((mk (p++[x])).length:Int):=by simp [ai,bG]
  have J:=ah.Pu ((CO w (aE (fO b 1)) (aR (bD c 1)) (p++[x]) [x] (ai (p++[x]) [x]) C H).Pu g cG F8 (by
   intro q f;simp only [CO,List.mem_cons,List.not_mem_nil,or_false] at f;rcases f with rfl|rfl|rfl|rfl|rfl|rfl|rfl
   ·exact au (by lia)
   ·trivial
   ·trivial
   ·rw [d,bG,pM (by lia) (by simp;lia) (by simp)]
    congr 1;simp
   ·rw [d,bG];simp
   ·rw [d,bG];simp;lia
   ·exact au (by lia)) (L6 (fA b 0) (fA b 1)))
  unfold mu;dsimp only;rw [k];exact J
 |cons y r=>
  have J:=ah.Pu ((CP w (aE (fO b 1)) (aR (bD c 1)) (p++x::y::r) [x] (ai (p++x::y::r) (x::y::r)) C H).Pu g cG F9 (by
   intro q f;simp only [CP,List.mem_cons,List.not_mem_nil,or_false] at f;simp only [List.length_cons] at e;rcases f with rfl|rfl|rfl|rfl|rfl|rfl|rfl
   ·exact au (by lia)
   ·trivial
   ·trivial
   ·rw [d,pM (by lia) (by lia) (by rw [e];lia)]
    congr 1;have:((p.length:Int)+1-p.length).toNat=1:=by lia
    rw [this];simp
   ·rw [d,bG,e];simp;lia
   ·rw [d,bG,e];simp;omega
   ·exact au (by lia)) (L6 (fA b 0) (fA b 1)))
  unfold mu;dsimp only;rw [j,<-d];exact J
def fg (a:Addr):Code:=jA (nO (bQ (px 29 6)) 2) (jB (px 29 6) "shlex.read_token.<locals>." 741 740 a)
def bY (P:Params) (t:P2) (a:Addr) (q:Bool) (b:P9):Obj:=ik ([dE P "self" (t 0) (.ref a),dE P "quoted" (t 2) (.bool q),dE P "escapedstate" (t 4) (.str (mk [32]) (t 5))]++match b with
 |some x=>[dE P "nextchar" (t 6) (.str (mk x) (t 7))]
 |none=>[])
noncomputable def cM (t u v a:P2):Nat->Tok:=t
noncomputable def c7 (t u v a:P2):Nat->Tok:=u
def vR (t u v a:P2):Nat->Tok:=bl v [(6,(a 0)),(7,(a 1))]
def nU (w:World) (W Q b:P1) (q:Bool) (k:Int) (d:Addr) (t u v:P2) (B:P8) (e:P6):a7:={
 B:=λa=>B,Hd:=e,O:=oT [] (aC [([],(uR w b))]),k:=6,nn:=0,Pm:=2,H:=aQ 0x9c068c06bcd18306bd9fb8ea8fc0e6dd0600,N:=254,
 cF:=λa=>fg (a 5),oF:=λa=>[ax (a 1),ay w.2 t (a 3) (a 2) d W Q (some [32]) [],a6 k,aj (a 4),ao w.2 u b (ai b []),bY w.2 v (a 0) q none],
 uF:=λa n c=>[ax (a 1),ay w.2 (cM t u v c) (a 3) (a 2) d W Q none [],a6 k,aj (a 4),ao w.2 (c7 t u v c) b (ai b []),bY w.2 (vR t u v c) (a 0) q (some [])],nF:=λa n c=>[],rF:=λa n c=>.end_ (.ok .next),idx:=[],Pn:=[9,7],
 facts:=[true=true,b.length<=900]}
theorem vT {W:P1}:(nU w W Q a q k c t u v B d).Runs w:=by intro b e f;kernel_rfl
def pV (t u v a:P2):Nat->Tok:=bl u [(5,(a 0))]
def pW (t u v a:P2):Nat->Tok:=bl v [(6,(a 1)),(7,(a 2))]
def nV (w:World) (W Q r b:P1) (q:Bool) (k:Int) (d:Addr) (t u v:P2) (B:P8) (e:P6):a7:={
 B:=λa=>B,Hd:=e,O:=oT [] (aC [([],(mu w b 32 r))]),k:=6,nn:=0,Pm:=3,H:=aQ 0x18f8cd182ce8c06bcd18306bd9fb8ea8fc0e6dd0600,N:=328,
 cF:=λa=>fg (a 5),oF:=λa=>[ax (a 1),ay w.2 t (a 3) (a 2) d W Q (some [32]) [],a6 k,aj (a 4),ao w.2 u b (ai b (32::r)),bY w.2 v (a 0) q none],
 uF:=λa n c=>[ax (a 1),ay w.2 (cM t u v c) (a 3) (a 2) d W Q (some [32]) [],a6 k,aj (a 4),ao w.2 (pV t u v c) b (ai b r),bY w.2 (pW t u v c) (a 0) q (some [32])],nF:=λa n c=>[],rF:=λa n c=>.again (fg (a 5)),idx:=[],Pn:=[8,9,7],
 facts:=[true=true,b.length<=900,(32::r) <:+ b]}
theorem pX {W:P1}:(nV w W Q r a q k c t u v B d).Runs w:=by intro b e f;kernel_rfl
def iS (t u v a:P2):Nat->Tok:=bl t [(23,(a 0)),(31,(a 1))]
def fU (t u v a:P2):Nat->Tok:=bl u [(5,(a 2))]
def vU (t u v a:P2):Nat->Tok:=bl v [(6,(a 3)),(7,(a 1))]
def sV (w:World) (W Q:P1) (c:Nat) (r b:P1) (q:Bool) (k:Int) (e:Addr) (t u v:P2) (B:P8) (f:P6):a7:={
 B:=λa=>B,Hd:=f,O:=oT [] (aC [([],(mu w b c r))]),k:=6,nn:=0,Pm:=4,H:=aQ 0x19c069cbd02ce8f97ce97ce8406bcd1df06bd9fb8ea8fc0e6dd0600,N:=367,
 cF:=λa=>fg (a 5),oF:=λa=>[ax (a 1),ay w.2 t (a 3) (a 2) e W Q (some [32]) [],a6 k,aj (a 4),ao w.2 u b (ai b (c::r)),bY w.2 v (a 0) q none],
 uF:=λa n d=>[ax (a 1),ay w.2 (iS t u v d) (a 3) (a 2) e W Q (some [97]) [c],a6 k,aj (a 4),ao w.2 (fU t u v d) b (ai b r),bY w.2 (vU t u v d) (a 0) q (some [c])],nF:=λa n d=>[],rF:=λa n d=>.again (fg (a 5)),idx:=[],Pn:=[23,7,8,9],
 facts:=[fI (mk W) (mk [c])=true,fI (mk []) (mk [c])=false,fI (mk [32]) (mk [c])=false,aD (mk [c]),((mk [c]).cps.toList==(mk [10]).cps.toList)=false,true=true,b.length<=900,(c::r) <:+ b]}
theorem vV {W:P1}:(sV w W Q c r a q k d t u v B e).Runs w:=by intro b f g;kernel_rfl
def pY (t u v a:P2):Nat->Tok:=bl t [(23,(a 0)),(31,(a 0))]
def c8 (t u v a:P2):Nat->Tok:=bl u [(5,(a 1))]
def pZ (t u v a:P2):Nat->Tok:=bl v [(6,(a 2)),(7,(a 0))]
def iT (w:World) (W r b:P1) (q:Bool) (k:Int) (d:Addr) (t u v:P2) (B:P8) (e:P6):a7:={
 B:=λa=>B,Hd:=e,O:=oT [] (aC [([],(mu w b 34 r))]),k:=6,nn:=0,Pm:=3,H:=aQ 0x19c989c988f82ce828b08b0dd9897ce8f82ce82ce8c06bcd18306bd9fb8ea8fc0e6dd0600,N:=489,
 cF:=λa=>fg (a 5),oF:=λa=>[ax (a 1),ay w.2 t (a 3) (a 2) d W [34] (some [32]) [],a6 k,aj (a 4),ao w.2 u b (ai b (34::r)),bY w.2 v (a 0) q none],
 uF:=λa n c=>[ax (a 1),ay w.2 (pY t u v c) (a 3) (a 2) d W [34] (some [34]) [34],a6 k,aj (a 4),ao w.2 (c8 t u v c) b (ai b r),bY w.2 (pZ t u v c) (a 0) q (some [34])],nF:=λa n c=>[],rF:=λa n c=>.again (fg (a 5)),idx:=[],Pn:=[7,8,9],
 facts:=[fI (mk W) (mk [34])=false,true=true,b.length<=900,(34::r) <:+ b]}
theorem k6 {W:P1}:(iT w W r a q k c t u v B d).Runs w:=by intro b e f;kernel_rfl
def dV (t u v a:P2):Nat->Tok:=bl t [(31,(a 0))]
def nW (w:World) (W Q:P1) (c:Nat) (r b:P1) (q:Bool) (k:Int) (e:Addr) (t u v:P2) (B:P8) (f:P6):a7:={
 B:=λa=>B,Hd:=f,O:=oT [] (aC [([],(mu w b c r))]),k:=6,nn:=0,Pm:=3,H:=aQ 0x18f9c988f97ce978b08b0dd9897ce8f97ce97ce8406bcd1df06bd9fb8ea8fc0e6dd0600,N:=466,
 cF:=λa=>fg (a 5),oF:=λa=>[ax (a 1),ay w.2 t (a 3) (a 2) e W Q (some [32]) [],a6 k,aj (a 4),ao w.2 u b (ai b (c::r)),bY w.2 v (a 0) q none],
 uF:=λa n d=>[ax (a 1),ay w.2 (dV t u v d) (a 3) (a 2) e W Q (some [32]) [c],a6 k,aj (a 4),ao w.2 (c8 t u v d) b (ai b r),bY w.2 (pZ t u v d) (a 0) q (some [c])],nF:=λa n d=>[],rF:=λa n d=>.end_ (.ok .next),idx:=[],Pn:=[7,8,9],
 facts:=[aD (mk [c]),fI (mk Q) (mk [c])=false,fI (mk []) (mk [c])=false,fI (mk W) (mk [c])=false,fI (mk []) (mk [c])=false,fI (mk [32]) (mk [c])=false,aD (mk [c]),((mk [c]).cps.toList==(mk [10]).cps.toList)=false,true=true,b.length<=900,(c::r) <:+ b]}
theorem vW {W:P1}:(nW w W Q c r a q k d t u v B e).Runs w:=by intro b f g;kernel_rfl
def zg (t u v a:P2):Nat->Tok:=bl v [(6,(a 3)),(7,(a 4))]
def rI (w:World) (W c r b:P1) (q:Bool) (k:Int) (e:Addr) (t u v:P2) (B:P8) (f:P6):a7:={
 B:=λa=>B,Hd:=f,O:=oT [mk (c++[34])] (aC [([],(mu w b 34 r))]),k:=6,nn:=0,Pm:=5,H:=aQ 0x9c069cc4068fd1068c06988c8fd1d18306bd9fb8ea8fc0e6dd0600,N:=403,
 cF:=λa=>fg (a 5),oF:=λa=>[ax (a 1),ay w.2 t (a 3) (a 2) e W [34] (some [34]) (c),a6 k,aj (a 4),ao w.2 u b (ai b (34::r)),bY w.2 v (a 0) q none],
 uF:=λa n d=>[ax (a 1),ay w.2 (iS t u v d) (a 3) (a 2) e W [34] (some [32]) (c++[34]),a6 k,aj (a 4),ao w.2 (fU t u v d) b (ai b r),bY w.2 (zg t u v d) (a 0) true (some [34])],nF:=λa n d=>[],rF:=λa n d=>.end_ (.ok .next),idx:=[],Pn:=[27,24,8,9,7],
 facts:=[aD ((mk c)++(mk [34])),(mk c)++(mk [34])=(mk (c++[34])),true=true,b.length<=900,(34::r) <:+ b]}
theorem zh {W:P1}:(rI w W a r b q k d t u v B e).Runs w:=by intro c f g;kernel_rfl
def zi (t u v a:P2):Nat->Tok:=bl v [(6,(a 2)),(7,(a 3))]
def k7 (w:World) (W d:P1) (c:Nat) (r b:P1) (q:Bool) (k:Int) (f:Addr) (t u v:P2) (B:P8) (g:P6):a7:={
 B:=λa=>B,Hd:=g,O:=oT [mk (d++[c])] (aC [([],(mu w b c r))]),k:=6,nn:=0,Pm:=4,H:=aQ 0x19cc4068f8fdfce8406988c8fd1d1df06bd9fb8ea8fc0e6dd0600,N:=363,
 cF:=λa=>fg (a 5),oF:=λa=>[ax (a 1),ay w.2 t (a 3) (a 2) f W [34] (some [34]) (d),a6 k,aj (a 4),ao w.2 u b (ai b (c::r)),bY w.2 v (a 0) q none],
 uF:=λa n e=>[ax (a 1),ay w.2 (dV t u v e) (a 3) (a 2) f W [34] (some [34]) (d++[c]),a6 k,aj (a 4),ao w.2 (c8 t u v e) b (ai b r),bY w.2 (zi t u v e) (a 0) true (some [c])],nF:=λa n e=>[],rF:=λa n e=>.again (fg (a 5)),idx:=[],Pn:=[23,8,9,7],
 facts:=[aD ((mk d)++(mk [c])),(mk d)++(mk [c])=(mk (d++[c])),((mk [c]).cps.toList==(mk [34]).cps.toList)=false,aD (mk [c]),((mk [c]).cps.toList==(mk [10]).cps.toList)=false,true=true,b.length<=900,(c::r) <:+ b]}
theorem nX {W:P1}:(k7 w W a c r b q k e t u v B f).Runs w:=by intro d g h;kernel_rfl
def iU (t u v a:P2):Nat->Tok:=bl v [(7,(a 0))]
def nY (w:World) (W Q b e:P1) (q:Bool) (k:Int) (d:Addr) (t u v:P2) (B:P8) (f:P6):a7:={
 B:=λa=>B,Hd:=f,O:=oT [] (aC [([],(uR w b))]),k:=6,nn:=0,Pm:=1,H:=aQ 0x9c068c06bcd18306bd9fb8ea8fc0e6dd0600,N:=254,
 cF:=λa=>fg (a 5),oF:=λa=>[ax (a 1),ay w.2 t (a 3) (a 2) d W Q (some [32]) [],a6 k,aj (a 4),ao w.2 u b (ai b []),bY w.2 v (a 0) q (some e)],
 uF:=λa n c=>[ax (a 1),ay w.2 (cM t u v c) (a 3) (a 2) d W Q none [],a6 k,aj (a 4),ao w.2 (c7 t u v c) b (ai b []),bY w.2 (iU t u v c) (a 0) q (some [])],nF:=λa n c=>[],rF:=λa n c=>.end_ (.ok .next),idx:=[],Pn:=[7],
 facts:=[true=true,b.length<=900]}
theorem vX {W:P1}:(nY w W Q a c q k d t u v B e).Runs w:=by intro b f g;kernel_rfl
def k8 (t u v a:P2):Nat->Tok:=bl v [(7,(a 1))]
def nZ (w:World) (W Q r b e:P1) (q:Bool) (k:Int) (d:Addr) (t u v:P2) (B:P8) (f:P6):a7:={
 B:=λa=>B,Hd:=f,O:=oT [] (aC [([],(mu w b 32 r))]),k:=6,nn:=0,Pm:=2,H:=aQ 0x18f8cd182ce8c06bcd18306bd9fb8ea8fc0e6dd0600,N:=328,
 cF:=λa=>fg (a 5),oF:=λa=>[ax (a 1),ay w.2 t (a 3) (a 2) d W Q (some [32]) [],a6 k,aj (a 4),ao w.2 u b (ai b (32::r)),bY w.2 v (a 0) q (some e)],
 uF:=λa n c=>[ax (a 1),ay w.2 (cM t u v c) (a 3) (a 2) d W Q (some [32]) [],a6 k,aj (a 4),ao w.2 (pV t u v c) b (ai b r),bY w.2 (k8 t u v c) (a 0) q (some [32])],nF:=λa n c=>[],rF:=λa n c=>.again (fg (a 5)),idx:=[],Pn:=[8,7],
 facts:=[true=true,b.length<=900,(32::r) <:+ b]}
theorem qa {W:P1}:(nZ w W Q r a c q k d t u v B e).Runs w:=by intro b f g;kernel_rfl
def sW (w:World) (W Q:P1) (c:Nat) (r b f:P1) (q:Bool) (k:Int) (e:Addr) (t u v:P2) (B:P8) (g:P6):a7:={
 B:=λa=>B,Hd:=g,O:=oT [] (aC [([],(mu w b c r))]),k:=6,nn:=0,Pm:=3,H:=aQ 0x19c069cbd02ce8f97ce97ce8406bcd1df06bd9fb8ea8fc0e6dd0600,N:=367,
 cF:=λa=>fg (a 5),oF:=λa=>[ax (a 1),ay w.2 t (a 3) (a 2) e W Q (some [32]) [],a6 k,aj (a 4),ao w.2 u b (ai b (c::r)),bY w.2 v (a 0) q (some f)],
 uF:=λa n d=>[ax (a 1),ay w.2 (iS t u v d) (a 3) (a 2) e W Q (some [97]) [c],a6 k,aj (a 4),ao w.2 (fU t u v d) b (ai b r),bY w.2 (k8 t u v d) (a 0) q (some [c])],nF:=λa n d=>[],rF:=λa n d=>.again (fg (a 5)),idx:=[],Pn:=[23,7,8],
 facts:=[fI (mk W) (mk [c])=true,fI (mk []) (mk [c])=false,fI (mk [32]) (mk [c])=false,aD (mk [c]),((mk [c]).cps.toList==(mk [10]).cps.toList)=false,true=true,b.length<=900,(c::r) <:+ b]}
theorem vY {W:P1}:(sW w W Q c r a d q k e t u v B f).Runs w:=by intro b g h;kernel_rfl
def iV (w:World) (W r b e:P1) (q:Bool) (k:Int) (d:Addr) (t u v:P2) (B:P8) (f:P6):a7:={
 B:=λa=>B,Hd:=f,O:=oT [] (aC [([],(mu w b 34 r))]),k:=6,nn:=0,Pm:=2,H:=aQ 0x19c989c988f82ce828b08b0dd9897ce8f82ce82ce8c06bcd18306bd9fb8ea8fc0e6dd0600,N:=489,
 cF:=λa=>fg (a 5),oF:=λa=>[ax (a 1),ay w.2 t (a 3) (a 2) d W [34] (some [32]) [],a6 k,aj (a 4),ao w.2 u b (ai b (34::r)),bY w.2 v (a 0) q (some e)],
 uF:=λa n c=>[ax (a 1),ay w.2 (pY t u v c) (a 3) (a 2) d W [34] (some [34]) [34],a6 k,aj (a 4),ao w.2 (c8 t u v c) b (ai b r),bY w.2 (iU t u v c) (a 0) q (some [34])],nF:=λa n c=>[],rF:=λa n c=>.again (fg (a 5)),idx:=[],Pn:=[7,8],
 facts:=[fI (mk W) (mk [34])=false,true=true,b.length<=900,(34::r) <:+ b]}
theorem k9 {W:P1}:(iV w W r a c q k d t u v B e).Runs w:=by intro b f g;kernel_rfl
def n5 (w:World) (W Q:P1) (c:Nat) (r b f:P1) (q:Bool) (k:Int) (e:Addr) (t u v:P2) (B:P8) (g:P6):a7:={
 B:=λa=>B,Hd:=g,O:=oT [] (aC [([],(mu w b c r))]),k:=6,nn:=0,Pm:=2,H:=aQ 0x18f9c988f97ce978b08b0dd9897ce8f97ce97ce8406bcd1df06bd9fb8ea8fc0e6dd0600,N:=466,
 cF:=λa=>fg (a 5),oF:=λa=>[ax (a 1),ay w.2 t (a 3) (a 2) e W Q (some [32]) [],a6 k,aj (a 4),ao w.2 u b (ai b (c::r)),bY w.2 v (a 0) q (some f)],
 uF:=λa n d=>[ax (a 1),ay w.2 (dV t u v d) (a 3) (a 2) e W Q (some [32]) [c],a6 k,aj (a 4),ao w.2 (c8 t u v d) b (ai b r),bY w.2 (iU t u v d) (a 0) q (some [c])],nF:=λa n d=>[],rF:=λa n d=>.end_ (.ok .next),idx:=[],Pn:=[7,8],
 facts:=[aD (mk [c]),fI (mk Q) (mk [c])=false,fI (mk []) (mk [c])=false,fI (mk W) (mk [c])=false,fI (mk []) (mk [c])=false,fI (mk [32]) (mk [c])=false,aD (mk [c]),((mk [c]).cps.toList==(mk [10]).cps.toList)=false,true=true,b.length<=900,(c::r) <:+ b]}
theorem vZ {W:P1}:(n5 w W Q c r a d q k e t u v B f).Runs w:=by intro b g h;kernel_rfl
def zj (t u v a:P2):Nat->Tok:=bl v [(7,(a 3))]
def rJ (w:World) (W c r b f:P1) (q:Bool) (k:Int) (e:Addr) (t u v:P2) (B:P8) (g:P6):a7:={
 B:=λa=>B,Hd:=g,O:=oT [mk (c++[34])] (aC [([],(mu w b 34 r))]),k:=6,nn:=0,Pm:=4,H:=aQ 0x9c069cc4068fd1068c06988c8fd1d18306bd9fb8ea8fc0e6dd0600,N:=403,
 cF:=λa=>fg (a 5),oF:=λa=>[ax (a 1),ay w.2 t (a 3) (a 2) e W [34] (some [34]) (c),a6 k,aj (a 4),ao w.2 u b (ai b (34::r)),bY w.2 v (a 0) q (some f)],
 uF:=λa n d=>[ax (a 1),ay w.2 (iS t u v d) (a 3) (a 2) e W [34] (some [32]) (c++[34]),a6 k,aj (a 4),ao w.2 (fU t u v d) b (ai b r),bY w.2 (zj t u v d) (a 0) true (some [34])],nF:=λa n d=>[],rF:=λa n d=>.end_ (.ok .next),idx:=[],Pn:=[27,24,8,7],
 facts:=[aD ((mk c)++(mk [34])),(mk c)++(mk [34])=(mk (c++[34])),true=true,b.length<=900,(34::r) <:+ b]}
theorem zk {W:P1}:(rJ w W a r b d q k e t u v B f).Runs w:=by intro c g h;kernel_rfl
def kC (t u v a:P2):Nat->Tok:=bl v [(7,(a 2))]
def lb (w:World) (W d:P1) (c:Nat) (r b g:P1) (q:Bool) (k:Int) (f:Addr) (t u v:P2) (B:P8) (h:P6):a7:={
 B:=λa=>B,Hd:=h,O:=oT [mk (d++[c])] (aC [([],(mu w b c r))]),k:=6,nn:=0,Pm:=3,H:=aQ 0x19cc4068f8fdfce8406988c8fd1d1df06bd9fb8ea8fc0e6dd0600,N:=363,
 cF:=λa=>fg (a 5),oF:=λa=>[ax (a 1),ay w.2 t (a 3) (a 2) f W [34] (some [34]) (d),a6 k,aj (a 4),ao w.2 u b (ai b (c::r)),bY w.2 v (a 0) q (some g)],
 uF:=λa n e=>[ax (a 1),ay w.2 (dV t u v e) (a 3) (a 2) f W [34] (some [34]) (d++[c]),a6 k,aj (a 4),ao w.2 (c8 t u v e) b (ai b r),bY w.2 (kC t u v e) (a 0) true (some [c])],nF:=λa n e=>[],rF:=λa n e=>.again (fg (a 5)),idx:=[],Pn:=[23,8,7],
 facts:=[aD ((mk d)++(mk [c])),(mk d)++(mk [c])=(mk (d++[c])),((mk [c]).cps.toList==(mk [34]).cps.toList)=false,aD (mk [c]),((mk [c]).cps.toList==(mk [10]).cps.toList)=false,true=true,b.length<=900,(c::r) <:+ b]}
theorem n6 {W:P1}:(lb w W a c r b e q k f t u v B g).Runs w:=by intro d h i;kernel_rfl
def rK (w:World) (W Q b:P1) (q:Bool) (k:Int) (d:Addr) (t u v:P2) (B:P8) (e:P6):a7:={
 B:=λa=>B,Hd:=e,O:=oT [] (aC [([],(uR w b))]),k:=6,nn:=0,Pm:=3,H:=aQ 0x9c06d18306bd9fb8ea8fc0e6dd0600,N:=217,
 cF:=λa=>fg (a 5),oF:=λa=>[ax (a 1),ay w.2 t (a 3) (a 2) d W Q none [],a6 k,aj (a 4),ao w.2 u b (ai b []),bY w.2 v (a 0) q none],
 uF:=λa n c=>[ax (a 1),ay w.2 (dV t u v c) (a 3) (a 2) d W Q none [],a6 k,aj (a 4),ao w.2 (c7 t u v c) b (ai b []),bY w.2 (pW t u v c) (a 0) q (some [])],nF:=λa n c=>[],rF:=λa n c=>.end_ (.ok .next),idx:=[],Pn:=[14,9,7],
 facts:=[true=true,b.length<=900]}
theorem zl {W:P1}:(rK w W Q a q k c t u v B d).Runs w:=by intro b e f;kernel_rfl
def n7 (w:World) (W Q:P1) (x:Nat) (l b e:P1) (q:Bool) (k:Int) (d:Addr) (t u v:P2) (B:P8) (f:P6):a7:={
 B:=λa=>B,Hd:=f,O:=oT [] (aC [([],(uR w b))]),k:=6,nn:=0,Pm:=1,H:=aQ 0x9c068c0607d5b08f828f8f978fd1d18306bd9fb8ea8fc0e6dd0600,N:=366,
 cF:=λa=>fg (a 5),oF:=λa=>[ax (a 1),ay w.2 t (a 3) (a 2) d W Q (some [97]) (x::l),a6 k,aj (a 4),ao w.2 u b (ai b []),bY w.2 v (a 0) q (some e)],
 uF:=λa n c=>[ax (a 1),ay w.2 (cM t u v c) (a 3) (a 2) d W Q none (x::l),a6 k,aj (a 4),ao w.2 (c7 t u v c) b (ai b []),bY w.2 (iU t u v c) (a 0) q (some [])],nF:=λa n c=>[],rF:=λa n c=>.end_ (.ok .next),idx:=[],Pn:=[7],
 facts:=[([Qc [97],Qc [99]]).all dm=true,([Qc [97],Qc [99]]).any (aU (mk [97]))=true,fI (mk Q) (mk [97])=false,true=true,b.length<=900]}
theorem v5 {W:P1}:(n7 w W Q x l a c q k d t u v B e).Runs w:=by intro b f g;kernel_rfl
def qb (t u v a:P2):Nat->Tok:=bl t [(23,(a 0))]
def n8 (w:World) (W Q:P1) (x:Nat) (l r b e:P1) (q:Bool) (k:Int) (d:Addr) (t u v:P2) (B:P8) (f:P6):a7:={
 B:=λa=>B,Hd:=f,O:=oT [] (aC [([],(mu w b 32 r))]),k:=6,nn:=0,Pm:=3,H:=aQ 0x18f9c06bc82ce8c0607d5b08f828f8f978fd1d18306bd9fb8ea8fc0e6dd0600,N:=441,
 cF:=λa=>fg (a 5),oF:=λa=>[ax (a 1),ay w.2 t (a 3) (a 2) d W Q (some [97]) (x::l),a6 k,aj (a 4),ao w.2 u b (ai b (32::r)),bY w.2 v (a 0) q (some e)],
 uF:=λa n c=>[ax (a 1),ay w.2 (qb t u v c) (a 3) (a 2) d W Q (some [32]) (x::l),a6 k,aj (a 4),ao w.2 (c8 t u v c) b (ai b r),bY w.2 (kC t u v c) (a 0) q (some [32])],nF:=λa n c=>[],rF:=λa n c=>.end_ (.ok .next),idx:=[],Pn:=[28,8,7],
 facts:=[aD (mk (x::l)),([Qc [97],Qc [99]]).all dm=true,([Qc [97],Qc [99]]).any (aU (mk [97]))=true,fI (mk Q) (mk [97])=false,true=true,b.length<=900,(32::r) <:+ b]}
theorem v7 {W:P1}:(n8 w W Q x l r a c q k d t u v B e).Runs w:=by intro b f g;kernel_rfl
def sX (w:World) (W Q:P1) (x:Nat) (l:P1) (c:Nat) (r b f:P1) (q:Bool) (k:Int) (e:Addr) (t u v:P2) (B:P8) (g:P6):a7:={
 B:=λa=>B,Hd:=g,O:=oT [mk (x::(l++[c]))] (aC [([],(mu w b c r))]),k:=6,nn:=0,Pm:=3,H:=aQ 0x19cc4068f0002ce8fd197ce97ce840607d5b08f828f8f978fd1d1df06bd9fb8ea8fc0e6dd0600,N:=518,
 cF:=λa=>fg (a 5),oF:=λa=>[ax (a 1),ay w.2 t (a 3) (a 2) e W Q (some [97]) (x::l),a6 k,aj (a 4),ao w.2 u b (ai b (c::r)),bY w.2 v (a 0) q (some f)],
 uF:=λa n d=>[ax (a 1),ay w.2 (dV t u v d) (a 3) (a 2) e W Q (some [97]) (x::(l++[c])),a6 k,aj (a 4),ao w.2 (c8 t u v d) b (ai b r),bY w.2 (kC t u v d) (a 0) q (some [c])],nF:=λa n d=>[],rF:=λa n d=>.again (fg (a 5)),idx:=[],Pn:=[32,8,7],
 facts:=[aD ((mk (x::l))++(mk [c])),(mk (x::l))++(mk [c])=(mk (x::(l++[c]))),fI (mk W) (mk [c])=true,fI (mk []) (mk [c])=false,fI (mk [32]) (mk [c])=false,aD (mk [c]),([Qc [97],Qc [99]]).all dm=true,([Qc [97],Qc [99]]).any (aU (mk [97]))=true,fI (mk Q) (mk [97])=false,((mk [c]).cps.toList==(mk [10]).cps.toList)=false,true=true,b.length<=900,(c::r) <:+ b]}
theorem v8 {W:P1}:(sX w W Q x l c r a d q k e t u v B f).Runs w:=by intro b g h;kernel_rfl
def sY (w:World) (W Q:P1) (x:Nat) (l:P1) (c:Nat) (r b f:P1) (q:Bool) (k:Int) (e:Addr) (t u v:P2) (B:P8) (g:P6):a7:={
 B:=λa=>B,Hd:=g,O:=oT [mk (x::(l++[c]))] (aC [([],(mu w b c r))]),k:=6,nn:=0,Pm:=3,H:=aQ 0x19cc4068f0002ce97ce8fd197ce97ce840607d5b08f828f8f978fd1d1df06bd9fb8ea8fc0e6dd0600,N:=541,
 cF:=λa=>fg (a 5),oF:=λa=>[ax (a 1),ay w.2 t (a 3) (a 2) e W Q (some [97]) (x::l),a6 k,aj (a 4),ao w.2 u b (ai b (c::r)),bY w.2 v (a 0) q (some f)],
 uF:=λa n d=>[ax (a 1),ay w.2 (dV t u v d) (a 3) (a 2) e W Q (some [97]) (x::(l++[c])),a6 k,aj (a 4),ao w.2 (c8 t u v d) b (ai b r),bY w.2 (kC t u v d) (a 0) q (some [c])],nF:=λa n d=>[],rF:=λa n d=>.again (fg (a 5)),idx:=[],Pn:=[33,8,7],
 facts:=[aD ((mk (x::l))++(mk [c])),(mk (x::l))++(mk [c])=(mk (x::(l++[c]))),fI (mk Q) (mk [c])=true,fI (mk W) (mk [c])=false,fI (mk []) (mk [c])=false,fI (mk [32]) (mk [c])=false,aD (mk [c]),([Qc [97],Qc [99]]).all dm=true,([Qc [97],Qc [99]]).any (aU (mk [97]))=true,fI (mk Q) (mk [97])=false,((mk [c]).cps.toList==(mk [10]).cps.toList)=false,true=true,b.length<=900,(c::r) <:+ b]}
theorem v9 {W:P1}:(sY w W Q x l c r a d q k e t u v B f).Runs w:=by intro b g h;kernel_rfl
def wa (t u v a:P2):Nat->Tok:=bl aO [(2,(a 1))]
def n9 (w:World) (W Q:P1) (x:Nat) (l:P1) (c:Nat) (r b f:P1) (q:Bool) (k:Int) (e:Addr) (t u v:P2) (B:P8) (g:P6):a7:={
 B:=λa=>B,Hd:=g,O:=oT [] (aC [([],(mu w b c r))]),k:=6,nn:=0,Pm:=3,H:=aQ 0x18f9c06bc03a0a097a7a0a08fc009a1dd068f97ce97ce8fd197ce97ce840607d5b08f828f8f978fd1d1df06bd9fb8ea8fc0e6dd0600,N:=692,
 cF:=λa=>fg (a 5),oF:=λa=>[ax (a 1),ay w.2 t (a 3) (a 2) e W Q (some [97]) (x::l),a6 k,aj (a 4),ao w.2 u b (ai b (c::r)),bY w.2 v (a 0) q (some f)],
 uF:=λa n d=>[ax (a 1),ay w.2 (qb t u v d) (a 3) (a 2) e W Q (some [32]) (x::l),c5 k (.str (mk [c]) ((wa t u v d) 2)),aj (a 4),ao w.2 (fU t u v d) b (ai b r),bY w.2 (k8 t u v d) (a 0) q (some [c])],nF:=λa n d=>[],rF:=λa n d=>.end_ (.ok .next),idx:=[],Pn:=[41,7,8],
 facts:=[aD (mk (x::l)),fI (mk Q) (mk [c])=false,fI (mk W) (mk [c])=false,fI (mk []) (mk [c])=false,fI (mk [32]) (mk [c])=false,aD (mk [c]),([Qc [97],Qc [99]]).all dm=true,([Qc [97],Qc [99]]).any (aU (mk [97]))=true,fI (mk Q) (mk [97])=false,((mk [c]).cps.toList==(mk [10]).cps.toList)=false,true=true,b.length<=900,(c::r) <:+ b]}
theorem wb {W:P1}:(n9 w W Q x l c r a d q k e t u v B f).Runs w:=by intro b g h;kernel_rfl
section
noncomputable abbrev ip:List Prop->Prop
 |[]=>True
 |p::l=>p/\ip l
theorem ag:∀{l:List Prop},ip l->∀x∈l,x
 |[],_,_,h=>by cases h
 |_::_,⟨a,b⟩,x,h=>by
  rcases List.mem_cons.mp h with rfl|h
  ·exact a
  ·exact ag b x h
theorem zm {c:Nat} {l:P1} (h:c∈l):fI (mk l) (mk [c])=true:=by rw [vk];exact decide_eq_true h
theorem bK {c:Nat} {l:P1} (h:c∉l):fI (mk l) (mk [c])=false:=by rw [vk];exact decide_eq_false h
theorem eU {c d:Nat} (h:c≠d):((mk [c]).cps.toList==(mk [d]).cps.toList)=false:=by
 show ([c]==[d])=false;simp [h]
theorem cZ {l m:P1} (h:l.length+m.length<=1000):aD (mk l++mk m):=by rw [bu];exact au (by simpa using h)
structure eN where
 w:P1
 st:P9
 r:P1
 pb:Option Nat
 nx:P1
 qd:Bool
noncomputable def j4 (W Q:P1) (q:Bool):List Nat->List Nat->eN
 |tok,[]=>⟨tok,none,[],none,[],q⟩
 |tok,c::r=>if c=32 then ⟨tok,some [32],r,none,[32],q⟩ else if c∈W\/c∈Q then j4 W Q q (tok++[c]) r else ⟨tok,some [32],r,some c,[c],q⟩
noncomputable def gX:List Nat->List Nat->eN
 |tok,[]=>⟨tok,none,[],none,[],true⟩
 |tok,c::r=>if c=34 then ⟨tok++[34],some [32],r,none,[34],true⟩ else gX (tok++[c]) r
noncomputable def lg (W Q:P1) (q:Bool):List Nat->eN
 |[]=>⟨[],none,[],none,[],q⟩
 |c::r=>if c=32 then lg W Q q r else if c∈W then j4 W Q q [c] r else if c∈Q then gX [c] r else ⟨[c],some [32],r,none,[c],q⟩
noncomputable def rL (W Q:P1):List Nat->Prop
 |[]=>True
 |c::r=>if c=32 then rL W Q r else if c∈W then True else if c∈Q then 34∈r else True
def cC (p:Option Nat) (k:Int) (t:Tok):Obj:={cls:=.type "collections.deque",data:=.fields (match p with
 |none=>#[.none,.int k 0]
 |some c=>#[.none,.int (k+1) 0,.str (mk [c]) t])}
def qc (w:World) (t u v:P2) (k:Int) (d:Addr) (W Q:P1) (e:P9) (c b r:P1) (q:Bool) (f:P9) (a:P4):P7:=
 [ax (a 1),ay w.2 t (a 3) (a 2) d W Q e c,a6 k,aj (a 4),ao w.2 u b (ai b r),bY w.2 v (a 0) q f]
def Nr (w:World) (c:P2) (k:Int) (d:Addr) (W Q b:P1) (o:eN) (a:P4):P7:=
 [ax (a 1),ay w.2 (sh 0 c) (a 3) (a 2) d W Q o.st o.w,cC o.pb k (c 58),aj (a 4),ao w.2 (sh 40 c) b (ai b o.r),bY w.2 (sh 48 c) (a 0) o.qd (some o.nx)]
noncomputable def zo (t u v:P2) (x:Tok) (i:Nat):Tok:=match Nat.ble 58 i with
 |true=>x
 |false=>match Nat.ble 48 i with
  |true=>v (i-48)
  |false=>match Nat.ble 40 i with
   |true=>u (i-40)
   |false=>t i
noncomputable def zp (l:P7) (i:Nat):Obj:=match l.drop i with
 |o::_=>o
 |[]=>default
def sZ (a:P7):Nat->Tok:=zo (aE (zp a 1)) (aE (zp a 4)) (aE (zp a 5)) (aE (zp a 2) 2)
def A3 (w:World) (F:aA) (B:P8) (H:P6) (a:P4) (c:P7) (k:Int) (d:Addr) (W Q b:P1) (o:eN):Prop:=
 ah aX w F 50 500 B H (fg (ae 6 a 5)) (ab a c) (λY e=>Nr w e k d W Q b o (ae 6 a)) 0 59 (λY Y=>[]) (λY Y=>.end_ (.ok .next)) (λY Y=>[])
theorem mA {w:World} {F:aA} {X:aY} {a:List Str} (h:∀b,Le F b->∀c d kn,(X c d kn).Ok w b):bH w F (oT a (aC [([],X)])):=
 bh (aI ⟨h,trivial⟩)
section
variable {w:World} {F:aA} {B:P8} {H:P6} {a:P4} {t u v:P2} {fa:Addr} {W Q b l f r tok:P1} {x c:Nat} {q:Bool} {k:Int}
theorem oE (e:Le (top w.2) F) {d:List Str}:bH w F (oT d (aC [([],uR w b)])):=mA λY g c h kn=>il (e.trans g) c h kn
theorem oS (e:Le (top w.2) F) {d:List Str}:bH w F (oT d (aC [([],mu w b c r)])):=mA λY g c h kn=>CQ (e.trans g) c h kn
theorem CR (d:Le (top w.2) F) (e:b.length<=900) (g:97∉Q):A3 w F B H a (qc w t u v k fa W Q (some [97]) (x::l) b [] q (some f) (ae 6 a)) k fa W Q b ⟨x::l,none,[],none,[],q⟩:=
 ah.Pt (λY h=>sZ ((n7 w W Q x l b f q k fa t u v B H).uF (ae 6 a) (ae 0 a) h)) ((n7 w W Q x l b f q k fa t u v B H).Pu d (oE d) v5 (ag ⟨rfl,rfl,bK g,rfl,e,trivial⟩) a)
  (λY Y=>by kernel_rfl) (λY Y=>rfl) (λY Y=>rfl) (λY Y=>rfl)
theorem Ga (d:Le (top w.2) F) (e:b.length<=900) (j:l.length<=900) (g:32::r <:+ b) (h:97∉Q):A3 w F B H a (qc w t u v k fa W Q (some [97]) (x::l) b (32::r) q (some f) (ae 6 a)) k fa W Q b ⟨x::l,some [32],r,none,[32],q⟩:=
 ah.Pt (λY i=>sZ ((n8 w W Q x l r b f q k fa t u v B H).uF (ae 6 a) (ae 0 a) i)) ((n8 w W Q x l r b f q k fa t u v B H).Pu d (oS d) v7 (ag ⟨au (by simp;lia),rfl,rfl,bK h,rfl,e,g,trivial⟩) a)
  (λY Y=>by kernel_rfl) (λY Y=>rfl) (λY Y=>rfl) (λY Y=>rfl)
theorem Gb (d:Le (top w.2) F) (e:b.length<=900) (p:l.length<=900) (g:c::r <:+ b) (h:97∉Q) (i:c∉Q) (j:c∉W) (m:c≠32) (n:c≠10):A3 w F B H a (qc w t u v k fa W Q (some [97]) (x::l) b (c::r) q (some f) (ae 6 a)) k fa W Q b ⟨x::l,some [32],r,some c,[c],q⟩:=
 ah.Pt (λY o=>sZ ((n9 w W Q x l c r b f q k fa t u v B H).uF (ae 6 a) (ae 0 a) o)) ((n9 w W Q x l c r b f q k fa t u v B H).Pu d (oS d) wb (ag ⟨au (by simp;lia),bK i,bK j,bK (by simp),bK (by simpa using m),au (by simp),rfl,rfl,bK h,eU n,rfl,e,g,trivial⟩) a)
  (λY Y=>by kernel_rfl) (λY Y=>rfl) (λY Y=>rfl) (λY Y=>rfl)
theorem bb {c:Nat} {r b:P1} (h:c::r <:+ b):r <:+ b:=(List.suffix_cons c r).trans h
theorem iW {r b:P1} (h:r <:+ b):r.length<=b.length:=h.length_le
theorem iX {c:Nat} {r b:P1} (h:c::r <:+ b):c∈b:=h.subset (List.mem_cons_self)
theorem kD (g:b.length<=900) (i:10∉b) (j:97∉Q):∀(r:P1) {F:aA} (_:Le (top w.2) F) {t u v:P2} {l f:P1},r <:+ b->l.length+r.length<=900->
  A3 w F B H a (qc w t u v k fa W Q (some [97]) (x::l) b r q (some f) (ae 6 a)) k fa W Q b (j4 W Q q (x::l) r)
 |[],F,d,t,u,v,l,f,_,_=>CR d g j
 |c::r,F,d,t,u,v,l,f,m,z=>by
  simp only [List.length_cons] at z;unfold j4;by_cases n:c=32
  ·subst n
   rw [if_pos rfl];exact Ga d g (by lia) m j
  ·rw [if_neg n]
   have s:c≠10:=λe=>i (e▸iX m);by_cases o:c∈W
   ·rw [if_pos (.inl o)]
    exact ah.seq ((sX w W Q x l c r b f q k fa t u v B H).Pu d (oS d) v8 (ag ⟨cZ (by simp;lia),bu _ _,zm o,bK (by simp),bK (by simpa using n),au (by simp),rfl,rfl,bK j,eU s,rfl,g,m,trivial⟩) a) (λY Y=>rfl) (λY Y=>rfl)
     λA y C D=>kD g i j r (d.trans y) (bb m) (by simp;lia)
   ·by_cases p:c∈Q
    ·rw [if_pos (.inr p)]
     exact ah.seq ((sY w W Q x l c r b f q k fa t u v B H).Pu d (oS d) v9 (ag ⟨cZ (by simp;lia),bu _ _,zm p,bK o,bK (by simp),bK (by simpa using n),au (by simp),rfl,rfl,bK j,eU s,rfl,g,m,trivial⟩) a) (λY Y=>rfl) (λY Y=>rfl)
      λA y C D=>kD g i j r (d.trans y) (bb m) (by simp;lia)
    ·rw [if_neg (by rintro (h|h);exact o h;exact p h)]
     exact Gb d g (by lia) m j p o n s
theorem wd (d:Le (top w.2) F) (g:b.length<=900) (i:tok.length<=900) (h:34::r <:+ b):∀f:P9,A3 w F B H a (qc w t u v k fa W [34] (some [34]) tok b (34::r) q f (ae 6 a)) k fa W [34] b ⟨tok++[34],some [32],r,none,[34],true⟩
 |none=>ah.Pt (λY e=>sZ ((rI w W tok r b q k fa t u v B H).uF (ae 6 a) (ae 0 a) e)) ((rI w W tok r b q k fa t u v B H).Pu d (oS d) zh (ag ⟨cZ (by simp;lia),bu _ _,rfl,g,h,trivial⟩) a)
   (λY Y=>by kernel_rfl) (λY Y=>rfl) (λY Y=>rfl) (λY Y=>rfl)
 |some f=>ah.Pt (λY e=>sZ ((rJ w W tok r b f q k fa t u v B H).uF (ae 6 a) (ae 0 a) e)) ((rJ w W tok r b f q k fa t u v B H).Pu d (oS d) zk (ag ⟨cZ (by simp;lia),bu _ _,rfl,g,h,trivial⟩) a)
   (λY Y=>by kernel_rfl) (λY Y=>rfl) (λY Y=>rfl) (λY Y=>rfl)
theorem iY (j:b.length<=900) (d:10∉b):∀(r:P1) {F:aA} (_:Le (top w.2) F) {t u v:P2} {tok:P1} {q:Bool} (f:P9),r <:+ b->tok.length+r.length<=900->34∈r->
  A3 w F B H a (qc w t u v k fa W [34] (some [34]) tok b r q f (ae 6 a)) k fa W [34] b (gX tok r)
 |[],_,_,_,_,_,_,_,_,_,_,h=>by cases h
 |c::r,F,g,t,u,v,tok,q,f,i,s,y=>by
  simp only [List.length_cons] at s;unfold gX;by_cases m:c=34
  ·subst m
   rw [if_pos rfl];exact wd g j (by lia) i f
  ·rw [if_neg m]
   have p:c≠10:=λe=>d (e▸iX i);have n:34∈r:=by rcases List.mem_cons.mp y with e|e;exact absurd e.symm m;exact e
   cases f with
   |none=>
    exact ah.seq ((k7 w W tok c r b q k fa t u v B H).Pu g (oS g) nX (ag ⟨cZ (by simp;lia),bu _ _,eU m,au (by simp),eU p,rfl,j,i,trivial⟩) a) (λY Y=>rfl) (λY Y=>rfl)
     λz o A C=>iY j d r (g.trans o) (some [c]) (bb i) (by simp;lia) n
   |some f=>
    exact ah.seq ((lb w W tok c r b f q k fa t u v B H).Pu g (oS g) n6 (ag ⟨cZ (by simp;lia),bu _ _,eU m,au (by simp),eU p,rfl,j,i,trivial⟩) a) (λY Y=>rfl) (λY Y=>rfl)
     λz o A C=>iY j d r (g.trans o) (some [c]) (bb i) (by simp;lia) n
def OD (w:World) (F:aA) (B:P8) (H:P6) (a:P4) (e:P7) (k:Int) (fa:Addr) (W b tok f:P1):Prop:=
 ah aX w F 50 500 B H (fg (ae 6 a 5)) (ab a e) (λY d=>qc w (sh 0 d) (sh 40 d) (sh 48 d) k fa W [34] (some [34]) tok b [] true (some f) (ae 6 a)) 0 59 (λY Y=>[]) (λY Y=>.again (fg (ae 6 a 5))) (λY Y=>[])
theorem iZ (j:b.length<=900) (h:10∉b):∀(r:P1) (c:Nat) {F:aA} (_:Le (top w.2) F) {t u v:P2} {tok:P1} {q:Bool} (f:P9),c::r <:+ b->tok.length+r.length<900->34∉c::r->
  OD w F B H a (qc w t u v k fa W [34] (some [34]) tok b (c::r) q f (ae 6 a)) k fa W b (tok++c::r) [(c::r).getLastD 0]
 |[],c,F,g,t,u,v,tok,q,f,i,z,s=>by
  have m:c≠10:=λe=>h (e▸iX i);have n:c≠34:=λe=>s (by rw [e];simp)
  cases f with
  |none=>
   exact ah.Pt (λY o=>sZ ((k7 w W tok c [] b q k fa t u v B H).uF (ae 6 a) (ae 0 a) o)) ((k7 w W tok c [] b q k fa t u v B H).Pu g (oS g) nX (ag ⟨cZ (by simp;lia),bu _ _,eU n,au (by simp),eU m,rfl,j,i,trivial⟩) a)
    (λY Y=>by kernel_rfl) (λY Y=>rfl) (λY Y=>rfl) (λY Y=>rfl)
  |some f=>
   exact ah.Pt (λY o=>sZ ((lb w W tok c [] b f q k fa t u v B H).uF (ae 6 a) (ae 0 a) o)) ((lb w W tok c [] b f q k fa t u v B H).Pu g (oS g) n6 (ag ⟨cZ (by simp;lia),bu _ _,eU n,au (by simp),eU m,rfl,j,i,trivial⟩) a)
    (λY Y=>by kernel_rfl) (λY Y=>rfl) (λY Y=>rfl) (λY Y=>rfl)
 |d::r,c,F,g,t,u,v,tok,q,f,i,z,s=>by
  simp only [List.length_cons] at z;have m:c≠10:=λe=>h (e▸iX i);have n:c≠34:=λe=>s (by rw [e];simp)
  have p:34∉d::r:=λe=>s (List.mem_cons_of_mem _ e);have A:tok++c::d::r=(tok++[c])++d::r:=by simp
  have C:(c::d::r).getLastD 0=(d::r).getLastD 0:=by simp [List.getLastD_cons]
  rw [A,C];cases f with
  |none=>
   exact ah.seq ((k7 w W tok c (d::r) b q k fa t u v B H).Pu g (oS g) nX (ag ⟨cZ (by simp;lia),bu _ _,eU n,au (by simp),eU m,rfl,j,i,trivial⟩) a) (λY Y=>rfl) (λY Y=>rfl)
     λD y E o=>iZ j h r d (g.trans y) (some [c]) (bb i) (by simp;lia) p
  |some f=>
   exact ah.seq ((lb w W tok c (d::r) b f q k fa t u v B H).Pu g (oS g) n6 (ag ⟨cZ (by simp;lia),bu _ _,eU n,au (by simp),eU m,rfl,j,i,trivial⟩) a) (λY Y=>rfl) (λY Y=>rfl)
     λD y E o=>iZ j h r d (g.trans y) (some [c]) (bb i) (by simp;lia) p
theorem oa (h:b.length<=900) (i:10∉b) (D:Q=[]\/Q=[34]):∀(r:P1) {F:aA} (_:Le (top w.2) F) {t u v:P2} (f:P9),r <:+ b->rL W Q r->
  A3 w F B H a (qc w t u v k fa W Q (some [32]) [] b r q f (ae 6 a)) k fa W Q b (lg W Q q r)
 |[],F,d,t,u,v,f,g,_=>by
  cases f with
  |none=>
   exact ah.Pt (λY j=>sZ ((nU w W Q b q k fa t u v B H).uF (ae 6 a) (ae 0 a) j)) ((nU w W Q b q k fa t u v B H).Pu d (oE d) vT (ag ⟨rfl,h,trivial⟩) a)
     (λY Y=>by kernel_rfl) (λY Y=>rfl) (λY Y=>rfl) (λY Y=>rfl)
  |some f=>
   exact ah.Pt (λY j=>sZ ((nY w W Q b f q k fa t u v B H).uF (ae 6 a) (ae 0 a) j)) ((nY w W Q b f q k fa t u v B H).Pu d (oE d) vX (ag ⟨rfl,h,trivial⟩) a)
     (λY Y=>by kernel_rfl) (λY Y=>rfl) (λY Y=>rfl) (λY Y=>rfl)
 |c::r,F,d,t,u,v,f,g,n=>by
  have y:=iW g;simp only [List.length_cons] at y;have z:97∉Q:=by rcases D with rfl|rfl<;>simp
  unfold lg;unfold rL at n;by_cases p:c=32
  ·subst p
   rw [if_pos rfl] at n⊢;cases f with
   |none=>
    exact ah.seq ((nV w W Q r b q k fa t u v B H).Pu d (oS d) pX (ag ⟨rfl,h,g,trivial⟩) a) (λY Y=>rfl) (λY Y=>rfl)
      λA m C j=>oa h i D r (d.trans m) (some [32]) (bb g) n
   |some f=>
    exact ah.seq ((nZ w W Q r b f q k fa t u v B H).Pu d (oS d) qa (ag ⟨rfl,h,g,trivial⟩) a) (λY Y=>rfl) (λY Y=>rfl)
      λA m C j=>oa h i D r (d.trans m) (some [32]) (bb g) n
  ·rw [if_neg p] at n⊢
   have E:c≠10:=λe=>i (e▸iX g);by_cases o:c∈W
   ·rw [if_pos o]
    cases f with
    |none=>
     exact ah.seq ((sV w W Q c r b q k fa t u v B H).Pu d (oS d) vV (ag ⟨zm o,bK (by simp),bK (by simpa using p),au (by simp),eU E,rfl,h,g,trivial⟩) a) (λY Y=>rfl) (λY Y=>rfl)
       λA m C j=>kD (x:=c) (l:=[]) h i z r (d.trans m) (bb g) (by simp;lia)
    |some f=>
     exact ah.seq ((sW w W Q c r b f q k fa t u v B H).Pu d (oS d) vY (ag ⟨zm o,bK (by simp),bK (by simpa using p),au (by simp),eU E,rfl,h,g,trivial⟩) a) (λY Y=>rfl) (λY Y=>rfl)
       λA m C j=>kD (x:=c) (l:=[]) h i z r (d.trans m) (bb g) (by simp;lia)
   ·rw [if_neg o] at n⊢
    by_cases s:c∈Q
    ·rw [if_pos s] at n⊢
     have G:Q=[34]:=by rcases D with rfl|rfl;(cases s);rfl
     subst G;have I:c=34:=by simpa using s
     subst I;cases f with
     |none=>
      exact ah.seq ((iT w W r b q k fa t u v B H).Pu d (oS d) k6 (ag ⟨bK o,rfl,h,g,trivial⟩) a) (λY Y=>rfl) (λY Y=>rfl)
        λA m C j=>iY h i r (d.trans m) (some [34]) (bb g) (by simp;lia) n
     |some f=>
      exact ah.seq ((iV w W r b f q k fa t u v B H).Pu d (oS d) k9 (ag ⟨bK o,rfl,h,g,trivial⟩) a) (λY Y=>rfl) (λY Y=>rfl)
        λA m C j=>iY h i r (d.trans m) (some [34]) (bb g) (by simp;lia) n
    ·rw [if_neg s]
     cases f with
     |none=>
      exact ah.Pt (λY j=>sZ ((nW w W Q c r b q k fa t u v B H).uF (ae 6 a) (ae 0 a) j)) ((nW w W Q c r b q k fa t u v B H).Pu d (oS d) vW (ag ⟨au (by simp),bK s,bK (by simp),bK o,bK (by simp),bK (by simpa using p),au (by simp),eU E,rfl,h,g,trivial⟩) a)
        (λY Y=>by kernel_rfl) (λY Y=>rfl) (λY Y=>rfl) (λY Y=>rfl)
     |some f=>
      exact ah.Pt (λY j=>sZ ((n5 w W Q c r b f q k fa t u v B H).uF (ae 6 a) (ae 0 a) j)) ((n5 w W Q c r b f q k fa t u v B H).Pu d (oS d) vZ (ag ⟨au (by simp),bK s,bK (by simp),bK o,bK (by simp),bK (by simpa using p),au (by simp),eU E,rfl,h,g,trivial⟩) a)
        (λY Y=>by kernel_rfl) (λY Y=>rfl) (λY Y=>rfl) (λY Y=>rfl)
def aF (W Q b:P1) (d:P9) (tok r:P1) (o:eN):Prop:=
 b.length<=900/\10∉b/\(Q=[]\/Q=[34])/\r <:+ b/\
  ((d=some [32]/\tok=[]/\rL W Q r/\o=lg W Q false r)\/(d=none/\tok=[]/\r=[]/\o=⟨[],none,[],none,[],false⟩)\/(d=some [34]/\Q=[34]/\tok.length+r.length<=900/\34∈r/\o=gX tok r))
theorem CS (e:Le (top w.2) F) {i:P9} {o:eN} (h:aF W Q b i tok r o):A3 w F B H a (qc w t u v k fa W Q i tok b r false none (ae 6 a)) k fa W Q b o:=by
 obtain ⟨g,d,m,j,h|h|h⟩:=h
 ·obtain ⟨rfl,rfl,h,rfl⟩:=h
  exact oa g d m r e none j h
 ·obtain ⟨rfl,rfl,rfl,rfl⟩:=h
  exact ah.Pt (λY n=>sZ ((rK w W Q b false k fa t u v B H).uF (ae 6 a) (ae 0 a) n)) ((rK w W Q b false k fa t u v B H).Pu e (oE e) zl (ag ⟨rfl,g,trivial⟩) a)
   (λY Y=>by kernel_rfl) (λY Y=>rfl) (λY Y=>rfl) (λY Y=>rfl)
 ·obtain ⟨rfl,rfl,p,s,rfl⟩:=h
  exact iY g d r e none j p s
def qe (w:World) (k:Int) (fa:Addr) (W Q:P1) (e:P9) (tok b r:P1) (o:eN):aY:=λY d Y=>
 {need:=50,Po:=500,code:=fg (fA d 5),fs:=ab (fA d) (qc w (aE (fO d 1)) (aE (fO d 4)) (aE (fO d 5)) k fa W Q e tok b r false none (fA d)),Pq:=[aF W Q b e tok r o],wants:=[],
  upd:=λY g=>Nr w g k fa W Q b o (fA d),nn:=0,new:=λY Y=>[],Pm:=59,res:=λY Y=>.end_ (.ok .next),gives:=λY Y=>[]}
theorem we (g:Le (top w.2) F) {d:P9} {o:eN} (y:Code) (e:Qa) (kn:Qb):(qe w k fa W Q d tok b r o y e kn).Ok w F:=by
 intro i _ C H _ _;have h:aF W Q b d tok r o:=i _ (.head _);exact ah.Pu (CS (a:=fA e) g h)
end
end
section
def j5 (t u a:P2):Nat->Tok:=bl t [(0,(a 1)),(2,(a 2)),(4,(a 3)),(6,(a 4)),(7,(a 5)),(8,(a 6)),(9,(a 7)),(10,(a 8)),(11,(a 9)),(12,(a 10)),(13,(a 11)),(14,(a 12)),(16,(a 13)),(17,(a 14)),(18,(a 15)),(19,(a 16)),(20,(a 17)),(21,(a 18)),(22,(a 19)),(23,(a 20)),(24,(a 21)),(26,(a 22)),(27,(a 23)),(28,(a 24)),(29,(a 25)),(30,(a 26)),(31,(a 27)),(32,(a 28)),(34,(a 29)),(36,(a 30)),(37,(a 31))]
def j6 (t u a:P2):Nat->Tok:=bl aO [(2,(a 32))]
def j7 (t u a:P2):Nat->Tok:=bl u [(0,(a 33)),(1,(a 34)),(2,(a 35)),(3,(a 36)),(4,(a 37)),(5,(a 38))]
def Gc (w:World) (W Q b r:P1) (o:eN) (k:Int) (e:Addr) (t u:P2) (B:P8) (f:P6):a7:={
 B:=λa=>B,Hd:=f,O:=oT [] (aC [([],qe w k e W Q (some [32]) [] b r o)]),k:=5,nn:=0,Pm:=39,H:=aQ 0x6bc8f9c06bd8f05e064bdbd9894,N:=142,
 cF:=λa=>.call (.ref 741) ⟨[.ref (a 0)],[]⟩,oF:=λa=>[ax (a 1),ay w.2 t (a 3) (a 2) e W Q (some [32]) [],a6 k,aj (a 4),ao w.2 u b (ai b r)],
 uF:=λa n c=>[ax (a 1),ay w.2 (j5 t u c) (a 3) (a 2) e W Q o.st [],cC o.pb k ((j6 t u c) 2),aj (a 4),ao w.2 (j7 t u c) b (ai b o.r)],nF:=λa n c=>[],rF:=λa n c=>.end_ (.ok (.ret (.str (mk o.w) (c 0)))),idx:=[],Pn:=[35,4,6,8,10,11,12,13,14,15,16,17,18,20,21,22,23,24,25,26,27,28,30,31,32,33,34,65,36,38,40,41,62,44,45,46,47,48,49],d:=60,u:=600,
 facts:=[true=true,aF W Q b (some [32]) [] r o]}
theorem Gd {W:P1}:(Gc w W Q a r o k c t u B d).Runs w:=by intro b e f;kernel_rfl
def Ge (w:World) (W Q b r:P1) (o:eN) (k:Int) (e:Addr) (t u:P2) (B:P8) (f:P6):a7:={
 B:=λa=>B,Hd:=f,O:=oT [] (aC [([],qe w k e W Q none [] b r o)]),k:=5,nn:=0,Pm:=39,H:=aQ 0x6bc8f9c06bd8f05e064bdbd9894,N:=142,
 cF:=λa=>.call (.ref 741) ⟨[.ref (a 0)],[]⟩,oF:=λa=>[ax (a 1),ay w.2 t (a 3) (a 2) e W Q none [],a6 k,aj (a 4),ao w.2 u b (ai b r)],
 uF:=λa n c=>[ax (a 1),ay w.2 (j5 t u c) (a 3) (a 2) e W Q o.st [],cC o.pb k ((j6 t u c) 2),aj (a 4),ao w.2 (j7 t u c) b (ai b o.r)],nF:=λa n c=>[],rF:=λa n c=>.end_ (.ok (.ret (.str (mk o.w) (c 0)))),idx:=[],Pn:=[35,4,6,8,10,11,12,13,14,15,16,17,18,20,21,22,23,24,25,26,27,28,30,31,32,33,34,65,36,38,40,41,62,44,45,46,47,48,49],d:=60,u:=600,
 facts:=[true=true,aF W Q b none [] r o]}
theorem Gf {W:P1}:(Ge w W Q a r o k c t u B d).Runs w:=by intro b e f;kernel_rfl
def Gg (w:World) (W b r:P1) (o:eN) (k:Int) (e:Addr) (t u:P2) (B:P8) (f:P6):a7:={
 B:=λa=>B,Hd:=f,O:=oT [] (aC [([],qe w k e W [34] (some [34]) [] b r o)]),k:=5,nn:=0,Pm:=39,H:=aQ 0x6bc8f9c06bd8f05e064bdbd9894,N:=142,
 cF:=λa=>.call (.ref 741) ⟨[.ref (a 0)],[]⟩,oF:=λa=>[ax (a 1),ay w.2 t (a 3) (a 2) e W [34] (some [34]) [],a6 k,aj (a 4),ao w.2 u b (ai b r)],
 uF:=λa n c=>[ax (a 1),ay w.2 (j5 t u c) (a 3) (a 2) e W [34] o.st [],cC o.pb k ((j6 t u c) 2),aj (a 4),ao w.2 (j7 t u c) b (ai b o.r)],nF:=λa n c=>[],rF:=λa n c=>.end_ (.ok (.ret (.str (mk o.w) (c 0)))),idx:=[],Pn:=[35,4,6,8,10,11,12,13,14,15,16,17,18,20,21,22,23,24,25,26,27,28,30,31,32,33,34,65,36,38,40,41,62,44,45,46,47,48,49],d:=60,u:=600,
 facts:=[true=true,aF W [34] b (some [34]) [] r o]}
theorem Gh {W:P1}:(Gg w W a r o k c t u B d).Runs w:=by intro b e f;kernel_rfl
def rM (w:World) (t u:P2) (k:Int) (c:Addr) (W Q:P1) (d:P9) (b r:P1) (a:P4):P7:=
 [ax (a 1),ay w.2 t (a 3) (a 2) c W Q d [],a6 k,aj (a 4),ao w.2 u b (ai b r)]
def Kl (w:World) (c:P2) (k:Int) (d:Addr) (W Q b:P1) (o:eN) (a:P4):P7:=
 [ax (a 1),ay w.2 (sh 0 c) (a 3) (a 2) d W Q o.st [],cC o.pb k (c 38),aj (a 4),ao w.2 (sh 40 c) b (ai b o.r)]
noncomputable def kv (t u:P2) (p y:Tok) (i:Nat):Tok:=match Nat.ble 46 i with
 |true=>y
 |false=>match Nat.ble 40 i with
  |true=>u (i-40)
  |false=>match Nat.ble 38 i with
   |true=>p
   |false=>t i
def lh:hZ->Tok
 | .end_ r=>match r with
  | .ok f=>match f with
   | .ret v=>aR v
   |_=>0
  | .error _=>0
 | .again _=>0
def Nt (p:Option Nat) (o:Obj):Tok:=match p with
 |none=>0
 |some _=>aE o 2
def Km (w:World) (F:aA) (d u:Nat) (B:P8) (H:P6) (c:Code) (a:P4) (f:P7) (k:Int) (g:Addr) (W Q b:P1) (o:eN):Prop:=
 ah aX w F d u B H c (ab a f) (λY e=>Kl w e k g W Q b o (ae 5 a)) 0 47 (λY Y=>[]) (λY e=>.end_ (.ok (.ret (.str (mk o.w) (e 46))))) (λY Y=>[])
section
variable {w:World} {F:aA} {B:P8} {H:P6} {a:P4} {t u:P2} {k:Int} {d:Addr} {W Q b r:P1} {o:eN}
theorem L7 (g:Le (top w.2) F) {e:List Str} {h:P9} {f:P1}:bH w F (oT e (aC [([],qe w k d W Q h f b r o)])):=mA λY i c j kn=>we (g.trans i) c j kn
theorem L8 (e:Le (top w.2) F) (h:aF W Q b (some [32]) [] r o):Km w F 60 600 B H (.call (.ref 741) ⟨[.ref (ae 5 a 0)],[]⟩) a (rM w t u k d W Q (some [32]) b r (ae 5 a)) k d W Q b o:=
 ah.Pt (λY c=>kv (j5 t u c) (j7 t u c) (j6 t u c 2) (c 0)) ((Gc w W Q b r o k d t u B H).Pu e (L7 e) Gd (ag ⟨rfl,h,trivial⟩) a)
  (λY Y=>by kernel_rfl) (λY Y=>rfl) (λY Y=>by kernel_rfl) (λY Y=>rfl)
theorem L9 (e:Le (top w.2) F) (h:aF W Q b none [] r o):Km w F 60 600 B H (.call (.ref 741) ⟨[.ref (ae 5 a 0)],[]⟩) a (rM w t u k d W Q none b r (ae 5 a)) k d W Q b o:=
 ah.Pt (λY c=>kv (j5 t u c) (j7 t u c) (j6 t u c 2) (c 0)) ((Ge w W Q b r o k d t u B H).Pu e (L7 e) Gf (ag ⟨rfl,h,trivial⟩) a)
  (λY Y=>by kernel_rfl) (λY Y=>rfl) (λY Y=>by kernel_rfl) (λY Y=>rfl)
theorem Ma (e:Le (top w.2) F) (h:aF W [34] b (some [34]) [] r o):Km w F 60 600 B H (.call (.ref 741) ⟨[.ref (ae 5 a 0)],[]⟩) a (rM w t u k d W [34] (some [34]) b r (ae 5 a)) k d W [34] b o:=
 ah.Pt (λY c=>kv (j5 t u c) (j7 t u c) (j6 t u c 2) (c 0)) ((Gg w W b r o k d t u B H).Pu e (L7 e) Gh (ag ⟨rfl,h,trivial⟩) a)
  (λY Y=>by kernel_rfl) (λY Y=>rfl) (λY Y=>by kernel_rfl) (λY Y=>rfl)
def s6 (w:World) (k:Int) (d:Addr) (W Q:P1) (f:P9) (b r:P1) (o:eN):aY:=λY c Y=>
 {need:=60,Po:=600,code:=.call (.ref 741) ⟨[.ref (fA c 0)],[]⟩,fs:=ab (fA c) (rM w (aE (fO c 1)) (aE (fO c 4)) k d W Q f b r (fA c)),Pq:=[aF W Q b f [] r o],wants:=[],
  upd:=λY e=>Kl w e k d W Q b o (fA c),nn:=0,new:=λY Y=>[],Pm:=47,res:=λY e=>.end_ (.ok (.ret (.str (mk o.w) (e 46)))),gives:=λY Y=>[]}
theorem i0 (e:Le (top w.2) F) {f:P9} (y:Code) (c:Qa) (kn:Qb):(s6 w k d W Q f b r o y c kn).Ok w F:=by
 intro g _ C H _ _;have h:aF W Q b f [] r o:=g _ (.head _);obtain ⟨_,_,_,_,x|x|x⟩:=id h
 ·obtain ⟨rfl,_⟩:=x
  exact ah.Pu (L8 (a:=fA c) e h)
 ·obtain ⟨rfl,_⟩:=x
  exact ah.Pu (L9 (a:=fA c) e h)
 ·obtain ⟨rfl,rfl,_⟩:=x
  exact ah.Pu (Ma (a:=fA c) e h)
end
end
section
noncomputable def di (o:Obj):Addr:=match o.data with
 | .dict b _=>match b.toList.drop 16 with
  |e::_=>match e.val with
   | .ref a=>a
   |_=>0
  |[]=>0
 |_=>0
def gY (w:World) (k:Int) (W Q:P1) (d:P9) (a r:P1) (o:eN):aY:=λc b kn=>s6 w k (di (fO b 1)) W Q d a r o c b kn
noncomputable def eE:eN:=⟨[],none,[],none,[],false⟩
def CT (P:Params) (t:P2) (a:Int):Obj:={cls:=.type "dict",data:=.dict #[dE P "_StringIO__newline" (t 0) (.str "\n" (t 1)),dE P "_StringIO__buf" (t 2) .none,dE P "_StringIO__pos" (t 4) (.int a (t 5))] 3}
noncomputable def A4 (t u a:P2):Nat->Tok:=t
noncomputable def A5 (t u a:P2):Nat->Tok:=u
def Gi (w:World) (W Q:P1) (f:P9) (c:Nat) (x:Tok) (b r:P1) (k:Int) (g:Addr) (t u:P2) (B:P8) (h:P6):a7:={
 B:=λa=>B,Hd:=h,O:=oB [],k:=5,nn:=0,Pm:=0,H:=aQ 0x6bc9897a0a097c6a08f039797c68f9894,N:=125,
 cF:=λa=>.call (.ref 734) ⟨[.ref (a 0)],[]⟩,oF:=λa=>[ax (a 1),ay w.2 t (a 3) (a 2) g W Q f [],c5 k (.str (mk [c]) x),aj (a 4),ao w.2 u b (ai b r)],
 uF:=λa n e=>[ax (a 1),ay w.2 (A4 t u e) (a 3) (a 2) g W Q f [],a6 (k+1+1),aj (a 4),ao w.2 (A5 t u e) b (ai b r)],nF:=λa n e=>[],rF:=λa n e=>.end_ (.ok (.ret (.str (mk [c]) x))),idx:=[],Pn:=[],d:=70,u:=700,
 facts:=[]}
theorem Gj {W:P1} {a:P9}:(Gi w W Q a c x b r k e t u B f).Runs w:=by intro d g h;kernel_rfl
def Gk (w:World) (W Q b r:P1) (o:eN) (k:Int) (e:Addr) (t u:P2) (B:P8) (f:P6):a7:={
 B:=λa=>B,Hd:=f,O:=oT [] (aC [([],gY w k W Q (some [32]) b r o)]),k:=5,nn:=0,Pm:=39,H:=aQ 0x6bcdfce008fbdb28e64b306039797c68f9894,N:=160,
 cF:=λa=>.call (.ref 734) ⟨[.ref (a 0)],[]⟩,oF:=λa=>[ax (a 1),ay w.2 t (a 3) (a 2) e W Q (some [32]) [],a6 k,aj (a 4),ao w.2 u b (ai b r)],
 uF:=λa n c=>[ax (a 1),ay w.2 (j5 t u c) (a 3) (a 2) e W Q o.st [],cC o.pb k ((j6 t u c) 2),aj (a 4),ao w.2 (j7 t u c) b (ai b o.r)],nF:=λa n c=>[],rF:=λa n c=>.end_ (.ok (.ret (.str (mk o.w) (c 0)))),idx:=[],Pn:=[50,4,6,8,10,11,12,13,14,15,16,17,18,20,21,22,23,24,25,26,27,28,30,31,32,33,34,35,36,38,40,41,42,44,45,46,47,48,49],d:=70,u:=700,
 facts:=[((mk o.w).cps.toList==(mk []).cps.toList)=false,true=true,aF W Q b (some [32]) [] r o]}
theorem Gl {W:P1}:(Gk w W Q a r o k c t u B d).Runs w:=by intro b e f;kernel_rfl
def oc (t u a:P2):Nat->Tok:=bl t [(0,(a 1)),(2,(a 2)),(4,(a 3)),(6,(a 4)),(7,(a 0)),(8,(a 5)),(9,(a 6)),(10,(a 7)),(11,(a 8)),(12,(a 9)),(13,(a 10)),(14,(a 11)),(16,(a 12)),(17,(a 13)),(18,(a 14)),(19,(a 15)),(20,(a 16)),(21,(a 17)),(22,(a 18)),(24,(a 19)),(26,(a 20)),(27,(a 21)),(28,(a 22)),(29,(a 23)),(30,(a 24)),(31,(a 25)),(32,(a 26)),(34,(a 27)),(36,(a 28)),(37,(a 29))]
def jC (t u a:P2):Nat->Tok:=bl u [(0,(a 30)),(1,(a 31)),(2,(a 32)),(3,(a 33)),(4,(a 34)),(5,(a 35))]
def wg (w:World) (W Q b r:P1) (k e:Int) (t u:P2) (B:P8) (f:P6):a7:={
 B:=λa=>B,Hd:=f,O:=oT [] (aC [([],gY w k W Q (some [32]) b r eE)]),k:=6,nn:=0,Pm:=36,H:=aQ 0x8b0706a7a700988bd48ba68be1b28e64b307039797c68be694,N:=187,
 cF:=λa=>.call (.ref 734) ⟨[.ref (a 0)],[]⟩,oF:=λa=>[ax (a 1),ay w.2 t (a 3) (a 2) (a 5) W Q (some [32]) [],a6 k,aj (a 4),ao w.2 u b (ai b r),a6 e],
 uF:=λa n c=>[ax (a 1),ay w.2 (oc t u c) (a 3) (a 2) (a 5) W Q none [],a6 k,aj (a 4),ao w.2 (jC t u c) b (ai b []),a6 e],nF:=λa n c=>[],rF:=λa n c=>.end_ (.ok (.ret (.str (mk []) (c 0)))),idx:=[],Pn:=[11,4,6,8,10,12,13,14,15,16,17,18,20,21,22,23,24,25,26,28,30,31,32,33,34,35,36,38,40,41,44,45,46,47,48,49],d:=70,u:=700,
 facts:=[true=true,aF W Q b (some [32]) [] r eE]}
theorem CU {W:P1}:(wg w W Q a r k c t u B d).Runs w:=by intro b e f;kernel_rfl
def wh (w:World) (W Q b r:P1) (k e:Int) (t u:P2) (B:P8) (f:P6):a7:={
 B:=λa=>B,Hd:=f,O:=oT [] (aC [([],gY w k W Q none b r eE)]),k:=6,nn:=0,Pm:=36,H:=aQ 0x8b0706a7a700988bd48ba68be1b28e64b307039797c68be694,N:=187,
 cF:=λa=>.call (.ref 734) ⟨[.ref (a 0)],[]⟩,oF:=λa=>[ax (a 1),ay w.2 t (a 3) (a 2) (a 5) W Q none [],a6 k,aj (a 4),ao w.2 u b (ai b r),a6 e],
 uF:=λa n c=>[ax (a 1),ay w.2 (oc t u c) (a 3) (a 2) (a 5) W Q none [],a6 k,aj (a 4),ao w.2 (jC t u c) b (ai b []),a6 e],nF:=λa n c=>[],rF:=λa n c=>.end_ (.ok (.ret (.str (mk []) (c 0)))),idx:=[],Pn:=[11,4,6,8,10,12,13,14,15,16,17,18,20,21,22,23,24,25,26,28,30,31,32,33,34,35,36,38,40,41,44,45,46,47,48,49],d:=70,u:=700,
 facts:=[true=true,aF W Q b none [] r eE]}
theorem CV {W:P1}:(wh w W Q a r k c t u B d).Runs w:=by intro b e f;kernel_rfl
def od (t u v a:P2):Nat->Tok:=bl t [(0,(a 1)),(2,(a 2)),(4,(a 3)),(6,(a 4)),(7,(a 0)),(8,(a 5)),(9,(a 6)),(10,(a 7)),(11,(a 8)),(12,(a 9)),(13,(a 10)),(14,(a 11)),(16,(a 12)),(17,(a 13)),(18,(a 14)),(19,(a 15)),(20,(a 16)),(21,(a 17)),(22,(a 18)),(24,(a 19)),(26,(a 20)),(27,(a 21)),(28,(a 22)),(29,(a 23)),(30,(a 24)),(31,(a 25)),(32,(a 26)),(34,(a 27)),(36,(a 28)),(37,(a 29))]
def oe (t u v a:P2):Nat->Tok:=bl u [(0,(a 30)),(1,(a 31)),(2,(a 32)),(4,(a 33)),(5,(a 34))]
def og (t u v a:P2):Nat->Tok:=bl v [(0,(a 35)),(1,(a 36)),(2,(a 37)),(3,(a 38)),(4,(a 39)),(5,(a 40))]
def wi (w:World) (W Q c r b:P1) (k f:Int) (x:Tok) (t u v:P2) (B:P8):a7:={
 B:=λa=>B,Hd:=none,O:=oT [] (aC [([],gY w k W Q (some [32]) c r eE),([],gY w k W Q (some [32]) b [] eE)]),k:=9,nn:=0,Pm:=41,H:=aQ 0x8b0a06a7a700988b0a838ba3a38b1006a7a700988b10838bab008b10abc1078d8e65b310039797c68b10ab94b30a9c0b828b0b9c0b9c0b9c0b0fb507b5000d000db507b5000d000db507b5000d000db507b5000d00b5000784e6069898a70098988b0b05aa8204b7000482049504eb94ea8b0ba894b30a06a7a700988b0a838ba38b0aa3b28e64b30a039797c68b0a9694,N:=807,
 cF:=λa=>.call (.ref 734) ⟨[.ref (a 0)],[]⟩,oF:=λa=>[ax (a 1),ay w.2 t (a 3) (a 2) (a 5) W Q (some [32]) [],a6 k,aj (a 4),ao w.2 u c (ai c r),c5 f (.ref (a 6)),az [.none,.ref (a 7),.int 1 x],aj (a 8),ao w.2 v b (ai b [])],
 uF:=λa n e=>[ax (a 1),ay w.2 (od t u v e) (a 7) (a 2) (a 5) W Q none [],a6 k,aj (a 4),CT w.2 (oe t u v e) (ai c []),a6 (f+1+1),az [.none,.ref (a 7),.int 1 x],aj (a 8),ao w.2 (og t u v e) b (ai b [])],nF:=λa n e=>[],rF:=λa n e=>.end_ (.ok (.ret (.str (mk []) (e 0)))),idx:=[],Pn:=[84,77,79,81,83,85,86,87,88,89,90,91,93,94,95,96,97,98,99,101,103,104,105,106,107,108,109,111,113,114,44,45,46,48,49,117,118,119,120,121,122],d:=70,u:=700,
 facts:=[true=true,aF W Q b (some [32]) [] [] eE,true=true,aF W Q c (some [32]) [] r eE]}
theorem CW {W:P1}:(wi w W Q b r a k d x t u v B).Runs w:=by intro c e f;kernel_rfl
def wj (w:World) (W Q c r b:P1) (k f:Int) (x:Tok) (t u v:P2) (B:P8):a7:={
 B:=λa=>B,Hd:=none,O:=oT [] (aC [([],gY w k W Q none c r eE),([],gY w k W Q (some [32]) b [] eE)]),k:=9,nn:=0,Pm:=41,H:=aQ 0x8b0a06a7a700988b0a838ba3a38b1006a7a700988b10838bab008b10abc1078d8e65b310039797c68b10ab94b30a9c0b828b0b9c0b9c0b9c0b0fb507b5000d000db507b5000d000db507b5000d000db507b5000d00b5000784e6069898a70098988b0b05aa8204b7000482049504eb94ea8b0ba894b30a06a7a700988b0a838ba38b0aa3b28e64b30a039797c68b0a9694,N:=807,
 cF:=λa=>.call (.ref 734) ⟨[.ref (a 0)],[]⟩,oF:=λa=>[ax (a 1),ay w.2 t (a 3) (a 2) (a 5) W Q none [],a6 k,aj (a 4),ao w.2 u c (ai c r),c5 f (.ref (a 6)),az [.none,.ref (a 7),.int 1 x],aj (a 8),ao w.2 v b (ai b [])],
 uF:=λa n e=>[ax (a 1),ay w.2 (od t u v e) (a 7) (a 2) (a 5) W Q none [],a6 k,aj (a 4),CT w.2 (oe t u v e) (ai c []),a6 (f+1+1),az [.none,.ref (a 7),.int 1 x],aj (a 8),ao w.2 (og t u v e) b (ai b [])],nF:=λa n e=>[],rF:=λa n e=>.end_ (.ok (.ret (.str (mk []) (e 0)))),idx:=[],Pn:=[84,77,79,81,83,85,86,87,88,89,90,91,93,94,95,96,97,98,99,101,103,104,105,106,107,108,109,111,113,114,44,45,46,48,49,117,118,119,120,121,122],d:=70,u:=700,
 facts:=[true=true,aF W Q b (some [32]) [] [] eE,true=true,aF W Q c none [] r eE]}
theorem CX {W:P1}:(wj w W Q b r a k d x t u v B).Runs w:=by intro c e f;kernel_rfl
section
variable {w:World} {F:aA} {B:P8} {H:P6} {a:P4} {t u v:P2} {k d:Int} {fa:Addr} {W Q b r e:P1} {o:eN} {c:Nat} {x:Tok}
theorem Mb (g:Le (top w.2) F) {f:List Str} {h:P9}:bH w F (oT f (aC [([],gY w k W Q h b r o)])):=mA λY i c j kn=>i0 (g.trans i) c j kn
theorem Gm (i:Le (top w.2) F) {f:List Str} {j:P9}:bH w F (oT f (aC [([],gY w k W Q j b r eE),([],gY w k W Q (some [32]) e [] eE)])):=
 bh (aI ⟨λY g c h kn=>i0 (i.trans g) c h kn,λY g c h kn=>i0 (i.trans g) c h kn,trivial⟩)
def Gn (w:World) (t u:P2) (x:Tok) (k:Int) (fa:Addr) (W Q:P1) (c:Nat) (b r:P1) (a:P4):P7:=
 [ax (a 1),ay w.2 t (a 3) (a 2) fa W Q (some [32]) [],c5 k (.str (mk [c]) x),aj (a 4),ao w.2 u b (ai b r)]
def Gp (w:World) (f:P2) (k:Int) (fa:Addr) (W Q b r:P1) (a:P4):P7:=
 [ax (a 1),ay w.2 (sh 0 f) (a 3) (a 2) fa W Q (some [32]) [],a6 (k+1+1),aj (a 4),ao w.2 (sh 40 f) b (ai b r)]
theorem Gq (g:Le (top w.2) F):ah aX w F 70 700 B H (.call (.ref 734) ⟨[.ref (ae 5 a 0)],[]⟩) (ab a (Gn w t u x k fa W Q c b r (ae 5 a))) (λY f=>Gp w f k fa W Q b r (ae 5 a)) 0 47 (λY Y=>[]) (λY f=>.end_ (.ok (.ret (.str (mk [c]) (f 46))))) (λY Y=>[]):=
 ah.Pt (λY f=>kv (A4 t u f) (A5 t u f) 0 x) ((Gi w W Q (some [32]) c x b r k fa t u B H).Pu g cG Gj (λY h=>by cases h) a)
  (λY Y=>by kernel_rfl) (λY Y=>rfl) (λY Y=>by kernel_rfl) (λY Y=>rfl)
theorem CY (g:Le (top w.2) F) (h:aF W Q b (some [32]) [] r o) (i:o.w≠[]):Km w F 70 700 B H (.call (.ref 734) ⟨[.ref (ae 5 a 0)],[]⟩) a (rM w t u k fa W Q (some [32]) b r (ae 5 a)) k fa W Q b o:=
 ah.Pt (λY f=>kv (j5 t u f) (j7 t u f) (j6 t u f 2) (f 0)) ((Gk w W Q b r o k fa t u B H).Pu g (Mb g) Gl (ag ⟨by simp only [vj];exact beq_false_of_ne i,rfl,h,trivial⟩) a)
  (λY Y=>by kernel_rfl) (λY Y=>rfl) (λY Y=>by kernel_rfl) (λY Y=>rfl)
def A6 (w:World) (t u:P2) (k d:Int) (W Q:P1) (f:P9) (b r:P1) (a:P4):P7:=
 [ax (a 1),ay w.2 t (a 3) (a 2) (a 5) W Q f [],a6 k,aj (a 4),ao w.2 u b (ai b r),a6 d]
def Gr (w:World) (f:P2) (k d:Int) (W Q b:P1) (a:P4):P7:=
 [ax (a 1),ay w.2 (sh 0 f) (a 3) (a 2) (a 5) W Q none [],a6 k,aj (a 4),ao w.2 (sh 40 f) b (ai b []),a6 d]
def Gs (w:World) (F:aA) (B:P8) (H:P6) (a:P4) (t u:P2) (k d:Int) (W Q:P1) (g:P9) (b r:P1):Prop:=
 ah aX w F 70 700 B H (.call (.ref 734) ⟨[.ref (ae 6 a 0)],[]⟩) (ab a (A6 w t u k d W Q g b r (ae 6 a))) (λY f=>Gr w f k d W Q b (ae 6 a)) 0 47 (λY Y=>[]) (λY f=>.end_ (.ok (.ret (.str (mk []) (f 46))))) (λY Y=>[])
theorem A7 (g:Le (top w.2) F) (h:aF W Q b (some [32]) [] r eE):Gs w F B H a t u k d W Q (some [32]) b r:=
 ah.Pt (λY f=>kv (oc t u f) (jC t u f) 0 (lh ((wg w W Q b r k d t u B H).rF a a f))) ((wg w W Q b r k d t u B H).Pu g (Mb g) CU (ag ⟨rfl,h,trivial⟩) a)
  (λY Y=>by kernel_rfl) (λY Y=>rfl) (λY Y=>by kernel_rfl) (λY Y=>rfl)
theorem A8 (g:Le (top w.2) F) (h:aF W Q b none [] r eE):Gs w F B H a t u k d W Q none b r:=
 ah.Pt (λY f=>kv (oc t u f) (jC t u f) 0 (lh ((wh w W Q b r k d t u B H).rF a a f))) ((wh w W Q b r k d t u B H).Pu g (Mb g) CV (ag ⟨rfl,h,trivial⟩) a)
  (λY Y=>by kernel_rfl) (λY Y=>rfl) (λY Y=>by kernel_rfl) (λY Y=>rfl)
end
end
section
section
variable {w:World} {F:aA} {B:P8} {a:P4} {t u v:P2} {k g:Int} {W Q b r d:P1} {o:eN} {c:Nat} {x:Tok} {f:P9}
def Gu (w:World) (k:Int) (W Q:P1) (c:Nat) (b r:P1):aY:=λY e Y=>
 {need:=70,Po:=700,code:=.call (.ref 734) ⟨[.ref (fA e 0)],[]⟩,fs:=ab (fA e) (Gn w (aE (fO e 1)) (aE (fO e 4)) (aE (fO e 2) 2) k (di (fO e 1)) W Q c b r (fA e)),Pq:=[],wants:=[],
  upd:=λY h=>Gp w h k (di (fO e 1)) W Q b r (fA e),nn:=0,new:=λY Y=>[],Pm:=47,res:=λY h=>.end_ (.ok (.ret (.str (mk [c]) (h 46)))),gives:=λY Y=>[]}
theorem Gv (h:Le (top w.2) F) (y:Code) (e:Qa) (kn:Qb):(Gu w k W Q c b r y e kn).Ok w F:=by
 intro i _ C H _ _;exact ah.Pu (Gq (a:=fA e) h)
def j8 (w:World) (k:Int) (W Q b r:P1) (o:eN):aY:=λY e Y=>
 {need:=70,Po:=700,code:=.call (.ref 734) ⟨[.ref (fA e 0)],[]⟩,fs:=ab (fA e) (rM w (aE (fO e 1)) (aE (fO e 4)) k (di (fO e 1)) W Q (some [32]) b r (fA e)),Pq:=[aF W Q b (some [32]) [] r o/\o.w≠[]],wants:=[],
  upd:=λY h=>Kl w h k (di (fO e 1)) W Q b o (fA e),nn:=0,new:=λY Y=>[],Pm:=47,res:=λY h=>.end_ (.ok (.ret (.str (mk o.w) (h 46)))),gives:=λY Y=>[]}
theorem eV (i:Le (top w.2) F) (y:Code) (e:Qa) (kn:Qb):(j8 w k W Q b r o y e kn).Ok w F:=by
 intro j _ C H _ _;have h:aF W Q b (some [32]) [] r o/\o.w≠[]:=j _ (.head _);exact ah.Pu (CY (a:=fA e) i h.1 h.2)
def A9 (w:World) (k g:Int) (W Q:P1) (f:P9) (b r:P1):aY:=λY e Y=>
 {need:=70,Po:=700,code:=.call (.ref 734) ⟨[.ref (fA e 0)],[]⟩,fs:=ab (fA e) (A6 w (aE (fO e 1)) (aE (fO e 4)) k g W Q f b r (fA e)),Pq:=[aF W Q b f [] r eE/\(f=some [32]\/f=none)],wants:=[],
  upd:=λY h=>Gr w h k g W Q b (fA e),nn:=0,new:=λY Y=>[],Pm:=47,res:=λY h=>.end_ (.ok (.ret (.str (mk []) (h 46)))),gives:=λY Y=>[]}
theorem wk (i:Le (top w.2) F) (y:Code) (e:Qa) (kn:Qb):(A9 w k g W Q f b r y e kn).Ok w F:=by
 intro j _ C H _ _;have h:aF W Q b f [] r eE/\(f=some [32]\/f=none):=j _ (.head _);obtain ⟨h,rfl|rfl⟩:=h
 ·exact ah.Pu (A7 (a:=fA e) i h)
 ·exact ah.Pu (A8 (a:=fA e) i h)
def Ba (w:World) (t u v:P2) (x:Tok) (k g:Int) (W Q:P1) (f:P9) (b r d:P1) (a:P4):P7:=
 [ax (a 1),ay w.2 t (a 3) (a 2) (a 5) W Q f [],a6 k,aj (a 4),ao w.2 u b (ai b r),c5 g (.ref (a 6)),az [.none,.ref (a 7),.int 1 x],aj (a 8),ao w.2 v d (ai d [])]
def Gw (w:World) (e:P2) (x:Tok) (k g:Int) (W Q b d:P1) (a:P4):P7:=
 [ax (a 1),ay w.2 (sh 0 e) (a 7) (a 2) (a 5) W Q none [],a6 k,aj (a 4),CT w.2 (sh 40 e) (ai b []),a6 (g+1+1),az [.none,.ref (a 7),.int 1 x],aj (a 8),ao w.2 (sh 47 e) d (ai d [])]
noncomputable def CZ (t u v:P2) (y:Tok) (i:Nat):Tok:=match Nat.ble 47 i with
 |true=>v (i-47)
 |false=>match Nat.ble 46 i with
  |true=>y
  |false=>match Nat.ble 40 i with
   |true=>u (i-40)
   |false=>t i
def Gx (w:World) (F:aA) (B:P8) (a:P4) (t u v:P2) (x:Tok) (k g:Int) (W Q:P1) (f:P9) (b r d:P1):Prop:=
 ah aX w F 70 700 B none (.call (.ref 734) ⟨[.ref (ae 9 a 0)],[]⟩) (ab a (Ba w t u v x k g W Q f b r d (ae 9 a))) (λY e=>Gw w e x k g W Q b d (ae 9 a)) 0 53 (λY Y=>[]) (λY e=>.end_ (.ok (.ret (.str (mk []) (e 46))))) (λY Y=>[])
theorem Bb (i:Le (top w.2) F) (h:aF W Q b (some [32]) [] r eE) (j:aF W Q d (some [32]) [] [] eE):Gx w F B a t u v x k g W Q (some [32]) b r d:=
 ah.Pt (λY e=>CZ (od t u v e) (oe t u v e) (og t u v e) (lh ((wi w W Q b r d k g x t u v B).rF a a e))) ((wi w W Q b r d k g x t u v B).Pu i (Gm i) CW (ag ⟨rfl,j,rfl,h,trivial⟩) a)
  (λY Y=>by kernel_rfl) (λY Y=>rfl) (λY Y=>by kernel_rfl) (λY Y=>rfl)
theorem Bc (i:Le (top w.2) F) (h:aF W Q b none [] r eE) (j:aF W Q d (some [32]) [] [] eE):Gx w F B a t u v x k g W Q none b r d:=
 ah.Pt (λY e=>CZ (od t u v e) (oe t u v e) (og t u v e) (lh ((wj w W Q b r d k g x t u v B).rF a a e))) ((wj w W Q b r d k g x t u v B).Pu i (Gm i) CX (ag ⟨rfl,j,rfl,h,trivial⟩) a)
  (λY Y=>by kernel_rfl) (λY Y=>rfl) (λY Y=>by kernel_rfl) (λY Y=>rfl)
def Gy (w:World) (k g:Int) (W Q:P1) (f:P9) (b r d:P1):aY:=λY e Y=>
 {need:=70,Po:=700,code:=.call (.ref 734) ⟨[.ref (fA e 0)],[]⟩,fs:=ab (fA e) (Ba w (aE (fO e 1)) (aE (fO e 4)) (aE (fO e 8)) (aE (fO e 6) 2) k g W Q f b r d (fA e)),Pq:=[aF W Q b f [] r eE/\aF W Q d (some [32]) [] [] eE/\(f=some [32]\/f=none)],wants:=[],hand:=some none,
  upd:=λY h=>Gw w h (aE (fO e 6) 2) k g W Q b d (fA e),nn:=0,new:=λY Y=>[],Pm:=53,res:=λY h=>.end_ (.ok (.ret (.str (mk []) (h 46)))),gives:=λY Y=>[]}
theorem Gz (j:Le (top w.2) F) (y:Code) (i:Qa) (kn:Qb):(Gy w k g W Q f b r d y i kn).Ok w F:=by
 intro m _ C H _ n;have h:aF W Q b f [] r eE/\aF W Q d (some [32]) [] [] eE/\(f=some [32]\/f=none):=m _ (.head _);have e:H=none:=n none rfl;subst e;obtain ⟨h,l,rfl|rfl⟩:=h
 ·exact ah.Pu (Bb (a:=fA i) j h l)
 ·exact ah.Pu (Bc (a:=fA i) j h l)
end
end
def GB (w:World) (c b s:P1) (x:Tok) (B:P8) (f:P6):a7:={
 B:=λa=>B,Hd:=f,O:=oB [mk b,mk s],k:=0,nn:=0,Pm:=0,H:=aQ 0x8d86de1101860183018830839d94,N:=72,
 cF:=λa=>.call (.ref 805) ⟨[.str (mk c) x],[]⟩,oF:=λa=>[],
 uF:=λa n e=>[],nF:=λa n e=>[],rF:=λa n e=>.end_ (.ok (.ret (.bool true))),idx:=[],Pn:=[],d:=20,u:=200,
 facts:=[(((((mk b).length:Int)-((mk s).length:Int)).fmod 2)==(1:Int))=true,aD (mk s),aD (mk b),Txt.rstripChars (mk b) (mk [92])=(mk s),aD (mk b),aD (mk c),ak .none,ak (.int (-1:Int) 0),Txt.slice (mk c) none (some (-1:Int))=(mk b)]}
theorem GC:(GB w b a s x B d).Runs w:=by intro c e f;kernel_rfl
def GD (w:World) (c b s:P1) (x:Tok) (B:P8) (f:P6):a7:={
 B:=λa=>B,Hd:=f,O:=oB [mk b,mk s],k:=0,nn:=0,Pm:=0,H:=aQ 0x30186de1101860183018830839d94,N:=72,
 cF:=λa=>.call (.ref 805) ⟨[.str (mk c) x],[]⟩,oF:=λa=>[],
 uF:=λa n e=>[],nF:=λa n e=>[],rF:=λa n e=>.end_ (.ok (.ret (.bool false))),idx:=[],Pn:=[],d:=20,u:=200,
 facts:=[(((((mk b).length:Int)-((mk s).length:Int)).fmod 2)==(1:Int))=false,aD (mk s),aD (mk b),Txt.rstripChars (mk b) (mk [92])=(mk s),aD (mk b),aD (mk c),ak .none,ak (.int (-1:Int) 0),Txt.slice (mk c) none (some (-1:Int))=(mk b)]}
theorem GF:(GD w b a s x B d).Runs w:=by intro c e f;kernel_rfl
noncomputable def m3 (l:P1):Nat:=(l.reverse.takeWhile (· ==92)).length
def cu (a:P1):Bool:=m3 a.dropLast%2==1
theorem C0 (l:P1):m3 l<=l.length:=by
 unfold m3;have:=(List.takeWhile_sublist (p:=(· ==92)) (l:=l.reverse)).length_le;simpa using this
theorem lj (l:P1):Txt.rstripChars (mk l) (mk [92])=mk (l.take (l.length-m3 l)):=by
 unfold Txt.rstripChars;simp only [PyProof.Rows.stripBy_eq];have a:stripLo (mk [92]).cps.contains false (mk l)=0:=rfl;have b:(mk [92]).cps.contains=λc:Nat=>c==92:=by
  funext c;show (#[92]:Array Nat).contains c=_;by_cases h:c=92
  ·subst h;simp
  ·simp [h]
 rw [a];have d:stripHi (mk [92]).cps.contains true (mk l) 0=l.length-m3 l:=by
  unfold stripHi;rw [if_pos rfl,b];rfl
 rw [d,strSub_mk];simp [mk]
theorem qf {l:P1} (h:l≠[]):Txt.slice (mk l) none (some (-1:Int))=mk l.dropLast:=by
 have a:0<l.length:=List.length_pos_iff.mpr h;show StrLaws.sliceText (mk l) none (some (-1))=_;rw [StrLaws.sliceText_to_neg (by decide) (by show-((l.length:Nat):Int)<= -1;lia)]
 have:((-1:Int)+((mk l).length:Int)).toNat=l.length-1:=by show ((-1:Int)+(l.length:Int)).toNat=_;lia
 simp [mk,List.dropLast_eq_take];show min ((-1:Int)+((mk l).length:Int)).toNat l.length=l.length-1;rw [this];omega
theorem C3 (b n:Nat) (h:n<=b):(((b:Int)-((b-n:Nat):Int)).fmod 2==(1:Int))=(n%2==1):=by
 have e:((b:Int)-((b-n:Nat):Int))=(n:Int):=by lia
 rw [e,Int.fmod_eq_emod_of_nonneg _ (by decide)]
 have:((n:Int)%2)=((n%2:Nat):Int):=by lia
 rw [this];rcases Nat.mod_two_eq_zero_or_one n with h|h<;>rw [h]<;>rfl
def fV (a:P1) (v:Bool):aY:=λc Y Y=>
 {need:=20,Po:=200,code:=.call (.ref 805) ⟨[.str (mk a) (aR (bD c 0))],[]⟩,fs:=[],Pq:=[a≠[]/\a.length<=900/\cu a=v],wants:=[],
  upd:=λY Y=>[],nn:=0,new:=λY Y=>[],Pm:=0,res:=λY Y=>.end_ (.ok (.ret (.bool v))),gives:=λY Y=>[]}
theorem c9 {w:World} {F:aA} (b:Le (top w.2) F) {a:P1} {v:Bool} (y:Code) (e:Qa) (kn:Qb):(fV a v y e kn).Ok w F:=by
 intro f _ C H _ _;obtain ⟨c,i,g⟩:a≠[]/\a.length<=900/\cu a=v:=f _ (by simp [fV])
 have h:=C0 a.dropLast;have j:a.dropLast.length<=900:=by rw [List.length_dropLast];omega
 have d:((((mk a.dropLast).length:Int)-((mk (a.dropLast.take (a.dropLast.length-m3 a.dropLast))).length:Int)).fmod 2==(1:Int))=v:=by
  rw [<-g,bG,bG,List.length_take,Nat.min_eq_left (Nat.sub_le _ _)];exact C3 _ _ h
 cases v with
 |true=>
  exact ah.Pu ((GB w a a.dropLast (a.dropLast.take (a.dropLast.length-m3 a.dropLast)) (aR (bD y 0)) C H).Pu b cG GC (ag ⟨d,au (by simp;lia),au (by lia),lj _,au (by lia),au (by lia),trivial,trivial,qf c,trivial⟩) (λY=>0))
 |false=>
  exact ah.Pu ((GD w a a.dropLast (a.dropLast.take (a.dropLast.length-m3 a.dropLast)) (aR (bD y 0)) C H).Pu b cG GF (ag ⟨d,au (by simp;lia),au (by lia),lj _,au (by lia),au (by lia),trivial,trivial,qf c,trivial⟩) (λY=>0))
section
def oi (P:Params) (t:P2) (b:Addr) (a:P1):Obj:=ik [dE P "lexer" (t 0) (.ref b),dE P "refused" (t 2) (.bool false),dE P "row" (t 4) (.str (mk a) (t 5))]
def dj (t u v a:P2):Nat->Tok:=bl t [(0,(a 0)),(2,(a 1)),(4,(a 2)),(6,(a 3)),(7,(a 4)),(8,(a 5)),(9,(a 6)),(10,(a 7)),(11,(a 8)),(12,(a 9)),(13,(a 10)),(14,(a 11)),(16,(a 12)),(17,(a 13)),(18,(a 14)),(19,(a 15)),(20,(a 16)),(21,(a 17)),(22,(a 18)),(23,(a 19)),(24,(a 20)),(26,(a 21)),(27,(a 22)),(28,(a 23)),(29,(a 24)),(30,(a 25)),(31,(a 26)),(32,(a 27)),(34,(a 28)),(36,(a 29)),(37,(a 30))]
def Bd (t u v a:P2):Nat->Tok:=bl u [(0,(a 31)),(1,(a 32)),(2,(a 33)),(3,(a 34)),(4,(a 35)),(5,(a 36))]
def GG (t u v a:P2):Nat->Tok:=bl v [(5,(a 37))]
def wm (w:World) (W c r l b r3:P1) (k:Int) (f:Addr) (t u v:P2) (B:P8) (g:P6):a7:={
 B:=λa=>B,Hd:=g,O:=oT [mk [34],mk (34::(l++b))] (aC [([],fV (34::l) true),([],s6 w k f W [34] (some [34]) c r ⟨b,some [32],r3,none,[34],true⟩)]),k:=6,nn:=0,Pm:=38,H:=aQ 0x1988211b28e65b3989c060064a78606c80600,N:=95,
 cF:=λa=>kU (a 5),oF:=λa=>[ax (a 1),ay w.2 t (a 3) (a 2) f W [34] (some [32]) [],a6 k,aj (a 4),ao w.2 u c (ai c r),oi w.2 v (a 0) (34::l)],
 uF:=λa n e=>[ax (a 1),ay w.2 (dj t u v e) (a 3) (a 2) f W [34] (some [32]) [],a6 k,aj (a 4),ao w.2 (Bd t u v e) c (ai c r3),oi w.2 (GG t u v e) (a 0) (34::(l++b))],nF:=λa n e=>[],rF:=λa n e=>.again (kU (a 5)),idx:=[],Pn:=[6,8,10,12,13,14,15,16,17,18,19,20,22,23,24,25,26,27,28,29,30,32,33,34,35,36,37,38,40,42,43,46,47,48,49,50,51,53],d:=65,u:=650,
 facts:=[aD ((mk (34::l))++(mk b)),(mk (34::l))++(mk b)=(mk (34::(l++b))),true=true,aF W [34] c (some [34]) [] r ⟨b,some [32],r3,none,[34],true⟩,true=true,(34::l)≠[]/\(34::l).length<=900/\cu (34::l)=true,aD (mk (34::l)),ak .none,ak (.int (1:Int) 0),Txt.slice (mk (34::l)) none (some (1:Int))=(mk [34])]}
theorem Be {W:P1}:(wm w W a r l b d k e t u v B f).Runs w:=by intro c g h;kernel_rfl
noncomputable def qg (t u v a:P2):Nat->Tok:=v
def C4 (w:World) (W b r l:P1) (k:Int) (e:Addr) (t u v:P2) (B:P8) (f:P6):a7:={
 B:=λa=>B,Hd:=f,O:=oT [mk [34]] (aC [([],fV (34::l) false)]),k:=6,nn:=0,Pm:=0,H:=0x640006000000010601300600,N:=31,
 cF:=λa=>kU (a 5),oF:=λa=>[ax (a 1),ay w.2 t (a 3) (a 2) e W [34] (some [32]) [],a6 k,aj (a 4),ao w.2 u b (ai b r),oi w.2 v (a 0) (34::l)],
 uF:=λa n c=>[ax (a 1),ay w.2 (cM t u v c) (a 3) (a 2) e W [34] (some [32]) [],a6 k,aj (a 4),ao w.2 (c7 t u v c) b (ai b r),oi w.2 (qg t u v c) (a 0) (34::l)],nF:=λa n c=>[],rF:=λa n c=>.end_ (.ok .next),idx:=[],Pn:=[],d:=65,u:=650,
 facts:=[true=true,(34::l)≠[]/\(34::l).length<=900/\cu (34::l)=false,aD (mk (34::l)),ak .none,ak (.int (1:Int) 0),Txt.slice (mk (34::l)) none (some (1:Int))=(mk [34])]}
theorem Bf {W:P1}:(C4 w W a r l k c t u v B d).Runs w:=by intro b e f;kernel_rfl
def Mc (w:World) (W b r:P1) (c:Nat) (l:P1) (k:Int) (f:Addr) (t u v:P2) (B:P8) (g:P6):a7:={
 B:=λa=>B,Hd:=g,O:=oB [mk [c]],k:=6,nn:=0,Pm:=0,H:=845550231488000,N:=20,
 cF:=λa=>kU (a 5),oF:=λa=>[ax (a 1),ay w.2 t (a 3) (a 2) f W [34] (some [32]) [],a6 k,aj (a 4),ao w.2 u b (ai b r),oi w.2 v (a 0) (c::l)],
 uF:=λa n e=>[ax (a 1),ay w.2 (cM t u v e) (a 3) (a 2) f W [34] (some [32]) [],a6 k,aj (a 4),ao w.2 (c7 t u v e) b (ai b r),oi w.2 (qg t u v e) (a 0) (c::l)],nF:=λa n e=>[],rF:=λa n e=>.end_ (.ok .next),idx:=[],Pn:=[],d:=65,u:=650,
 facts:=[((mk [c]).cps.toList==(mk [34]).cps.toList)=false,aD (mk (c::l)),ak .none,ak (.int (1:Int) 0),Txt.slice (mk (c::l)) none (some (1:Int))=(mk [c])]}
theorem Nu {W:P1}:(Mc w W a r c l k d t u v B e).Runs w:=by intro b f g;kernel_rfl
def Me (w:World) (W b r:P1) (k:Int) (e:Addr) (t u v:P2) (B:P8) (f:P6):a7:={
 B:=λa=>B,Hd:=f,O:=oB [],k:=6,nn:=0,Pm:=0,H:=0x10707070700000600,N:=29,
 cF:=λa=>kU (a 5),oF:=λa=>[ax (a 1),ay w.2 t (a 3) (a 2) e W [34] (some [32]) [],a6 k,aj (a 4),ao w.2 u b (ai b r),oi w.2 v (a 0) []],
 uF:=λa n c=>[ax (a 1),ay w.2 (cM t u v c) (a 3) (a 2) e W [34] (some [32]) [],a6 k,aj (a 4),ao w.2 (c7 t u v c) b (ai b r),oi w.2 (qg t u v c) (a 0) []],nF:=λa n c=>[],rF:=λa n c=>.end_ (.ok .next),idx:=[],Pn:=[],d:=65,u:=650,
 facts:=[]}
theorem Nv {W:P1}:(Me w W a r k c t u v B d).Runs w:=by intro b e f;kernel_rfl
noncomputable def vq:List Nat->List Nat->Option (List Nat×P1)
 |_,[]=>none
 |row,c::r=>if c=34 then (if cu (row++[34]) then vq (row++[34]) r else some (row++[34],r)) else vq (row++[c]) r
def yN (a r:P1):Option (List Nat×P1):=if cu a then vq a r else some (a,r)
theorem qh:∀{r a:P1} {o:List Nat×P1},vq a r=some o->∃b d,r=b++34::d/\34∉b/\yN (a++(b++[34])) d=some o
 |[],_,_,h=>by cases h
 |c::r,a,o,h=>by
  unfold vq at h;by_cases f:c=34
  ·subst f
   rw [if_pos rfl] at h;exact ⟨[],r,rfl,by simp,h⟩
  ·rw [if_neg f] at h
   obtain ⟨b,d,rfl,g,e⟩:=qh h;refine ⟨c::b,d,rfl,?_,?_⟩
   ·intro i
    rcases List.mem_cons.mp i with e|e
    ·exact f e.symm
    ·exact g e
   ·simpa using e
theorem lk:∀{b a d:P1},34∉b->gX a (b++34::d)=⟨a++(b++[34]),some [32],d,none,[34],true⟩
 |[],a,d,_=>by
  show (if (34:Nat)=34 then _ else _)=_
  rw [if_pos rfl];rfl
 |c::b,a,d,h=>by
  have f:c≠34:=λe=>h (by rw [e];simp)
  show (if c=34 then _ else gX (a++[c]) (b++34::d))=_
  rw [if_neg f,lk (λe=>h (List.mem_cons_of_mem _ e))];simp
section
variable {w:World} {B:P8} {H:P6} {a:P4} {k:Int} {f:Addr} {W d:P1}
def Bg (w:World) (t u v:P2) (k:Int) (f:Addr) (W d b r:P1) (a:P4):P7:=
 [ax (a 1),ay w.2 t (a 3) (a 2) f W [34] (some [32]) [],a6 k,aj (a 4),ao w.2 u d (ai d r),oi w.2 v (a 0) b]
def OE (w:World) (F:aA) (B:P8) (H:P6) (a:P4) (e:P7) (k:Int) (f:Addr) (W d b r:P1):Prop:=
 ah aX w F 65 650 B H (kU (ae 6 a 5)) (ab a e) (λY c=>Bg w (sh 0 c) (sh 40 c) (sh 48 c) k f W d b r (ae 6 a)) 0 59 (λY Y=>[]) (λY Y=>.end_ (.ok .next)) (λY Y=>[])
theorem da {c:Nat} {l:P1}:Txt.slice (mk (c::l)) none (some (1:Int))=mk [c]:=by
 rw [iQ (by decide) (by simp;lia)];rfl
theorem Nw {F:aA} (g:Le (top w.2) F) {b:List Str} {c r:P1} {o:eN}:bH w F (oT b (aC [([],fV c true),([],s6 w k f W [34] (some [34]) d r o)])):=
 bh (aI ⟨λY e=>c9 (g.trans e),λY e=>i0 (g.trans e),trivial⟩)
theorem zq (C:d.length<=900) (x:10∉d):∀(n:Nat) (r:P1) {F:aA} (_:Le (top w.2) F) {t u v:P2} {l:P1} {o:List Nat×P1},r.length<=n->r <:+ d->l.length+r.length<900->yN (34::l) r=some o->
  OE w F B H a (Bg w t u v k f W d (34::l) r (ae 6 a)) k f W d o.1 o.2:=by
 intro n
 induction n with
 |zero=>
  intro r F h t u v l o D s E g;have:r=[]:=List.length_eq_zero_iff.mp (by lia)
  subst this;unfold yN at g;cases i:cu (34::l) with
  |true=>rw [i,if_pos rfl] at g;cases g
  |false=>
   rw [i] at g;cases g;exact ah.Pt (λY j=>zo (cM t u v j) (c7 t u v j) (qg t u v j) 0) ((C4 w W d [] l k f t u v B H).Pu h (mA λY m c y kn=>c9 (h.trans m) c y kn) Bf (ag ⟨rfl,⟨by simp,by simp;lia,i⟩,au (by simp;lia),trivial,trivial,da,trivial⟩) a)
    (λY Y=>by kernel_rfl) (λY Y=>rfl) (λY Y=>rfl) (λY Y=>rfl)
 |succ n G=>
  intro r F h t u v l o D s E g;unfold yN at g;cases i:cu (34::l) with
  |true=>
   rw [i,if_pos rfl] at g;obtain ⟨b,p,rfl,q,e⟩:=qh g;have A:(b++34::p).length=b.length+(p.length+1):=by simp
   have z:=iW s;exact ah.seq ((wm w W d (b++34::p) l (b++[34]) p k f t u v B H).Pu h (Nw h) Be (ag (by
    dsimp only [wm,ip];refine ⟨cZ (by simp;lia),bu _ _,rfl,⟨C,x,.inr rfl,s,.inr (.inr ⟨rfl,rfl,by simp at z⊢;lia,by simp,?_⟩)⟩,rfl,⟨by simp,by simp;lia,i⟩,au (by simp;lia),trivial,trivial,da,trivial⟩
    rw [lk q];rfl)) a) (λY Y=>rfl) (λY Y=>rfl)
    λI m J j=>G p (h.trans m) (by lia) ((List.suffix_append_of_suffix (List.suffix_cons _ _)).trans s) (by simp;lia) e
  |false=>
   rw [i] at g;cases g;exact ah.Pt (λY j=>zo (cM t u v j) (c7 t u v j) (qg t u v j) 0) ((C4 w W d r l k f t u v B H).Pu h (mA λY m c y kn=>c9 (h.trans m) c y kn) Bf (ag ⟨rfl,⟨by simp,by simp;lia,i⟩,au (by simp;lia),trivial,trivial,da,trivial⟩) a)
    (λY Y=>by kernel_rfl) (λY Y=>rfl) (λY Y=>rfl) (λY Y=>rfl)
end
end
noncomputable def WN:P1:=[97,98,92,39,34]
noncomputable def WV:P1:=[97,98,92,39,61]
noncomputable def WR:P1:=[97,98,92,39,61,34]
def Bh (w:World) (k:Int) (W a l r:P1) (o:List Nat×P1):aY:=λY b Y=>
 {need:=65,Po:=650,code:=kU (fA b 5),fs:=ab (fA b) (Bg w (aE (fO b 1)) (aE (fO b 4)) (aE (fO b 5)) k (di (fO b 1)) W a (34::l) r (fA b)),
  Pq:=[a.length<=900/\10∉a/\r <:+ a/\l.length+r.length<900/\yN (34::l) r=some o],wants:=[],
  upd:=λY c=>Bg w (sh 0 c) (sh 40 c) (sh 48 c) k (di (fO b 1)) W a o.1 o.2 (fA b),nn:=0,new:=λY Y=>[],Pm:=59,res:=λY Y=>.end_ (.ok .next),gives:=λY Y=>[]}
theorem wo {w:World} {F:aA} (d:Le (top w.2) F) {k:Int} {W b l r:P1} {o:List Nat×P1} (y:Code) (c:Qa) (kn:Qb):(Bh w k W b l r o y c kn).Ok w F:=by
 intro e _ C H _ _;obtain ⟨f,g,h,i,j⟩:b.length<=900/\10∉b/\r <:+ b/\l.length+r.length<900/\yN (34::l) r=some o:=e _ (.head _);exact ah.Pu (zq (a:=fA c) f g r.length r d (Nat.le_refl _) h i j)
def dB (t u a:P2):Nat->Tok:=bl t [(0,(a 0)),(2,(a 1)),(4,(a 2)),(6,(a 3)),(7,(a 4)),(8,(a 5)),(9,(a 6)),(10,(a 7)),(11,(a 8)),(12,(a 9)),(13,(a 10)),(14,(a 11)),(16,(a 12)),(17,(a 13)),(18,(a 14)),(19,(a 15)),(20,(a 16)),(21,(a 17)),(22,(a 18)),(23,(a 19)),(24,(a 20)),(26,(a 21)),(27,(a 22)),(28,(a 23)),(29,(a 24)),(30,(a 25)),(31,(a 26)),(32,(a 27)),(34,(a 28)),(36,(a 29)),(37,(a 30))]
def dW (t u a:P2):Nat->Tok:=bl aO [(2,(a 31))]
def dX (t u a:P2):Nat->Tok:=bl u [(0,(a 32)),(1,(a 33)),(2,(a 34)),(3,(a 35)),(4,(a 36)),(5,(a 37))]
def Bi (t u a:P2):Nat->Tok:=bl aO [(0,(a 38))]
def GH (w:World) (W Q b r:P1) (c:Nat) (l:P1) (st1:P9) (r1:P1) (pb:Option Nat) (nx:P1) (f:Bool) (k:Int) (g:Addr) (t u:P2) (B:P8) (h:P6):a7:={
 B:=λa=>B,Hd:=h,O:=oT [mk [c]] (aC [([],j8 w k WV [34] b r ⟨c::l,st1,r1,pb,nx,f⟩)]),k:=5,nn:=1,Pm:=39,H:=aQ 0x6df07c80600bdb28e64b3069c939c0782e1a69394a70098a7bd9894,N:=178,
 cF:=λa=>.call (.ref 812) ⟨[.ref (a 0),.bool false],[]⟩,oF:=λa=>[ax (a 1),ay w.2 t (a 3) (a 2) g W Q (some [32]) [],a6 k,aj (a 4),ao w.2 u b (ai b r)],
 uF:=λa n e=>[ax (a 1),ay w.2 (dB t u e) (a 3) (a 2) g WV [34] st1 [],cC pb k ((dW t u e) 2),aj (a 4),ao w.2 (dX t u e) b (ai b r1)],nF:=λa n e=>[az [.str (mk (c::l)) ((Bi t u e) 0),.bool false]],rF:=λa n e=>.end_ (.ok (.ret (.ref (n 0)))),idx:=[8],Pn:=[15,17,19,21,22,23,24,25,26,27,28,29,31,32,33,34,35,36,37,38,39,41,42,43,44,45,46,47,49,51,52,53,55,56,57,58,59,60,61],d:=80,u:=800,
 facts:=[((mk [c]).cps.toList==(mk [34]).cps.toList)=false,aD (mk (c::l)),ak .none,ak (.int (1:Int) 0),Txt.slice (mk (c::l)) none (some (1:Int))=(mk [c]),true=true,aF WV [34] b (some [32]) [] r ⟨c::l,st1,r1,pb,nx,f⟩/\(⟨c::l,st1,r1,pb,nx,f⟩:eN).w≠[]]}
theorem GI {W:P1}:(GH w W Q a r c l b e f g h k i t u B j).Runs w:=by intro d m n;kernel_rfl
def Bj (t u a:P2):Nat->Tok:=bl t [(0,(a 0)),(2,(a 1)),(4,(a 2)),(6,(a 3)),(7,(a 4)),(8,(a 5)),(9,(a 6)),(10,(a 7)),(11,(a 8)),(12,(a 9)),(13,(a 10)),(14,(a 11)),(16,(a 12)),(17,(a 13)),(18,(a 14)),(19,(a 15)),(20,(a 16)),(21,(a 17)),(22,(a 18)),(24,(a 19)),(26,(a 20)),(27,(a 21)),(28,(a 22)),(29,(a 23)),(30,(a 24)),(31,(a 25)),(32,(a 26)),(34,(a 27)),(36,(a 28)),(37,(a 29))]
def Bk (t u a:P2):Nat->Tok:=bl aO [(0,(a 36))]
def GJ (w:World) (W Q b r:P1) (k e:Int) (t u:P2) (B:P8) (f:P6):a7:={
 B:=λa=>B,Hd:=f,O:=oT [] (aC [([],A9 w k e WV [34] (some [32]) b r)]),k:=6,nn:=1,Pm:=37,H:=aQ 0xd4a1a1820700938ee064b3079cb09c088208b000b000b094000700a6e19394,N:=187,
 cF:=λa=>.call (.ref 812) ⟨[.ref (a 0),.bool false],[]⟩,oF:=λa=>[ax (a 1),ay w.2 t (a 3) (a 2) (a 5) W Q (some [32]) [],a6 k,aj (a 4),ao w.2 u b (ai b r),a6 e],
 uF:=λa n c=>[ax (a 1),ay w.2 (Bj t u c) (a 3) (a 2) (a 5) WV [34] none [],a6 k,aj (a 4),ao w.2 (jC t u c) b (ai b []),a6 e],nF:=λa n c=>[az [.str (mk []) ((Bk t u c) 0),.bool false]],rF:=λa n c=>.end_ (.ok (.ret (.ref (n 0)))),idx:=[9],Pn:=[15,17,19,21,22,23,24,25,26,27,28,29,31,32,33,34,35,36,37,39,41,42,43,44,45,46,47,49,51,52,55,56,57,58,59,60,61],d:=80,u:=800,
 facts:=[true=true,aF WV [34] b (some [32]) [] r eE/\(some [32]=some [32]\/some [32]=(none:P9))]}
theorem GK {W:P1}:(GJ w W Q a r k c t u B d).Runs w:=by intro b e f;kernel_rfl
def Bl (t u a:P2):Nat->Tok:=bl u [(0,(a 31)),(1,(a 32)),(2,(a 33)),(3,(a 34)),(4,(a 35)),(5,(a 36))]
def Bm (t u a:P2):Nat->Tok:=bl aO [(0,(a 37))]
def GL (w:World) (W Q b r l r1:P1) (o:List Nat×P1) (k:Int) (e:Addr) (t u:P2) (B:P8) (f:P6):a7:={
 B:=λa=>B,Hd:=f,O:=oT [] (aC [([],j8 w k WV [34] b r ⟨34::l,some [32],r1,none,[34],true⟩),([],Bh w k WV b l r1 o)]),k:=5,nn:=1,Pm:=38,H:=aQ 0x605e065bdb28e64b3069c939c0782e1a69394a70098a7bd9894,N:=167,
 cF:=λa=>.call (.ref 812) ⟨[.ref (a 0),.bool false],[]⟩,oF:=λa=>[ax (a 1),ay w.2 t (a 3) (a 2) e W Q (some [32]) [],a6 k,aj (a 4),ao w.2 u b (ai b r)],
 uF:=λa n c=>[ax (a 1),ay w.2 (dB t u c) (a 3) (a 2) e WV [34] (some [32]) [],a6 k,aj (a 4),ao w.2 (Bl t u c) b (ai b o.2)],nF:=λa n c=>[az [.str (mk o.1) ((Bm t u c) 0),.bool false]],rF:=λa n c=>.end_ (.ok (.ret (.ref (n 0)))),idx:=[7],Pn:=[63,65,67,69,70,71,72,73,74,75,76,77,79,80,81,82,83,84,85,86,87,89,90,91,92,93,94,95,97,99,100,103,104,105,106,107,108,116],d:=80,u:=800,
 facts:=[true=true,b.length<=900/\10∉b/\r1 <:+ b/\l.length+r1.length<900/\yN (34::l) r1=some o,true=true,aF WV [34] b (some [32]) [] r ⟨34::l,some [32],r1,none,[34],true⟩/\(⟨34::l,some [32],r1,none,[34],true⟩:eN).w≠[]]}
theorem GP {W:P1}:(GL w W Q a r l c o k d t u B e).Runs w:=by intro b f g;kernel_rfl
def GQ (t u a:P2):Nat->Tok:=bl aO [(0,(a 38))]
def Mf (w:World) (W Q b r:P1) (c:Nat) (l:P1) (st1:P9) (r1:P1) (pb:Option Nat) (nx:P1) (f:Bool) (k:Int) (g:Addr) (t u:P2) (B:P8) (h:P6):a7:={
 B:=λa=>B,Hd:=h,O:=oT [] (aC [([],j8 w k WR [] b r ⟨c::l,st1,r1,pb,nx,f⟩)]),k:=5,nn:=1,Pm:=39,H:=aQ 0xb28e64b3069c939c0782e1a69394a7a7bd9894,N:=145,
 cF:=λa=>.call (.ref 812) ⟨[.ref (a 0),.bool true],[]⟩,oF:=λa=>[ax (a 1),ay w.2 t (a 3) (a 2) g W Q (some [32]) [],a6 k,aj (a 4),ao w.2 u b (ai b r)],
 uF:=λa n e=>[ax (a 1),ay w.2 (dB t u e) (a 3) (a 2) g WR [] st1 [],cC pb k ((dW t u e) 2),aj (a 4),ao w.2 (dX t u e) b (ai b r1)],nF:=λa n e=>[az [.str (mk (c::l)) ((GQ t u e) 0),.bool true]],rF:=λa n e=>.end_ (.ok (.ret (.ref (n 0)))),idx:=[7],Pn:=[13,15,17,19,20,21,22,23,24,25,26,27,29,30,31,32,33,34,35,36,37,39,40,41,42,43,44,45,47,49,50,51,53,54,55,56,57,58,59],d:=80,u:=800,
 facts:=[true=true,aF WR [] b (some [32]) [] r ⟨c::l,st1,r1,pb,nx,f⟩/\(⟨c::l,st1,r1,pb,nx,f⟩:eN).w≠[]]}
theorem Nx {W:P1}:(Mf w W Q a r c l b e f g h k i t u B j).Runs w:=by intro d m n;kernel_rfl
section
section
variable {w:World} {F:aA} {B:P8} {H:P6} {a:P4} {t u v:P2} {g:Addr} {W Q e l f r i:P1} {x c:Nat} {q:Bool} {k:Int}
inductive uS:List Nat->List Nat->Prop
 |here (b:P1):uS (34::b) b
 |more {r b:P1}:uS r b->uS (32::r) b
theorem uS.PE {r b:P1} (h:uS r b):34::b <:+ r:=by
 induction h with
 |here b=>exact List.suffix_refl _
 |more _ d=>exact d.trans (List.suffix_cons _ _)
def OF (w:World) (F:aA) (B:P8) (H:P6) (a:P4) (d:P7) (k:Int) (g:Addr) (W e i:P1) (q:Bool) (f:P1):Prop:=
 ah aX w F 50 500 B H (fg (ae 6 a 5)) (ab a d) (λY b=>qc w (sh 0 b) (sh 40 b) (sh 48 b) k g W [34] (some [34]) i e [] q (some f) (ae 6 a)) 0 59 (λY Y=>[]) (λY Y=>.again (fg (ae 6 a 5))) (λY Y=>[])
theorem oo (n:e.length<=900) (o:10∉e) (z:34∉W) {b:P1} (A:34∉b):∀(r:P1) {F:aA} (_:Le (top w.2) F) {t u v:P2} (f:P9),r <:+ e->uS r b->
  OF w F B H a (qc w t u v k g W [34] (some [32]) [] e r false f (ae 6 a)) k g W e (34::b) (!b.isEmpty) [(34::b).getLastD 0]
 |[],F,j,t,u,v,f,m,h=>by cases h
 |c::r,F,j,t,u,v,f,m,h=>by
  cases h with
  |more h=>
   cases f with
   |none=>
    exact ah.seq ((nV w W [34] r e false k g t u v B H).Pu j (oS j) pX (ag ⟨rfl,n,m,trivial⟩) a) (λY Y=>rfl) (λY Y=>rfl)
     λC s D y=>oo n o z A r (j.trans s) (some [32]) (bb m) h
   |some f=>
    exact ah.seq ((nZ w W [34] r e f false k g t u v B H).Pu j (oS j) qa (ag ⟨rfl,n,m,trivial⟩) a) (λY Y=>rfl) (λY Y=>rfl)
     λC s D y=>oo n o z A r (j.trans s) (some [32]) (bb m) h
  |here=>
   have p:=iW m;simp only [List.length_cons] at p;cases b with
   |nil=>
    cases f with
    |none=>
     exact ah.Pt (λY y=>sZ ((iT w W [] e false k g t u v B H).uF (ae 6 a) (ae 0 a) y)) ((iT w W [] e false k g t u v B H).Pu j (oS j) k6 (ag ⟨bK z,rfl,n,m,trivial⟩) a)
      (λY Y=>by kernel_rfl) (λY Y=>rfl) (λY Y=>rfl) (λY Y=>rfl)
    |some f=>
     exact ah.Pt (λY y=>sZ ((iV w W [] e f false k g t u v B H).uF (ae 6 a) (ae 0 a) y)) ((iV w W [] e f false k g t u v B H).Pu j (oS j) k9 (ag ⟨bK z,rfl,n,m,trivial⟩) a)
      (λY Y=>by kernel_rfl) (λY Y=>rfl) (λY Y=>rfl) (λY Y=>rfl)
   |cons d b=>
    simp only [List.length_cons] at p;have E:(34::d::b).getLastD 0=(d::b).getLastD 0:=rfl;simp only [E];cases f with
    |none=>
     exact ah.seq ((iT w W (d::b) e false k g t u v B H).Pu j (oS j) k6 (ag ⟨bK z,rfl,n,m,trivial⟩) a) (λY Y=>rfl) (λY Y=>rfl)
      λC s D y=>iZ (tok:=[34]) n o b d (j.trans s) (some [34]) (bb m) (by simp;lia) A
    |some f=>
     exact ah.seq ((iV w W (d::b) e f false k g t u v B H).Pu j (oS j) k9 (ag ⟨bK z,rfl,n,m,trivial⟩) a) (λY Y=>rfl) (λY Y=>rfl)
      λC s D y=>iZ (tok:=[34]) n o b d (j.trans s) (some [34]) (bb m) (by simp;lia) A
def wq (w:World) (k:Int) (W e r b:P1) (j:Bool) (f:P1):aY:=λY d Y=>
 {need:=50,Po:=500,code:=fg (fA d 5),fs:=ab (fA d) (qc w (aE (fO d 1)) (aE (fO d 4)) (aE (fO d 5)) k (di (fO d 1)) W [34] (some [32]) [] e r false none (fA d)),
  Pq:=[e.length<=900/\10∉e/\34∉W/\34∉b/\r <:+ e/\uS r b/\j= !b.isEmpty/\f=[(34::b).getLastD 0]],wants:=[],
  upd:=λY h=>qc w (sh 0 h) (sh 40 h) (sh 48 h) k (di (fO d 1)) W [34] (some [34]) (34::b) e [] j (some f) (fA d),nn:=0,new:=λY Y=>[],Pm:=59,res:=λY Y=>.again (fg (fA d 5)),gives:=λY Y=>[]}
theorem qi (j:Le (top w.2) F) {b:P1} {d:Bool} (y:Code) (h:Qa) (kn:Qb):(wq w k W e r b d f y h kn).Ok w F:=by
 intro m _ C H _ _;obtain ⟨n,o,p,s,z,A,rfl,rfl⟩:e.length<=900/\10∉e/\34∉W/\34∉b/\r <:+ e/\uS r b/\d= !b.isEmpty/\f=[(34::b).getLastD 0]:=m _ (.head _);exact ah.Pu (oo (a:=fA h) n o p s r j none z A)
end
end
section
noncomputable def gI (f:Addr) (d:Bool) (b:List (Code×Pos)):P5:=match b.find? λ(c,_)=>c.env?.bind (·.frame)==some f with
 |some (_,a)=>(if a.line==0 then [] else [rawInt a.line,rawInt a.endLine,rawInt a.col,rawInt a.endCol]++EntryCells.cells f d b)
 |none=>[]
noncomputable def cp (o:Obj) (i:Nat):Value:=match o.data with
 | .fields a=>a.toList.getD i .notImplemented
 |_=>.notImplemented
noncomputable def wu (l:P5):P5:=if l.isEmpty then List.replicate 6 .none else l
def C5 (h:Value) (f:Addr) (l:P5):P5:=h::.ref f::.none::rawInt f::.none::wu l
theorem tU (f:Addr) (b:Bool) (a:List (Code×Pos)):(EntryCells.cells f b a).length=2:=by
 unfold EntryCells.cells;split<;>rfl
theorem qj (f:Addr) (b:Bool) (a:List (Code×Pos)):(gI f b a).length<=6:=by
 unfold gI;split
 ·split
  ·simp
  ·rw [List.length_append,tU];simp
 ·simp
theorem qk (h:Value) (f:Addr) (l:P5) (a:l.length<=6):EntryCells.newEntry h (.ref f) .none (rawInt f) .none l=newObjAsIs (.type "traceback") (.fields (C5 h f l).toArray):=by
 delta EntryCells.newEntry newFields newObj;have e:([h,.ref f,.none,rawInt f,.none]++(if l.isEmpty then List.replicate 6 .none else l))=C5 h f l:=rfl
 rw [e];have b:(C5 h f l).toArray.size<=11:=by
  have:(wu l).length<=6:=by
   delta wu;split
   ·simp
   ·exact a
  show (C5 h f l).length<=11;delta C5;simp only [List.length_cons];lia
 dsimp only;rw [if_neg (by delta sizeLine;lia)]
def ET (h:Value) (b:Bool) (e f:Addr) (L:List Env):Sem Unit:=do
 readyFrames L
 let a <-stack
 setField (.ref e) 1 (<-newObjAsIs (.type "traceback") (.fields (C5 h f (gI f b a)).toArray))
noncomputable def cj (l:P8):List Env:=(l.filter Code.isFrame).filterMap Code.env?
theorem gZ:∀l:List (Code×Pos),(l.filter (·.1.isFrame)).filterMap (·.1.env?)=cj (l.map (·.1))
 |[]=>rfl
 |x::l=>by
  unfold cj;rw [List.map_cons,List.filter_cons,List.filter_cons];have a:=gZ l;unfold cj at a;cases x.1.isFrame with
  |false=>exact a
  |true=>
   simp only [if_true];rw [List.filterMap_cons,List.filterMap_cons];cases x.1.env? with
   |none=>exact a
   |some e=>exact congrArg (e::·) a
set_option tactic.hygienic true in
theorem rN {o:Obj} {i:Nat} {x:Value} (h:cp o i=x) (b:x≠ .notImplemented):∃a,o.data= .fields a/\a[i]? =some x:=by
 unfold cp at h;split at h
 ·rename_i a c
  refine ⟨a,c,?_⟩;rw [List.getD_eq_getElem?_getD] at h;rw [<-Array.getElem?_toList];cases q:a.toList[i]? with
  |none=>rw [q] at h;exact absurd h.symm b
  |some y=>rw [q] at h;exact congrArg some h
 ·exact absurd h.symm b
section
variable {M:Model} {Γ:Ctx} {Q:Unit->Pos->Shared->Prop} {E:Value->Pos->Shared->Prop} {p:Pos} {s:Shared} {b:Env} {e f h:Addr} {o d:Obj} {c:Env} {L:List Env}
theorem fW {α:Type} {Q:α->Pos->Shared->Prop} {a:Addr} {o:Obj} {i:Nat} {x:Value} {k:Value->Sem α} (g:s.1.get? a=some o) (j:cp o i=x) (l:x≠ .notImplemented):Sem.wp M Γ (field (.ref a) i>>=k) Q E p s=Sem.wp M Γ (k x) Q E p s:=by
 obtain ⟨q,m,n⟩:=rN j l;rw [Sem.wp_bind'];delta field fieldsOf;rw [Sem.wp_bind'];rw [Sem.wp_bind',Sem.wp_load_of M Γ E p s g,m];rw [Sem.wp_pure',n];rfl
set_option tactic.hygienic true in
theorem mB (f:Addr) (g:Bool):entryPlaceOf f g=(stack>>=λa=>(pure (gI f g a):Sem P5)):=by
 delta entryPlaceOf gI;refine congrArg (Sem.bind _) (funext λa=>?_);dsimp only;split<;>(rename_i q;simp only [q])
theorem wx {α:Type} {Q:α->Pos->Shared->Prop} {k:Value->Sem α} (g:b.frame=some f) (i:cj (Γ.code::Γ.below.map (·.1))=c::L) (a:c.frame=some f):Sem.wp M Γ (PySem.frameOf b>>=k) Q E p s=Sem.wp M Γ (readyFrames (c::L)>>=λY=>k (.ref f)) Q E p s:=by
 delta PySem.frameOf frameEnvs;have j:((((Γ.code,p)::Γ.below).filter (·.1.isFrame)).filterMap (·.1.env?)).dropWhile (·.frame != b.frame)=c::L:=by
  rw [gZ];show List.dropWhile _ (cj (Γ.code::Γ.below.map (·.1)))=_;rw [i,List.dropWhile_cons,g,a];simp
 show Sem.wp M Γ ((((stack>>=λl=>(pure ((l.filter (·.1.isFrame)).filterMap (·.1.env?)):Sem (List Env)))>>=λm=>frameObject (m.dropWhile (·.frame != b.frame)))>>=λr=>match r with|some f=>(pure f:Sem Value)|none=>unsupported "internal:frame-not-on-the-stack")>>=k) Q E p s=_
 delta stack;rw [Sem.wp_bind',Sem.wp_bind',Sem.wp_bind',Sem.wp_bind',Sem.wp_stack];rw [show ∀(X:List (Code×Pos)) (Q:List (Code×Pos)->Pos->Shared->Prop),Sem.wp M Γ (Sem.pure X) Q E p s=Q X p s from λY Y=>Sem.wp_pure ..]
 rw [Sem.wp_pure',j];show Sem.wp M Γ (readyFrames (c::L)>>=λY=>(pure (c.frame.map Value.ref):Sem P6)) _ E p s=_;rw [Sem.wp_bind',a,Sem.wp_bind'];refine congrArg (λQ=>Sem.wp M Γ (readyFrames (c::L)) Q E p s) (funext λY=>funext λn=>funext λq=>?_);rw [Sem.wp_pure'];show Sem.wp M Γ (pure (Value.ref f)) _ E n q=_;rw [Sem.wp_pure']
theorem lq {j:Value} {a:Bool} (n:b.frame=some f) (q:cj (Γ.code::Γ.below.map (·.1))=c::L) (r:c.frame=some f)
  (z:Sem.wp M Γ (ET j a e f (c::L)) Q E p s):Sem.wp M Γ (do setField (.ref e) 1 (<-EntryCells.newEntry j (<-PySem.frameOf b) .none (rawInt f) .none (<-entryPlaceOf f a))) Q E p s:=by
 rw [wx n q r,mB];unfold ET at z;rw [Sem.wp_bind'] at z⊢;refine Sem.wp_mono M Γ _ (λu k l m=>?_) (λY Y Y g=>g) p s z;rw [Sem.wp_bind'] at m⊢;rw [Sem.wp_bind'];refine Sem.wp_mono M Γ _ (λu k l i=>?_) (λY Y Y g=>g) k l m;rw [Sem.wp_pure',qk _ _ _ (qj f a _)];exact i
theorem rO (a:b.frame=some f) (g:s.1.get? e=some o) (i:cp o 1= .none) (j:cj (Γ.code::Γ.below.map (·.1))=c::L) (k:c.frame=some f)
  (z:Sem.wp M Γ (ET .none false e f (c::L)) Q E p s):Sem.wp M Γ (noteFrame (.ref e) b) Q E p s:=by
 unfold noteFrame;rw [a];rw [fW g i (by intro q;injection q)]
 exact lq a j k z
theorem rP (a:b.frame=some f) (g:s.1.get? e=some o) (i:cp o 1= .ref h) (j:s.1.get? h=some d) (k:cp d 3=rawInt f)
  (z:Q () p s):Sem.wp M Γ (noteFrame (.ref e) b) Q E p s:=by
 unfold noteFrame;rw [a];rw [fW g i (by intro q;injection q)]
 rw [if_pos (by rfl:((Value.ref h != Value.none)=true)),fW j k (by intro q;injection q),if_pos (by simp),Sem.wp_pure']
 exact z
theorem ql (a:b.frame=some f) (g:s.1.get? e=some o) (i:cp o 1= .ref h) (j:s.1.get? h=some d) (k:cp d 3= .none) (l:cj (Γ.code::Γ.below.map (·.1))=c::L) (m:c.frame=some f)
  (z:Sem.wp M Γ (setField (.ref h) 3 .none>>=λY=>ET (.ref h) true e f (c::L)) Q E p s):Sem.wp M Γ (noteFrame (.ref e) b) Q E p s:=by
 unfold noteFrame;rw [a];dsimp only;rw [fW g i (by intro q;injection q)]
 rw [if_pos (by rfl:((Value.ref h != Value.none)=true)),fW j k (by intro q;injection q),if_neg (by intro q;injection q)]
 rw [Sem.wp_bind'] at z⊢;refine Sem.wp_mono M Γ _ (λu t v n=>?_) (λY Y Y r=>r) p s z;exact lq a l m n
end
def Kn (h:Value) (b:Bool) (e f:Addr) (L:List Env):Sem Unit:=
 (PySem.W.Fast.tw9112722382718976056 L).bind λY=>stack.bind λa=>(PySem.W.Fast.tw13933868625532259289 (.type "traceback") (.fields (C5 h f (gI f b a)).toArray) none).bind λx=>PySem.W.Fast.tw17858455048448223758 (.ref e) 1 x
theorem wy {h:Value} {a:Bool} {e f:Addr} {L:List Env}:Kn h a e f L=ET h a e f L:=by
 delta Kn ET;rw [<-PySem.W.Fast.te9112722382718976056,<-PySem.W.Fast.te13933868625532259289,<-PySem.W.Fast.te17858455048448223758];rfl
noncomputable abbrev KT:=Code->Value->Sem Unit->Sem Fin
noncomputable def iq {α:Type} (g:Sem Unit->Sem α):Prop:=∀(M:Model) (Γ:Ctx) (p:Pos) (s:Shared) (m a:Sem Unit),(∀(Q:Unit->Pos->Shared->Prop) (E:Value->Pos->Shared->Prop),Sem.wp M Γ a Q E p s->Sem.wp M Γ m Q E p s)->∀(Q:α->Pos->Shared->Prop) (E:Value->Pos->Shared->Prop),Sem.wp M Γ (g a) Q E p s->Sem.wp M Γ (g m) Q E p s
theorem iq.id:iq λm=>m:=λY Y Y Y Y Y h Q E z=>h Q E z
theorem iq.bind {α β:Type} {g:Sem Unit->Sem α} (h:iq g) (K:α->Sem β):iq λm=>PySem.W.R.bindR (g m) K:=λM Γ p s m a b Q E z=>by
 rw [<-PySem.W.R.bindR_eq,Sem.wp_bind] at z⊢;exact h M Γ p s m a b _ _ z
theorem iq.onRaise {α:Type} {g:Sem Unit->Sem α} (h:iq g) (K:Value->Sem Unit):iq λm=>PySem.W.R.onRaiseR (g m) K:=λM Γ p s m a b Q E z=>by
 rw [<-PySem.W.R.onRaiseR_eq,Sem.wp_onRaise] at z⊢;exact h M Γ p s m a b _ _ z
def C6 (kt:KT):Prop:=∀c e,iq (kt c e)
noncomputable def s7 (L:List Env):Value:=match L with
 |e0::_=>match e0.frame with
  |some f=>.ref f
  |none=>.none
 |[]=>.none
set_option tactic.hygienic true in
theorem m4 {L:List Env} {f:Addr} (h:s7 L= .ref f):∃a b,L=a::b/\a.frame=some f:=by
 unfold s7 at h;split at h
 ·split at h
  ·rename_i d c
   cases h;exact ⟨_,_,rfl,c⟩
  ·cases h
 ·injection h
def wz (b:Nat) (kt:KT) (c:Code) (d:Qa) (C:P8):Option uX:=match c.env? with
 |some a=>match a.frame with
  |some f=>match d with
   |pe::r=>match Nat.beq b 0 with
    |true=>some {tree:=kt c (.ref pe.1) (PySem.W.Fast.tw17872113653443481271 (.ref pe.1) a),next:=kt c (.ref pe.1) (Kn .none false pe.1 f (cj (c::C))),eqs:=[(.val (cp pe.2 1),.val .none),(.val (s7 (cj (c::C))),.val (.ref f))]}
    |false=>match r with
     |ph::_=>match Nat.beq b 1 with
      |true=>some {tree:=kt c (.ref pe.1) (PySem.W.Fast.tw17872113653443481271 (.ref pe.1) a),next:=kt c (.ref pe.1) (.pure ()),eqs:=[(.val (cp pe.2 1),.val (.ref ph.1)),(.val (cp ph.2 3),.val (rawInt f))]}
      |false=>some {tree:=kt c (.ref pe.1) (PySem.W.Fast.tw17872113653443481271 (.ref pe.1) a),next:=kt c (.ref pe.1) ((PySem.W.Fast.tw17858455048448223758 (.ref ph.1) 3 .none).bind λY=>Kn (.ref ph.1) true pe.1 f (cj (c::C))),eqs:=[(.val (cp pe.2 1),.val (.ref ph.1)),(.val (cp ph.2 3),.val .none),(.val (s7 (cj (c::C))),.val (.ref f))]}
     |[]=>none
   |[]=>none
  |none=>none
 |none=>none
theorem rQ {kt:KT} (j:C6 kt) {M:Model} {A:Around} {C:P8} {c:Code} {e:Value} {m d:Sem Unit} {Q:Fin->Shared->Prop} {E:Value->Shared->Prop} {s:Shared}
  (h:∀(Γ:Ctx) (p:Pos) (a:Unit->Pos->Shared->Prop) (b:Value->Pos->Shared->Prop),Γ.code=c->Γ.below.map (·.1)=C->Sem.wp M Γ d a b p s->Sem.wp M Γ m a b p s) (z:eM M A C c (kt c e d) Q E s):eM M A C c (kt c e m) Q E s:=λΓ p g f i=>
 j c e M Γ p s m d (λa b y=>h Γ p a b g i y) _ _ (z Γ p g f i)
set_option tactic.hygienic true in
theorem wA {w:World} {g:Nat} {kt:KT} (m:C6 kt) {c:Code} {u:Qa} {C:P8} {x:uX} (h:wz g kt c u C=some x):x.Ok aX w c u C:=by
 unfold wz at h;split at h
 ·rename_i D v
  split at h
  ·rename_i f n
   split at h
   ·rename_i d r
    split at h
    ·cases h
     intro b A s Q E a z;have i:cp d.2 1= .none:=Ob.val.inj (b (_,_) (List.mem_cons_self));have o:=Ob.val.inj (b (_,_) (List.mem_cons_of_mem _ (List.mem_cons_self)));obtain ⟨G,L,j,q⟩:=m4 o;refine rQ m (λΓ p y B k l z=>?_) z;rw [<-PySem.W.Fast.te17872113653443481271];rw [wy,j] at z;exact rO n (a d (by simp)) i (by rw [k,l];exact j) q z
    ·split at h
     ·rename_i e r
      split at h
      ·cases h
       intro b A s Q E a z;have i:cp d.2 1= .ref e.1:=Ob.val.inj (b (_,_) (List.mem_cons_self));have t:cp e.2 3=rawInt f:=Ob.val.inj (b (_,_) (List.mem_cons_of_mem _ (List.mem_cons_self)));refine rQ m (λΓ p y B k l z=>?_) z;rw [<-PySem.W.Fast.te17872113653443481271];rw [Sem.wp_pure] at z;exact rP n (a d (by simp)) i (a e (by simp)) t z
      ·cases h
       intro b A s Q E a z;have i:cp d.2 1= .ref e.1:=Ob.val.inj (b (_,_) (List.mem_cons_self));have t:cp e.2 3= .none:=Ob.val.inj (b (_,_) (List.mem_cons_of_mem _ (List.mem_cons_self)));have o:=Ob.val.inj (b (_,_) (List.mem_cons_of_mem _ (List.mem_cons_of_mem _ (List.mem_cons_self))));obtain ⟨G,L,j,q⟩:=m4 o;refine rQ m (λΓ p y B k l z=>?_) z;rw [<-PySem.W.Fast.te17872113653443481271];rw [wy,j,<-PySem.W.Fast.te17858455048448223758] at z;exact ql n (a d (by simp)) i (a e (by simp)) t (by rw [k,l];exact j) q z
     ·cases h
   ·cases h
  ·cases h
 ·injection h
noncomputable def kW:KT:=λY e m=>PySem.W.R.bindR (PySem.W.R.bindR m λY=>PySem.W.Fast.tw1623429502029203251 e) λY=>.raise e
theorem dC:C6 kW:=λY Y=>(iq.id.bind _).bind _
noncomputable def GS:Flow->Sem Fin:=λr=>match r with
 | .ret v=>PySem.W.Fast.tw6905046200447255374 v
 |_=>PySem.W.Fast.tw6905046200447255374 .none
def kF:KT:=λY e m=>PySem.W.R.bindR (PySem.W.R.bindR (PySem.W.R.bindR m λY=>PySem.W.Fast.tw5670386056902412789 e none) λY=>(.raise e:Sem Flow)) GS
theorem fX:C6 kF:=λY Y=>((iq.id.bind _).bind _).bind _
noncomputable def Mg:Stmt->List ExceptHandler
 | .Try _ a _ _ _=>a
 |_=>[]
noncomputable def Mh (e:Value) (a:Env) (b:List ExceptHandler) (m:Sem Unit):Sem Flow:=PySem.W.R.bindR m λY=>PySem.W.R.bindR (PySem.W.Fast.tw5670386056902412789 e none) λY=>PySem.W.Fast.tw14206642085496868694 e a b
noncomputable def GU (a:List Stmt) (b:Env):Flow->Sem Flow:=λf=>match f with
 | .next=>PySem.W.Fast.tw12563942051412417395 a b
 |f=>.pure f
def s8 (a:List Stmt) (i:Nat) (b:Env) (e:Value) (m:Sem Unit):Sem Flow:=PySem.W.R.bindR (Mh e b (Mg (nO a i)) m) (GU (a.drop (i+1)) b)
def C7 (i:Nat):KT:=λc e m=>match c with
 | .func a b=>PySem.W.R.bindR (PySem.W.R.onRaiseR (s8 a i b e m) (PySem.W.Fast.tw9442747609961115081 b)) GS
 |_=>kW c e m
noncomputable def GV (c:Code):Flow->Sem Fin:=λf=>match f with
 | .next=>PySem.W.Fast.tw12377390311714414960 c
 | .cont=>PySem.W.Fast.tw12377390311714414960 c
 | .brk=>.pure (.done .next)
 | .ret v=>.pure (.done (.ret v))
def GX (i:Nat):KT:=λc e m=>match c with
 | .whileLoop _ a _ b=>PySem.W.R.onRaiseR (PySem.W.R.bindR (s8 a i b e m) (GV c)) (λx=>PySem.W.R.bindR (PySem.W.Fast.tw17872113653443481271 x b) λY=>PySem.W.Fast.tw1623429502029203251 x)
 |_=>kW c e m
theorem gJ {i:Nat}:C6 (C7 i):=λc e=>by
 cases c with
 |func a b=>exact (iq.onRaise ((iq.id.bind _).bind _) _).bind _
 |_=>exact dC Kg e
theorem zr {i:Nat}:C6 (GX i):=λc e=>by
 cases c with
 |whileLoop b d a f=>exact iq.onRaise (((iq.id.bind _).bind _).bind _) _
 |_=>exact dC Kg e
def fJ (l:List (Nat×KT)):EM:=λa c b C=>match l.drop a with
 |p::_=>wz p.1 p.2 c b C
 |[]=>none
set_option tactic.hygienic true in
theorem dY {w:World} {l:List (Nat×KT)} (h:∀p∈l,C6 p.2):∀id c a C x,fJ l id c a C=some x->x.Ok aX w c a C:=by
 intro id c a C x e;unfold fJ at e;split at e
 ·rename_i p r b
  exact wA (h p (List.mem_of_mem_drop (by rw [b];exact List.mem_cons_self))) e
 ·injection e
end
def Mi (w:World) (t u:P2) (k:Int) (c:Addr) (W Q:P1) (d:P9) (b:P1) (a:P4):P7:=
 [ax (a 1),ay w.2 t (a 3) (a 2) c W Q d [],a6 k,aj (a 4),ao w.2 u b 0]
def ir (w:World) (k:Int) (W Q a:P1) (o:eN):aY:=λY b Y=>
 {need:=70,Po:=700,code:=.call (.ref 734) ⟨[.ref (fA b 0)],[]⟩,fs:=ab (fA b) (Mi w (aE (fO b 1)) (aE (fO b 4)) k (di (fO b 1)) W Q (some [32]) a (fA b)),Pq:=[aF W Q a (some [32]) [] a o/\o.w≠[]],wants:=[],
  upd:=λY c=>Kl w c k (di (fO b 1)) W Q a o (fA b),nn:=0,new:=λY Y=>[],Pm:=47,res:=λY c=>.end_ (.ok (.ret (.str (mk o.w) (c 46)))),gives:=λY Y=>[]}
theorem m5 (a:P1):ai a a=0:=by unfold ai;simp
theorem dM {w:World} {F:aA} (d:Le (top w.2) F) {k:Int} {W Q b:P1} {o:eN} (y:Code) (c:Qa) (kn:Qb):(ir w k W Q b o y c kn).Ok w F:=by
 intro e _ C f _ _;have h:aF W Q b (some [32]) [] b o/\o.w≠[]:=e _ (.head _);have z:=ah.Pu (CY (a:=fA c) (B:=C) (H:=f) (t:=aE (fO c 1)) (u:=aE (fO c 4)) (k:=k) (fa:=di (fO c 1)) d h.1 h.2);unfold rM at z;rw [m5] at z;exact z
def wB (t u a:P2):Nat->Tok:=bl aO [(0,(a 38))]
def wC (t u a:P2):Nat->Tok:=bl aO [(0,(a 39)),(1,(a 40)),(2,(a 41)),(3,(a 42)),(4,(a 43)),(5,(a 44))]
def wD (t u a:P2):Nat->Tok:=bl aO [(2,(a 45))]
def GY (w:World) (W Q c r b:P1) (g:Bool) (h l:P1) (st1:P9) (r1:P1) (pb:Option Nat) (nx1:P1) (f:Bool) (k i:Int) (v:Value) (j:Array DictEntry) (m:Nat) (o:Array DictEntry) (p:Nat) (q:Array DictEntry) (s:Nat) (t u:P2):a7:={
 B:=λa=>[a9 (a 6),kr (a 6),bO v (a 7),eT (a 7),d5 (a 8),d6],Hd:=none,O:=oT [mk (34::b)] (aC [([],wq w k WV c r b g h),([],uR w c),([],ir w k WR [] (34::b) ⟨34::l,st1,r1,pb,nx1,f⟩)]),k:=9,nn:=4,Pm:=46,H:=aQ 0x96a318198d8e66b30a9c1e1e9c1e821e1e1e001e1e001e1e94c9c0159c159c15159c1515069898a7008b158b158b1598988b151515cf1919821a9e1a001a821a951a1b1c831c831c1c1c1ccf00cb9e1a951a1c1c1c001c1c94001b191a871a9e1a9e1a1b1b191919821a9e1a001a821a951a1b191919821a9e1a001a821a951a1b191919821a9e1a001a821a951a1b1b871b821b831b831b1b871b821b1b1b001b1b001b1b8cff871a001a9ed6d6180087188c181818ed18ed1894828795d6158287158215150015150015158cffc98daf0a9c0a9c0a9682108b9683821110c4c4870a82a3bb10c48cbb10ab0aca120f0203efca10ab0cb9110f90efb910110f8defb9ababa1b09396a9b50fb1efabababab00ab00ab87858b0d8c0db5c00d8b0d838b0d8b0d838b0d830db5009f0265ea8b0dc00eb6dd0d000ce064b500b500b594b30c039797c68beb94b30a9ca89c0beca800a800a894c900a30aa39694,N:=1637,
 cF:=λa=>.call (.ref 812) ⟨[.ref (a 0),.bool false],[]⟩,oF:=λa=>[ax (a 1),ay w.2 t (a 3) (a 2) (a 5) W Q (some [32]) [],a6 k,aj (a 4),ao w.2 u c (ai c r),a6 i,aS j m #[],aS o p #[],aS q s #[]],
 uF:=λa n e=>[ax (a 1),ay w.2 (dB t u e) (n 1) (a 2) (a 5) WR [] st1 [],cC pb k ((dW t u e) 2),aj (a 4),ao w.2 (dX t u e) c (ai c []),c5 i (.ref (n 3)),aS j m (dI 823 824 (.ref (a 7))),aS o p (dI 842 843 (.ref (a 8))),aS q s nP],nF:=λa n e=>[az [.str (mk (34::l)) ((wB t u e) 0),.bool true],aj (n 2),ao w.2 (wC t u e) (34::b) (ai (34::b) r1),az [.none,.ref (a 3),.int 1 ((wD t u e) 2)]],rF:=λa n e=>.end_ (.ok (.ret (.ref (n 0)))),idx:=[30,25,24,28],Pn:=[170,172,174,176,177,178,179,180,181,182,183,184,186,187,188,189,190,191,192,193,194,196,197,198,199,200,201,202,204,206,207,208,63,64,65,66,67,68,216,210,211,212,213,214,215,50],X:=fJ [(0,kW),(1,kF),(2,kF),(2,C7 3)],d:=80,u:=800,
 facts:=[true=true,aF WR [] (34::b) (some [32]) [] (34::b) ⟨34::l,st1,r1,pb,nx1,f⟩/\(⟨34::l,st1,r1,pb,nx1,f⟩:eN).w≠[],aD ((mk [])++(mk (34::b))),(mk [])++(mk (34::b))=(mk (34::b)),true=true,c.length<=900,true=true,c.length<=900/\10∉c/\34∉WV/\34∉b/\r <:+ c/\uS r b/\g= !b.isEmpty/\h=[(34::b).getLastD 0]]}
theorem GZ {W:P1}:(GY w W Q a r b g h l c i j d e k m n o p q s v x t u).Runs w:=by intro f y z;kernel_rfl
def wF (t u a:P2):Nat->Tok:=bl aO [(0,(a 38))]
def wG (t u a:P2):Nat->Tok:=bl aO [(0,(a 39)),(1,(a 40)),(2,(a 41)),(3,(a 42)),(4,(a 43)),(5,(a 44))]
def wH (t u a:P2):Nat->Tok:=bl aO [(2,(a 45))]
def G3 (w:World) (W Q c r b:P1) (h:Bool) (i l:P1) (st1:P9) (r1:P1) (pb:Option Nat) (nx1:P1) (f:Bool) (k j:Int) (s:Value) (m:Array DictEntry) (o:Nat) (p:Array DictEntry) (q:Nat) (g:Addr) (t u:P2):a7:={
 B:=λa=>[a9 (a 6),kr (a 6),bO s (a 7),eT (a 7),d5 g,d6],Hd:=none,O:=oT [mk (34::b)] (aC [([],wq w k WV c r b h i),([],uR w c),([],ir w k WR [] (34::b) ⟨34::l,st1,r1,pb,nx1,f⟩)]),k:=8,nn:=4,Pm:=46,H:=aQ 0xa1a10017188d8e66b3099c1d1d9c1d821d1d1d001d1d001d1d94b4c0149c149cbb9cbb069898a7008b148b148b1498988b14bbed1818c7e2cfc795191a1b831b831b1b1b1bedcf19e295191b1b1b001b1b94001a18198719e2e2cb181818c7e2cfc795191a181818c7e2cfc795191a181818c7e2cfc79519cb871a821a831a83cb871a821acb00cb00cb8cff8719cf9ed6d6170087178c17171700171700171794828795d61482871482bb00bb00bb8cffb48daf099c099c09a182108ba18382100fc3c3870982a100ca0fc38cca0fac09b9110e0203efb90fac0bba100e90efba0f100e8defbaacac0893a1a8a90eb1efacacacac00ac00ac87858b0c8cebc00c8b0c838b0c8b0c838b0c83eb009f0265ea8b0cc00db5dd0cc2e064a900a900a994b30b039797c68b0ba894b3099c969c0a820aa3a39694b400a1b4a100a194,N:=1633,
 cF:=λa=>.call (.ref 812) ⟨[.ref (a 0),.bool false],[]⟩,oF:=λa=>[ax (a 1),ay w.2 t (a 3) (a 2) (a 5) W Q (some [32]) [],a6 k,aj (a 4),ao w.2 u c (ai c r),a6 j,aS m o #[],aS p q (dI 842 843 (.ref g))],
 uF:=λa n e=>[ax (a 1),ay w.2 (dB t u e) (n 1) (a 2) (a 5) WR [] st1 [],cC pb k ((dW t u e) 2),aj (a 4),ao w.2 (dX t u e) c (ai c []),c5 j (.ref (n 3)),aS m o (dI 823 824 (.ref (a 7))),aS p q (dI 842 843 (.ref g))],nF:=λa n e=>[az [.str (mk (34::l)) ((wF t u e) 0),.bool true],aj (n 2),ao w.2 (wG t u e) (34::b) (ai (34::b) r1),az [.none,.ref (a 3),.int 1 ((wH t u e) 2)]],rF:=λa n e=>.end_ (.ok (.ret (.ref (n 0)))),idx:=[29,24,23,27],Pn:=[170,172,174,176,177,178,179,180,181,182,183,184,186,187,188,189,190,191,192,193,194,196,197,198,199,200,201,202,204,206,207,208,63,64,65,66,67,68,216,210,211,212,213,214,215,50],X:=fJ [(0,kW),(1,kF),(2,kF),(2,C7 3)],d:=80,u:=800,
 facts:=[true=true,aF WR [] (34::b) (some [32]) [] (34::b) ⟨34::l,st1,r1,pb,nx1,f⟩/\(⟨34::l,st1,r1,pb,nx1,f⟩:eN).w≠[],aD ((mk [])++(mk (34::b))),(mk [])++(mk (34::b))=(mk (34::b)),true=true,c.length<=900,true=true,c.length<=900/\10∉c/\34∉WV/\34∉b/\r <:+ c/\uS r b/\h= !b.isEmpty/\i=[(34::b).getLastD 0]]}
theorem G4 {W:P1}:(G3 w W Q a r b g h l c i j d e k m n o p q s v t u).Runs w:=by intro f x y;kernel_rfl
section
theorem ah.refl {w:World} {F:aA} {d u Pm:Nat} {C:P8} {H:P6} {c:Code} {a:P4} {os:P7} {upd:P4->P2->P7} (σ:P2) (j:∀ad,upd ad (ae Pm σ)=os):
  ah aX w F d u C H c (ab a os) upd 0 Pm (λY Y=>[]) (λY Y=>.again c) (λY Y=>[]):=by
 intro A s R _ _ _ k b _ l;refine l s (λY=>0) σ F ⟨Le.refl F,k,λY Y e=>.inl e⟩ (λY h=>absurd h (Nat.not_lt_zero _)) (λY h=>by cases h)
  ⟨λY Y e Y=>e,λi p o g f Y=>?_,λY Y h=>by simp at h,λY h=>absurd h (Nat.not_lt_zero _),λY h=>absurd h (Nat.not_lt_zero _),λY Y h=>absurd h (Nat.not_lt_zero _),Nat.le_refl _,rfl,rfl,rfl,rfl⟩
 rw [j] at f;simp only [aw,f] at g;cases g;exact (b (a i,o) (List.mem_of_getElem? (i:=i) (by rw [aw,f];rfl))).1
section
variable {w:World} {F:aA} {B:P8} {H:P6} {a:P4} {t u v:P2} {fa:Addr} {W Q d l e r f:P1} {x c:Nat} {q:Bool} {k:Int}
inductive uT:List Nat->List Nat->List Nat->List Nat->Prop
 |here {l r:P1}:cu (34::l)=true->34∉r->uT l r l r
 |more {l b r l2 r2:P1}:cu (34::l)=true->34∉b->uT (l++(b++[34])) r l2 r2->uT l (b++34::r) l2 r2
def OG (w:World) (F:aA) (B:P8) (H:P6) (a:P4) (h:P7) (k:Int) (fa:Addr) (W d b r:P1):Prop:=
 ah aX w F 65 650 B H (kU (ae 6 a 5)) (ab a h) (λY g=>Bg w (sh 0 g) (sh 40 g) (sh 48 g) k fa W d b r (ae 6 a)) 0 59 (λY Y=>[]) (λY Y=>.again (kU (ae 6 a 5))) (λY Y=>[])
theorem zt (z:d.length<=900) (n:10∉d) {l r o p:P1} (h:uT l r o p):∀{F:aA} (_:Le (top w.2) F) {t u v:P2},r <:+ d->l.length+r.length<900->
  OG w F B H a (Bg w t u v k fa W d (34::l) r (ae 6 a)) k fa W d (34::o) p:=by
 induction h with
 |here _ _=>
  intro F i t u v j A;exact ah.refl (zo t u v 0) λY=>by kernel_rfl
 | @more l b m o p C g _ D=>
  intro F i t u v j A;have y:(b++34::m).length=b.length+(m.length+1):=by simp
  have s:=iW j;exact ah.seq ((wm w W d (b++34::m) l (b++[34]) m k fa t u v B H).Pu i (Nw i) Be (ag (by
   dsimp only [wm,ip];refine ⟨cZ (by simp;lia),bu _ _,rfl,⟨z,n,.inr rfl,j,.inr (.inr ⟨rfl,rfl,by simp at s⊢;lia,by simp,?_⟩)⟩,rfl,⟨by simp,by simp;lia,C⟩,au (by simp;lia),trivial,trivial,da,trivial⟩
   rw [lk g];rfl)) a) (λY Y=>rfl) (λY Y=>rfl)
   λG E I J=>D (i.trans E) ((List.suffix_append_of_suffix (List.suffix_cons _ _)).trans j) (by simp;lia)
def qm (w:World) (k:Int) (W d l r h i:P1):aY:=λY b Y=>
 {need:=65,Po:=650,code:=kU (fA b 5),fs:=ab (fA b) (Bg w (aE (fO b 1)) (aE (fO b 4)) (aE (fO b 5)) k (di (fO b 1)) W d (34::l) r (fA b)),
  Pq:=[d.length<=900/\10∉d/\r <:+ d/\l.length+r.length<900/\uT l r h i],wants:=[],
  upd:=λY g=>Bg w (sh 0 g) (sh 40 g) (sh 48 g) k (di (fO b 1)) W d (34::h) i (fA b),nn:=0,new:=λY Y=>[],Pm:=59,res:=λY Y=>.again (kU (fA b 5)),gives:=λY Y=>[]}
theorem i3 (i:Le (top w.2) F) {g h:P1} (y:Code) (b:Qa) (kn:Qb):(qm w k W d l r g h y b kn).Ok w F:=by
 intro j _ C m _ _;obtain ⟨n,o,p,s,z⟩:d.length<=900/\10∉d/\r <:+ d/\l.length+r.length<900/\uT l r g h:=j _ (.head _);exact ah.Pu (zt (a:=fA b) (B:=C) (H:=m) (k:=k) (fa:=di (fO b 1)) (W:=W) n o z i p s)
def wI (w:World) (k:Int) (W d:P1) (c:Nat) (r e:P1):aY:=λY b Y=>
 {need:=50,Po:=500,code:=fg (fA b 5),fs:=ab (fA b) (qc w (aE (fO b 1)) (aE (fO b 4)) (aE (fO b 5)) k (di (fO b 1)) W [34] (some [34]) [] d (c::r) false none (fA b)),
  Pq:=[d.length<=900/\10∉d/\c::r <:+ d/\34∉c::r/\e=[(c::r).getLastD 0]],wants:=[],
  upd:=λY g=>qc w (sh 0 g) (sh 40 g) (sh 48 g) k (di (fO b 1)) W [34] (some [34]) (c::r) d [] true (some e) (fA b),nn:=0,new:=λY Y=>[],Pm:=59,res:=λY Y=>.again (fg (fA b 5)),gives:=λY Y=>[]}
theorem qn (h:Le (top w.2) F) (y:Code) (b:Qa) (kn:Qb):(wI w k W d c r e y b kn).Ok w F:=by
 intro i _ C j _ _;obtain ⟨m,n,g,o,rfl⟩:d.length<=900/\10∉d/\c::r <:+ d/\34∉c::r/\e=[(c::r).getLastD 0]:=i _ (.head _);exact ah.Pu (iZ (tok:=[]) (a:=fA b) (B:=C) (H:=j) (k:=k) (fa:=di (fO b 1)) (W:=W) m n r c h none g (by have:=iW g;simp at this;simp;lia) o)
end
end
def wJ (t u a:P2):Nat->Tok:=bl aO [(0,(a 38))]
def wK (t u a:P2):Nat->Tok:=bl aO [(0,(a 39)),(1,(a 40)),(2,(a 41)),(3,(a 42)),(4,(a 43)),(5,(a 44))]
def wL (t u a:P2):Nat->Tok:=bl aO [(2,(a 45))]
def G5 (w:World) (W Q b r l ra e:P1) (c:Nat) (f j i:P1) (st1:P9) (r1:P1) (pb:Option Nat) (nx1:P1) (h:Bool) (k m:Int) (y:Value) (o:Array DictEntry) (p:Nat) (q:Array DictEntry) (s:Nat) (v:Array DictEntry) (x:Nat) (t u:P2):a7:={
 B:=λa=>[a9 (a 6),kr (a 6),bO y (a 7),eT (a 7),d5 (a 8),d6],Hd:=none,O:=oT [mk [34],mk (34::(e++c::f))] (aC [([],j8 w k WV [34] b r ⟨34::l,some [32],ra,none,[34],true⟩),([],qm w k WV b l ra e (c::f)),([],fV (34::e) true),([],wI w k WV b c f j),([],uR w b),([],ir w k WR [] (34::(e++c::f)) ⟨34::i,st1,r1,pb,nx1,h⟩)]),k:=9,nn:=4,Pm:=46,H:=aQ 0x96a317188d8e69b30a9c1d1d9c1d821d1d1d001d1d001d1d94c9c0149c149cbb9cbb069898a7008b148b148b1498988b14bbed1818c7e2cfc795191a1b831b831b1b1b1bedcf19e295191b1b1b001b1b94001a18198719e2e2cb181818c7e2cfc795191a181818c7e2cfc795191a181818c7e2cfc79519cb871a821a831a83cb871a821acb00cb00cb8cff8719cf9ed6d6170087178c17171700171700171794828795d61482871482bb00bb00bb8cffc98daf0a9c0a9c0a9682118b9683821110c4c4870a82a3ca10c48cca10120f0203efcaabab0ab9110f90efb910110f8defb9ababa1b09396b50fb1efabababab00ab00ab87858b0d8c0db5c00d8b0d838b0d8b0d838b0d830db5009f0268ea8b0dc00eb6dd0d000ce067b500b500b594b3969c0a0066c9860bc80ab4e065a3b28e64b30a9ca89c0beca800a800a894c900a30aa39694,N:=1652,
 cF:=λa=>.call (.ref 812) ⟨[.ref (a 0),.bool false],[]⟩,oF:=λa=>[ax (a 1),ay w.2 t (a 3) (a 2) (a 5) W Q (some [32]) [],a6 k,aj (a 4),ao w.2 u b (ai b r),a6 m,aS o p #[],aS q s #[],aS v x #[]],
 uF:=λa n g=>[ax (a 1),ay w.2 (dB t u g) (n 1) (a 2) (a 5) WR [] st1 [],cC pb k ((dW t u g) 2),aj (a 4),ao w.2 (dX t u g) b (ai b []),c5 m (.ref (n 3)),aS o p (dI 823 824 (.ref (a 7))),aS q s (dI 842 843 (.ref (a 8))),aS v x nP],nF:=λa n g=>[az [.str (mk (34::i)) ((wJ t u g) 0),.bool true],aj (n 2),ao w.2 (wK t u g) (34::(e++c::f)) (ai (34::(e++c::f)) r1),az [.none,.ref (a 3),.int 1 ((wL t u g) 2)]],rF:=λa n g=>.end_ (.ok (.ret (.ref (n 0)))),idx:=[29,24,23,27],Pn:=[279,281,283,285,286,287,288,289,290,291,292,293,295,296,297,298,299,300,301,302,303,305,306,307,308,309,310,311,313,315,316,317,172,173,174,175,176,177,325,319,320,321,322,323,324,159],X:=fJ [(0,kW),(1,kF),(2,kW),(1,C7 3)],d:=90,u:=900,
 facts:=[true=true,aF WR [] (34::(e++c::f)) (some [32]) [] (34::(e++c::f)) ⟨34::i,st1,r1,pb,nx1,h⟩/\(⟨34::i,st1,r1,pb,nx1,h⟩:eN).w≠[],aD ((mk (34::e))++(mk (c::f))),(mk (34::e))++(mk (c::f))=(mk (34::(e++c::f))),true=true,b.length<=900,true=true,b.length<=900/\10∉b/\c::f <:+ b/\34∉c::f/\j=[(c::f).getLastD 0],true=true,(34::e)≠[]/\(34::e).length<=900/\cu (34::e)=true,aD (mk (34::e)),ak .none,ak (.int (1:Int) 0),Txt.slice (mk (34::e)) none (some (1:Int))=(mk [34]),true=true,b.length<=900/\10∉b/\ra <:+ b/\l.length+ra.length<900/\uT l ra e (c::f),true=true,aF WV [34] b (some [32]) [] r ⟨34::l,some [32],ra,none,[34],true⟩/\(⟨34::l,some [32],ra,none,[34],true⟩:eN).w≠[]]}
theorem G6 {W:P1}:(G5 w W Q a r l g h c i j m b n o d e k p q s v x y z A t u).Runs w:=by intro f B C;kernel_rfl
def wM (t u a:P2):Nat->Tok:=bl aO [(0,(a 38))]
def wN (t u a:P2):Nat->Tok:=bl aO [(0,(a 39)),(1,(a 40)),(2,(a 41)),(3,(a 42)),(4,(a 43)),(5,(a 44))]
def wO (t u a:P2):Nat->Tok:=bl aO [(2,(a 45))]
def G7 (w:World) (W Q b r l ra e:P1) (c:Nat) (f m i:P1) (st1:P9) (r1:P1) (pb:Option Nat) (nx1:P1) (h:Bool) (k o:Int) (x:Value) (p:Array DictEntry) (q:Nat) (s:Array DictEntry) (v:Nat) (j:Addr) (t u:P2):a7:={
 B:=λa=>[a9 (a 6),kr (a 6),bO x (a 7),eT (a 7),d5 j,d6],Hd:=none,O:=oT [mk [34],mk (34::(e++c::f))] (aC [([],j8 w k WV [34] b r ⟨34::l,some [32],ra,none,[34],true⟩),([],qm w k WV b l ra e (c::f)),([],fV (34::e) true),([],wI w k WV b c f m),([],uR w b),([],ir w k WR [] (34::(e++c::f)) ⟨34::i,st1,r1,pb,nx1,h⟩)]),k:=8,nn:=4,Pm:=46,H:=aQ 0xa1a10016178d8e69b3099c1c1c9c1c821c1c1c001c1c001c1c94b4c0139c139cca9cca069898a7008b138b138b1398988b13ca0017171782189e18ed82189518191a831a83cbcb0017ed189e1895181acb00cb94cf171887189e189e18191917171782189e18ed821895181917171782189e18ed821895181917171782189e18ed8218951819198719c783198319198719c71919cf19cf198cff8718ed9ed6d6160087168c16161600161600161694828795d61382871382ca00ca00ca8cffb48daf099c099c09a182118ba18382100fc3c3870982a100b90fc38cb90f110e0203efb9acac09ba100e90efba0f100e8defbaacac0893a1a90eb1efacacacac00ac00ac87858b0c8cebc00c8b0c838b0c8b0c838b0c83eb009f0268ea8b0cc00db5dd0cc2e067a900a900a994b3a19c090066b4860ac809c1e065a100b28e64b3099c969c0a820aa3a39694b400a1b4a100a194,N:=1648,
 cF:=λa=>.call (.ref 812) ⟨[.ref (a 0),.bool false],[]⟩,oF:=λa=>[ax (a 1),ay w.2 t (a 3) (a 2) (a 5) W Q (some [32]) [],a6 k,aj (a 4),ao w.2 u b (ai b r),a6 o,aS p q #[],aS s v (dI 842 843 (.ref j))],
 uF:=λa n g=>[ax (a 1),ay w.2 (dB t u g) (n 1) (a 2) (a 5) WR [] st1 [],cC pb k ((dW t u g) 2),aj (a 4),ao w.2 (dX t u g) b (ai b []),c5 o (.ref (n 3)),aS p q (dI 823 824 (.ref (a 7))),aS s v (dI 842 843 (.ref j))],nF:=λa n g=>[az [.str (mk (34::i)) ((wM t u g) 0),.bool true],aj (n 2),ao w.2 (wN t u g) (34::(e++c::f)) (ai (34::(e++c::f)) r1),az [.none,.ref (a 3),.int 1 ((wO t u g) 2)]],rF:=λa n g=>.end_ (.ok (.ret (.ref (n 0)))),idx:=[28,23,22,26],Pn:=[279,281,283,285,286,287,288,289,290,291,292,293,295,296,297,298,299,300,301,302,303,305,306,307,308,309,310,311,313,315,316,317,172,173,174,175,176,177,325,319,320,321,322,323,324,159],X:=fJ [(0,kW),(1,kF),(2,kW),(1,C7 3)],d:=90,u:=900,
 facts:=[true=true,aF WR [] (34::(e++c::f)) (some [32]) [] (34::(e++c::f)) ⟨34::i,st1,r1,pb,nx1,h⟩/\(⟨34::i,st1,r1,pb,nx1,h⟩:eN).w≠[],aD ((mk (34::e))++(mk (c::f))),(mk (34::e))++(mk (c::f))=(mk (34::(e++c::f))),true=true,b.length<=900,true=true,b.length<=900/\10∉b/\c::f <:+ b/\34∉c::f/\m=[(c::f).getLastD 0],true=true,(34::e)≠[]/\(34::e).length<=900/\cu (34::e)=true,aD (mk (34::e)),ak .none,ak (.int (1:Int) 0),Txt.slice (mk (34::e)) none (some (1:Int))=(mk [34]),true=true,b.length<=900/\10∉b/\ra <:+ b/\l.length+ra.length<900/\uT l ra e (c::f),true=true,aF WV [34] b (some [32]) [] r ⟨34::l,some [32],ra,none,[34],true⟩/\(⟨34::l,some [32],ra,none,[34],true⟩:eN).w≠[]]}
theorem G8 {W:P1}:(G7 w W Q a r l g h c i j m b n o d e k p q s v x y z t u).Runs w:=by intro f A B;kernel_rfl
def wQ (t u a:P2):Nat->Tok:=bl aO [(0,(a 38))]
def wR (t u a:P2):Nat->Tok:=bl aO [(0,(a 39)),(1,(a 40)),(2,(a 41)),(3,(a 42)),(4,(a 43)),(5,(a 44))]
def wU (t u a:P2):Nat->Tok:=bl aO [(2,(a 45))]
def G9 (w:World) (W Q b r l ra c g:P1) (st1:P9) (r1:P1) (pb:Option Nat) (nx1:P1) (f:Bool) (k h:Int) (s:Value) (i:Array DictEntry) (j:Nat) (m:Array DictEntry) (o:Nat) (p:Array DictEntry) (q:Nat) (t u:P2):a7:={
 B:=λa=>[a9 (a 6),kr (a 6),bO s (a 7),eT (a 7),d5 (a 8),d6],Hd:=none,O:=oT [mk [34],mk (34::c)] (aC [([],j8 w k WV [34] b r ⟨34::l,some [32],ra,none,[34],true⟩),([],qm w k WV b l ra c []),([],fV (34::c) true),([],fV (34::c) true),([],uR w b),([],ir w k WR [] (34::c) ⟨34::g,st1,r1,pb,nx1,f⟩)]),k:=9,nn:=4,Pm:=46,H:=aQ 0x96a317188d8e69b30a9c1d1d9c1d821d1d1d001d1d001d1d94c9c0149c149cbb9cbb069898a7008b148b148b1498988b14bbed1818c7e2cfc795191a1b831b831b1b1b1bedcf19e295191b1b1b001b1b94001a18198719e2e2cb181818c7e2cfc795191a181818c7e2cfc795191a181818c7e2cfc79519cb871a821a831a83cb871a821acb00cb00cb8cff8719cf9ed6d6170087178c17171700171700171794828795d61482871482bb00bb00bb8cffc98daf0a9c0a9c0a9682118b9683821110c4c4870a82a3ca10c48cca10120f0203efcaabab0ab9110f90efb910110f8defb9ababa1b09396b50fb1efabababab00ab00ab87858b0d8c0db5c00d8b0d838b0d8b0d838b0d830db5009f0268ea8b0dc00eb6dd0d00b500b500b594b3969c0a0066c9860bc80ab4e065a3b28e64b30a9ca89c0beca800a800a894c900a30aa39694,N:=1652,
 cF:=λa=>.call (.ref 812) ⟨[.ref (a 0),.bool false],[]⟩,oF:=λa=>[ax (a 1),ay w.2 t (a 3) (a 2) (a 5) W Q (some [32]) [],a6 k,aj (a 4),ao w.2 u b (ai b r),a6 h,aS i j #[],aS m o #[],aS p q #[]],
 uF:=λa n e=>[ax (a 1),ay w.2 (dB t u e) (n 1) (a 2) (a 5) WR [] st1 [],cC pb k ((dW t u e) 2),aj (a 4),ao w.2 (dX t u e) b (ai b []),c5 h (.ref (n 3)),aS i j (dI 823 824 (.ref (a 7))),aS m o (dI 842 843 (.ref (a 8))),aS p q nP],nF:=λa n e=>[az [.str (mk (34::g)) ((wQ t u e) 0),.bool true],aj (n 2),ao w.2 (wR t u e) (34::c) (ai (34::c) r1),az [.none,.ref (a 3),.int 1 ((wU t u e) 2)]],rF:=λa n e=>.end_ (.ok (.ret (.ref (n 0)))),idx:=[29,24,23,27],Pn:=[220,222,224,226,227,228,229,230,231,232,233,234,236,237,238,239,240,241,242,243,244,246,247,248,249,250,251,252,254,256,257,258,103,104,105,106,107,108,266,260,261,262,263,264,265,90],X:=fJ [(0,kW),(1,kF),(2,kW),(1,C7 3)],d:=90,u:=900,
 facts:=[true=true,aF WR [] (34::c) (some [32]) [] (34::c) ⟨34::g,st1,r1,pb,nx1,f⟩/\(⟨34::g,st1,r1,pb,nx1,f⟩:eN).w≠[],aD ((mk (34::c))++(mk [])),(mk (34::c))++(mk [])=(mk (34::c)),true=true,b.length<=900,true=true,(34::c)≠[]/\(34::c).length<=900/\cu (34::c)=true,aD (mk (34::c)),ak .none,ak (.int (1:Int) 0),Txt.slice (mk (34::c)) none (some (1:Int))=(mk [34]),true=true,b.length<=900/\10∉b/\ra <:+ b/\l.length+ra.length<900/\uT l ra c [],true=true,aF WV [34] b (some [32]) [] r ⟨34::l,some [32],ra,none,[34],true⟩/\(⟨34::l,some [32],ra,none,[34],true⟩:eN).w≠[]]}
theorem Ha {W:P1}:(G9 w W Q a r l f g h b i j c d k m n o p q s v x t u).Runs w:=by intro e y z;kernel_rfl
def wV (t u a:P2):Nat->Tok:=bl aO [(0,(a 38))]
def wW (t u a:P2):Nat->Tok:=bl aO [(0,(a 39)),(1,(a 40)),(2,(a 41)),(3,(a 42)),(4,(a 43)),(5,(a 44))]
def wX (t u a:P2):Nat->Tok:=bl aO [(2,(a 45))]
def Hb (w:World) (W Q b r l ra c g:P1) (st1:P9) (r1:P1) (pb:Option Nat) (nx1:P1) (f:Bool) (k i:Int) (q:Value) (j:Array DictEntry) (m:Nat) (o:Array DictEntry) (p:Nat) (h:Addr) (t u:P2):a7:={
 B:=λa=>[a9 (a 6),kr (a 6),bO q (a 7),eT (a 7),d5 h,d6],Hd:=none,O:=oT [mk [34],mk (34::c)] (aC [([],j8 w k WV [34] b r ⟨34::l,some [32],ra,none,[34],true⟩),([],qm w k WV b l ra c []),([],fV (34::c) true),([],fV (34::c) true),([],uR w b),([],ir w k WR [] (34::c) ⟨34::g,st1,r1,pb,nx1,f⟩)]),k:=8,nn:=4,Pm:=46,H:=aQ 0xa1a10016178d8e69b3099c1c1c9c1c821c1c1c001c1c001c1c94b4c0139c139cca9cca069898a7008b138b138b1398988b13ca0017171782189e18ed82189518191a831a83cbcb0017ed189e1895181acb00cb94cf171887189e189e18191917171782189e18ed821895181917171782189e18ed821895181917171782189e18ed8218951819198719c783198319198719c71919cf19cf198cff8718ed9ed6d6160087168c16161600161600161694828795d61382871382ca00ca00ca8cffb48daf099c099c09a182118ba18382100fc3c3870982a100b90fc38cb90f110e0203efb9acac09ba100e90efba0f100e8defbaacac0893a1a90eb1efacacacac00ac00ac87858b0c8cebc00c8b0c838b0c8b0c838b0c83eb009f0268ea8b0cc00db5dd0c00a900a900a994b3a19c090066b4860ac809c1e065a100b28e64b3099c969c0a820aa3a39694b400a1b4a100a194,N:=1648,
 cF:=λa=>.call (.ref 812) ⟨[.ref (a 0),.bool false],[]⟩,oF:=λa=>[ax (a 1),ay w.2 t (a 3) (a 2) (a 5) W Q (some [32]) [],a6 k,aj (a 4),ao w.2 u b (ai b r),a6 i,aS j m #[],aS o p (dI 842 843 (.ref h))],
 uF:=λa n e=>[ax (a 1),ay w.2 (dB t u e) (n 1) (a 2) (a 5) WR [] st1 [],cC pb k ((dW t u e) 2),aj (a 4),ao w.2 (dX t u e) b (ai b []),c5 i (.ref (n 3)),aS j m (dI 823 824 (.ref (a 7))),aS o p (dI 842 843 (.ref h))],nF:=λa n e=>[az [.str (mk (34::g)) ((wV t u e) 0),.bool true],aj (n 2),ao w.2 (wW t u e) (34::c) (ai (34::c) r1),az [.none,.ref (a 3),.int 1 ((wX t u e) 2)]],rF:=λa n e=>.end_ (.ok (.ret (.ref (n 0)))),idx:=[28,23,22,26],Pn:=[220,222,224,226,227,228,229,230,231,232,233,234,236,237,238,239,240,241,242,243,244,246,247,248,249,250,251,252,254,256,257,258,103,104,105,106,107,108,266,260,261,262,263,264,265,90],X:=fJ [(0,kW),(1,kF),(2,kW),(1,C7 3)],d:=90,u:=900,
 facts:=[true=true,aF WR [] (34::c) (some [32]) [] (34::c) ⟨34::g,st1,r1,pb,nx1,f⟩/\(⟨34::g,st1,r1,pb,nx1,f⟩:eN).w≠[],aD ((mk (34::c))++(mk [])),(mk (34::c))++(mk [])=(mk (34::c)),true=true,b.length<=900,true=true,(34::c)≠[]/\(34::c).length<=900/\cu (34::c)=true,aD (mk (34::c)),ak .none,ak (.int (1:Int) 0),Txt.slice (mk (34::c)) none (some (1:Int))=(mk [34]),true=true,b.length<=900/\10∉b/\ra <:+ b/\l.length+ra.length<900/\uT l ra c [],true=true,aF WV [34] b (some [32]) [] r ⟨34::l,some [32],ra,none,[34],true⟩/\(⟨34::l,some [32],ra,none,[34],true⟩:eN).w≠[]]}
theorem Hc {W:P1}:(Hb w W Q a r l f g h b i j c d k m n o p q s v t u).Runs w:=by intro e x y;kernel_rfl

section
theorem j9 {a:P4} {b e:P7}:∀p∈ab a b,p∈ab a (b++e):=by
 intro p f;obtain ⟨i,c⟩:=List.getElem?_of_mem f;rw [aw] at c;obtain ⟨o,d,rfl⟩:=Option.map_eq_some_iff.mp c;exact List.mem_of_getElem? (i:=i) (by rw [aw,List.getElem?_append_left (List.getElem?_eq_some_iff.mp d).1,d];rfl)
section
variable {w:World} {F:aA} {d u:Nat} {C:P8} {H:P6} {c:Code} {a:P4} {f:P7} {q r:Nat}
 {l n:P4->P2->P7} {m:P4->P2->hZ} {k:P4->P2->Qb}
theorem kx {f b:P7} (h:((ab a (f++b)).map (·.1)).Nodup):((ab a f).map (·.1)).Nodup:=by
 simp only [bp] at h⊢;simp only [List.length_append,List.range_add,List.map_append] at h;exact (List.nodup_append.mp h).1
theorem tV {f b:P7} (h:((ab a (f++b)).map (·.1)).Nodup) {i:Nat} (t:f.length<=i) (o:i<(f++b).length):a i∉(ab a f).map (·.1):=by
 rw [bp] at h⊢;intro s;obtain ⟨j,p,e⟩:=List.mem_map.mp s;have p:=List.mem_range.mp p;have g:=List.pairwise_iff_getElem.mp h j i (by simp at o⊢;lia) (by simpa using o) (by lia)
 exact g (by simpa using e)
theorem ah.frame (D:P7) (h:ah aX w F d u C H c (ab a f) l q r n m k) (hl:∀E j,(l E j).length=f.length):
  ah aX w F d u C H c (ab a (f++D)) (λE j=>l E j++D) q r n m k:=by
 intro A s R h0 h1 h2 h3 T U hR;refine h A s R h0 h1 h2 h3 (λp t=>T p (j9 p t)) (kx U) λs' y j F' G z I X=>?_;have J:=hl (ae q y) (ae r j);refine hR s' y j F' ⟨G.le,G.base,λb o e=>?_⟩ z I ⟨λb o e hb=>?_,λi p o t v hf=>?_,X.new,X.fresh,X.below,X.inj,X.size,X.life,X.gens,X.drawn,X.os⟩
 ·rcases G.new b o e with x|x|⟨i,p,o',V,Y,g3,g4⟩
  ·exact .inl x
  ·exact .inr (.inl x)
  ·have L:=(List.getElem?_eq_some_iff.mp Y).1
   rw [aw] at V;obtain ⟨N,g,rfl⟩:=Option.map_eq_some_iff.mp V;exact .inr (.inr ⟨i,(a i,N),o',by rw [aw,List.getElem?_append_left (by lia),g];rfl,by rw [List.getElem?_append_left L];exact Y,g3,g4⟩)
 ·refine X.keep b o e λO=>hb ?_
  obtain ⟨p,t,rfl⟩:=List.mem_map.mp O;exact List.mem_map_of_mem (j9 p t)
 ·rw [aw] at t
  obtain ⟨N,g,rfl⟩:=Option.map_eq_some_iff.mp t;have Q:=(List.getElem?_eq_some_iff.mp g).1;by_cases L:i<f.length
  ·rw [List.getElem?_append_left L] at g
   rw [List.getElem?_append_left (by lia)] at v
   exact X.upd i (a i,N) o (by rw [aw,g];rfl) v hf
  ·have B:=g
   rw [List.getElem?_append_right (by lia)] at g v
   rw [J] at v;rw [g] at v;cases v;have O:(a i,o)∈ab a (f++D):=List.mem_of_getElem? (i:=i) (by rw [aw,B];rfl)
   exact X.keep (a i) _ (T (a i,_) O).1 (tV U (by lia) Q)
end
structure GO where
 w:P1
 st:P9
 r:P1
 pb:Option Nat
 k:Int
inductive GN (W Q buf:P1):Option P1->Option Nat->List Nat->Int->GO->Prop
 |PL (c:Nat) (r:P1) (k:Int):GN W Q buf (some [32]) (some c) r k ⟨[c],some [32],r,none,k+1+1⟩
 |word (r:P1) (k:Int) (o:eN):aF W Q buf (some [32]) [] r o->o.w≠[]->GN W Q buf (some [32]) none r k ⟨o.w,o.st,o.r,o.pb,k⟩
inductive GA (W Q buf:P1):Option P1->Option Nat->List Nat->Int->GO->Prop
 |some {st:P9} {pb:Option Nat} {r:P1} {k:Int} {o:GO}:GN W Q buf st pb r k o->GA W Q buf st pb r k o
 |none (st:P9) (r:P1) (k:Int):aF W Q buf st [] r eE->(st= .some [32]\/st= .none)->GA W Q buf st .none r k ⟨[],.none,[],.none,k⟩
section
variable {w:World} {F:aA} {B:P8} {H:P6} {a:P4} {t u v:P2} {k k2:Int} {W Q buf r buf2:P1} {o:GO} {c:Nat} {x d:Tok} {st:P9} {pb:Option Nat} {fa:Addr}
def OH (w:World) (t u:P2) (x:Tok) (k:Int) (fa:Addr) (W Q:P1) (st:P9) (pb:Option Nat) (buf r:P1) (a:P4):P7:=
 [ax (a 1),ay w.2 t (a 3) (a 2) fa W Q st [],cC pb k x,aj (a 4),ao w.2 u buf (ai buf r)]
def OI (w:World) (b:P2) (fa:Addr) (W Q buf:P1) (o:GO) (a:P4):P7:=
 [ax (a 1),ay w.2 (sh 0 b) (a 3) (a 2) fa W Q o.st [],cC o.pb o.k (b 38),aj (a 4),ao w.2 (sh 40 b) buf (ai buf o.r)]
def OJ (w:World) (F:aA) (B:P8) (H:P6) (a:P4) (e:P7) (fa:Addr) (W Q buf:P1) (o:GO):Prop:=
 ah aX w F 70 700 B H (.call (.ref 734) ⟨[.ref (ae 5 a 0)],[]⟩) (ab a e) (λY b=>OI w b fa W Q buf o (ae 5 a)) 0 47 (λY Y=>[]) (λY b=>.end_ (.ok (.ret (.str (mk o.w) (b 46))))) (λY Y=>[])
theorem wY (b:Le (top w.2) F) (h:GN W Q buf st pb r k o):OJ w F B H a (OH w t u x k fa W Q st pb buf r (ae 5 a)) fa W Q buf o:=by
 cases h with
 |PL c=>exact Gq (a:=a) b
 |word _ _ o e f=>exact CY (a:=a) b e f
def He (w:World) (t u:P2) (x:Tok) (k k2:Int) (W Q:P1) (st:P9) (pb:Option Nat) (buf r:P1) (a:P4):P7:=
 [ax (a 1),ay w.2 t (a 3) (a 2) (a 5) W Q st [],cC pb k x,aj (a 4),ao w.2 u buf (ai buf r),a6 k2]
def Mj (w:World) (b:P2) (k2:Int) (W Q buf:P1) (o:GO) (a:P4):P7:=
 [ax (a 1),ay w.2 (sh 0 b) (a 3) (a 2) (a 5) W Q o.st [],cC o.pb o.k (b 38),aj (a 4),ao w.2 (sh 40 b) buf (ai buf o.r),a6 k2]
def OK (w:World) (F:aA) (B:P8) (H:P6) (a:P4) (e:P7) (k2:Int) (W Q buf:P1) (o:GO):Prop:=
 ah aX w F 70 700 B H (.call (.ref 734) ⟨[.ref (ae 6 a 0)],[]⟩) (ab a e) (λY b=>Mj w b k2 W Q buf o (ae 6 a)) 0 47 (λY Y=>[]) (λY b=>.end_ (.ok (.ret (.str (mk o.w) (b 46))))) (λY Y=>[])
theorem C8 (b:Le (top w.2) F) (h:GA W Q buf st pb r k o):OK w F B H a (He w t u x k k2 W Q st pb buf r (ae 6 a)) k2 W Q buf o:=by
 cases h with
 |some h=>exact (wY (fa:=a 5) (x:=x) (t:=t) (u:=u) (a:=a) b h).frame [a6 k2] (λY Y=>rfl)
 |none _ _ h e=>
  rcases e with rfl|rfl
  ·exact A7 (a:=a) b h
  ·exact A8 (a:=a) b h
def oq (o:Obj) (pb:Option Nat) (k:Int):aA->Prop:=λY=>∃x,o=cC pb k x
def ka (w:World) (t:P2) (x:Tok) (k k2:Int) (W Q:P1) (st:P9) (pb:Option Nat) (buf r:P1) (o:GO):aY:=λY b Y=>
 {need:=70,Po:=700,code:=.call (.ref 734) ⟨[.ref (fA b 0)],[]⟩,fs:=ab (fA b) (He w t (aE (fO b 4)) x k k2 W Q st pb buf r (fA b)),Pq:=[GA W Q buf st pb r k o],wants:=[],
  upd:=λY e=>Mj w e k2 W Q buf o (fA b),nn:=0,new:=λY Y=>[],Pm:=47,res:=λY e=>.end_ (.ok (.ret (.str (mk o.w) (e 46)))),gives:=λY Y=>[]}
theorem qo (e:Le (top w.2) F) (y:Code) (b:Qa) (kn:Qb):(ka w t x k k2 W Q st pb buf r o y b kn).Ok w F:=by
 intro f _ C g _ _;have h:GA W Q buf st pb r k o:=f _ (.head _);exact ah.Pu (C8 (a:=fA b) (B:=C) (H:=g) e h)
def fv (w:World) (k k2:Int) (W Q:P1) (st:P9) (pb:Option Nat) (buf r:P1) (o:GO):aY:=λc b kn=>ka w (aE (fO b 1)) (aE (fO b 2) 2) k k2 W Q st pb buf r o c b kn
theorem jD (e:Le (top w.2) F) (y:Code) (b:Qa) (kn:Qb):(fv w k k2 W Q st pb buf r o y b kn).Ok w F:=qo e y b kn
def d7 (P:Params) (t:P2) (buf:P1) (b:Int) (e:Bool):Obj:={cls:=.type "dict",data:=.dict #[dE P "_StringIO__newline" (t 0) (.str "\n" (t 1)),dE P "_StringIO__buf" (t 2) (match e with|true=>.none|false=>.str (mk buf) (t 3)),dE P "_StringIO__pos" (t 4) (.int b (t 5))] 3}
noncomputable def mw (e:Bool) (k:Int) (b:Addr):Obj:={cls:=.type "collections.deque",data:=.fields (match e with|true=>#[.none,.int (k+1+1) 0]|false=>#[.none,.int (k+1) 0,.ref b])}
noncomputable def rn (b:Bool) (a:P4):Addr:=match b with|true=>a 7|false=>a 3
inductive GR (W Q buf buf2:P1):Option P1->Option Nat->List Nat->Int->GO->Bool->Prop
 |some {st:P9} {pb:Option Nat} {r:P1} {k:Int} {o:GO}:GN W Q buf st pb r k o->GR W Q buf buf2 st pb r k o false
 |none (st:P9) (r:P1) (k:Int):aF W Q buf st [] r eE->aF W Q buf2 (.some [32]) [] [] eE->(st= .some [32]\/st= .none)->GR W Q buf buf2 st .none r k ⟨[],.none,[],.none,k⟩ true
def Ny (w:World) (t u v:P2) (x d:Tok) (k k2:Int) (W Q:P1) (st:P9) (pb:Option Nat) (buf r buf2:P1) (a:P4):P7:=
 [ax (a 1),ay w.2 t (a 3) (a 2) (a 5) W Q st [],cC pb k x,aj (a 4),ao w.2 u buf (ai buf r),c5 k2 (.ref (a 6)),az [.none,.ref (a 7),.int 1 d],aj (a 8),ao w.2 v buf2 (ai buf2 [])]
def Nz (w:World) (b:P2) (d:Tok) (k2:Int) (W Q buf buf2:P1) (o:GO) (e:Bool) (a:P4):P7:=
 [ax (a 1),ay w.2 (sh 0 b) (rn e a) (a 2) (a 5) W Q o.st [],cC o.pb o.k (b 38),aj (a 4),d7 w.2 (sh 40 b) buf (ai buf o.r) e,mw e k2 (a 6),az [.none,.ref (a 7),.int 1 d],aj (a 8),ao w.2 (sh 47 b) buf2 (ai buf2 [])]
def OL (w:World) (F:aA) (B:P8) (a:P4) (e:P7) (d:Tok) (k2:Int) (W Q buf buf2:P1) (o:GO) (f:Bool):Prop:=
 ah aX w F 70 700 B none (.call (.ref 734) ⟨[.ref (ae 9 a 0)],[]⟩) (ab a e) (λY b=>Nz w b d k2 W Q buf buf2 o f (ae 9 a)) 0 53 (λY Y=>[]) (λY b=>.end_ (.ok (.ret (.str (mk o.w) (b 46))))) (λY Y=>[])
theorem C9 (b:Le (top w.2) F) {f:Bool} (h:GR W Q buf buf2 st pb r k o f):OL w F B a (Ny w t u v x d k k2 W Q st pb buf r buf2 (ae 9 a)) d k2 W Q buf buf2 o f:=by
 cases h with
 |some h=>
  exact ah.Pt (λY e=>CZ (sh 0 e) (sh 40 e) v (e 46)) ((wY (fa:=a 5) (x:=x) (t:=t) (u:=u) (a:=a) (H:=none) b h).frame [c5 k2 (.ref (ae 9 a 6)),az [.none,.ref (ae 9 a 7),.int 1 d],aj (ae 9 a 8),ao w.2 v buf2 (ai buf2 [])] (λY Y=>rfl))
   (λY Y=>by kernel_rfl) (λY Y=>rfl) (λY Y=>by kernel_rfl) (λY Y=>rfl)
 |none _ _ g i j=>
  rcases j with rfl|rfl
  ·exact Bb (a:=a) b g i
  ·exact Bc (a:=a) b g i
def lr (w:World) (t:P2) (x:Tok) (k k2:Int) (W Q:P1) (st:P9) (pb:Option Nat) (buf r buf2:P1) (o:GO) (f:Bool):aY:=λY b Y=>
 {need:=70,Po:=700,code:=.call (.ref 734) ⟨[.ref (fA b 0)],[]⟩,fs:=ab (fA b) (Ny w t (aE (fO b 4)) (aE (fO b 8)) x (aE (fO b 6) 2) k k2 W Q st pb buf r buf2 (fA b)),Pq:=[GR W Q buf buf2 st pb r k o f],wants:=[],hand:=some none,
  upd:=λY e=>Nz w e (aE (fO b 6) 2) k2 W Q buf buf2 o f (fA b),nn:=0,new:=λY Y=>[],Pm:=53,res:=λY e=>.end_ (.ok (.ret (.str (mk o.w) (e 46)))),gives:=λY Y=>[]}
theorem qp (g:Le (top w.2) F) {b:Bool} (y:Code) (f:Qa) (kn:Qb):(lr w t x k k2 W Q st pb buf r buf2 o b y f kn).Ok w F:=by
 intro i _ C j _ l;have h:GR W Q buf buf2 st pb r k o b:=i _ (.head _);have e:j=none:=l none rfl;subst e;exact ah.Pu (C9 (a:=fA f) (B:=C) g h)
def cz (w:World) (k k2:Int) (W Q:P1) (st:P9) (pb:Option Nat) (buf r buf2:P1) (o:GO) (e:Bool):aY:=λc b kn=>lr w (aE (fO b 1)) (aE (fO b 2) 2) k k2 W Q st pb buf r buf2 o e c b kn
theorem gK (e:Le (top w.2) F) {f:Bool} (y:Code) (b:Qa) (kn:Qb):(cz w k k2 W Q st pb buf r buf2 o f y b kn).Ok w F:=qp e y b kn
end
end
def gR (t u v a:P2):Nat->Tok:=bl aO [(2,(a 31))]
def gS (t u v a:P2):Nat->Tok:=bl u [(0,(a 32)),(1,(a 33)),(2,(a 34)),(3,(a 35)),(4,(a 36)),(5,(a 37))]
def Hf (t u v a:P2):Nat->Tok:=bl v [(0,(a 38)),(1,(a 39)),(2,(a 40)),(3,(a 41)),(4,(a 42)),(5,(a 43))]
def Bn (t u v a:P2):Nat->Tok:=bl aO [(0,(a 44))]
def NA (w:World) (W Q c r b:P1) (o:GO) (f:Bool) (k g:Int) (h:Tok) (t u v:P2) (B:P8):a7:={
 B:=λa=>B,Hd:=none,O:=oT [] (aC [([],cz w k g WR [] (some [32]) none c r b o f)]),k:=9,nn:=1,Pm:=45,H:=aQ 0xd00605b2b464b30a9ca89c0beca800a800a894c9c9a39694,N:=145,
 cF:=λa=>.call (.ref 812) ⟨[.ref (a 0),.bool true],[]⟩,oF:=λa=>[ax (a 1),ay w.2 t (a 3) (a 2) (a 5) W Q (some [32]) [],a6 k,aj (a 4),ao w.2 u c (ai c r),c5 g (.ref (a 6)),az [.none,.ref (a 7),.int 1 h],aj (a 8),ao w.2 v b (ai b [])],
 uF:=λa n e=>[ax (a 1),ay w.2 (dj t u v e) (rn f a) (a 2) (a 5) WR [] o.st [],cC o.pb o.k ((gR t u v e) 2),aj (a 4),d7 w.2 (gS t u v e) c (ai c o.r) f,mw f g (a 6),az [.none,.ref (a 7),.int 1 h],aj (a 8),ao w.2 (Hf t u v e) b (ai b [])],nF:=λa n e=>[az [.str (mk o.w) ((Bn t u v e) 0),.bool true]],rF:=λa n e=>.end_ (.ok (.ret (.ref (n 0)))),idx:=[11],Pn:=[13,15,17,19,20,21,22,23,24,25,26,27,29,30,31,32,33,34,35,36,37,39,40,41,42,43,44,45,47,49,50,51,53,54,55,56,57,58,60,61,62,63,64,65,59],d:=80,u:=800,
 facts:=[true=true,GR WR [] c b (some [32]) none r k o f]}
theorem Mk {W:P1}:(NA w W Q b r a o d k e f t u v B).Runs w:=by intro c g h;kernel_rfl
section
theorem ah.mono {w:World} {F:aA} {d u d' u' g i:Nat} {C:P8} {H:P6} {c:Code} {j:Qa} {b e:P4->P2->P7} {f:P4->P2->hZ} {a:P4->P2->Qb}
  (h:ah aX w F d u C H c j b g i e f a) (p:d<=d') (q:u<=u'):ah aX w F d' u' C H c j b g i e f a:=
 λA s R k r t l m n o=>h A s R k (by lia) (by lia) l m n o
theorem ah.give {w:World} {F:aA} {d u p q:Nat} {C:P8} {H:P6} {c:Code} {r:Qa} {e f:P4->P2->P7} {i:P4->P2->hZ} {b a:P4->P2->Qb}
  (h:ah aX w F d u C H c r e p q f i b) (t:∀ad k,∀g∈a ad k,∀l,g l):ah aX w F d u C H c r e p q f i a:=
 λA s R v x y z B D E=>h A s R v x y z B D λI m k l G j Y X=>E I m k l G j (λg n o Y=>t _ _ g n o) X
theorem i4 {a:Option Nat} {k:Int} {x:Tok}:∀g∈[oq (cC a k x) a k],∀b,g b:=λg c b=>by
 cases List.mem_singleton.mp c;exact ⟨x,rfl⟩
section
variable {w:World} {F:aA} {B:P8} {H:P6} {a:P4} {t u v:P2} {k d:Int} {W Q buf r b:P1} {x f:Tok}
inductive VA (buf:P1) (k:Int):List Nat->GO->Prop
 |word (r:P1) (c:Nat) (l:P1) (st1:P9) (r1:P1) (pb:Option Nat) (nx:P1) (qd:Bool):aF WV [34] buf (some [32]) [] r ⟨c::l,st1,r1,pb,nx,qd⟩->c≠34->(c::l).length<=1000->VA buf k r ⟨c::l,st1,r1,pb,k⟩
 |fin (r:P1):aF WV [34] buf (some [32]) [] r eE->VA buf k r ⟨[],none,[],none,k⟩
 |PR (r l r1:P1) (o:List Nat×P1):aF WV [34] buf (some [32]) [] r ⟨34::l,some [32],r1,none,[34],true⟩->r1 <:+ buf->l.length+r1.length<900->yN (34::l) r1=some o->VA buf k r ⟨o.1,some [32],o.2,none,k⟩
def Ml (w:World) (t u:P2) (k d:Int) (W Q buf r:P1) (a:P4):P7:=
 [ax (a 1),ay w.2 t (a 3) (a 2) (a 5) W Q (some [32]) [],a6 k,aj (a 4),ao w.2 u buf (ai buf r),a6 d]
def Mm (w:World) (c:P2) (d:Int) (buf:P1) (o:GO) (a:P4):P7:=
 [ax (a 1),ay w.2 (sh 0 c) (a 3) (a 2) (a 5) WV [34] o.st [],cC o.pb o.k (c 38),aj (a 4),ao w.2 (sh 40 c) buf (ai buf o.r),a6 d]
def Mn (w:World) (F:aA) (B:P8) (H:P6) (a:P4) (e:P7) (d:Int) (buf:P1) (o:GO):Prop:=
 ah aX w F 90 900 B H (.call (.ref 812) ⟨[.ref (ae 6 a 0),.bool false],[]⟩) (ab a e) (λY c=>Mm w c d buf o (ae 6 a)) 1 47 (λY c=>[az [.str (mk o.w) (c 46),.bool false]]) (λn Y=>.end_ (.ok (.ret (.ref (n 0))))) (λY Y=>[])
def OM (w:World) (F:aA) (B:P8) (H:P6) (a:P4) (e:P7) (d:Int) (buf:P1) (o:GO):Prop:=
 ah aX w F 90 900 B H (.call (.ref 812) ⟨[.ref (ae 6 a 0),.bool false],[]⟩) (ab a e) (λY c=>Mm w c d buf o (ae 6 a)) 1 47 (λY c=>[az [.str (mk o.w) (c 46),.bool false]]) (λn Y=>.end_ (.ok (.ret (.ref (n 0))))) (λY c=>[oq (cC o.pb o.k (c 38)) o.pb o.k])
theorem jE {e:P9} {c:P1} {o:eN} (h:aF W Q buf e c r o):buf.length<=900/\10∉buf:=⟨h.1,h.2.1⟩
theorem zu (i:Le (top w.2) F) {o:GO} (h:VA buf k r o):Mn w F B H a (Ml w t u k d W Q buf r (ae 6 a)) d buf o:=by
 cases h with
 |word c l m n s z A h C D=>
  exact ah.Pt (λY g=>kv (dB t u g) (dX t u g) (dW t u g 2) (Bi t u g 0)) ((((GH w W Q buf r c l m n s z A k (ae 6 a 5) t u B H).Pu i (mA λY j y p kn=>eV (i.trans j) y p kn) GI (ag ⟨by simp only [vj];exact beq_false_of_ne (λe=>C (by simpa using e)),au (by exact D),trivial,trivial,da,rfl,⟨h,by simp⟩,trivial⟩) a).frame [a6 d] (λY Y=>rfl)).mono (by show (80:Nat)<=90;decide) (by show (800:Nat)<=900;decide))
   (λY Y=>by kernel_rfl) (λY Y=>rfl) (λY Y=>rfl) (λY Y=>rfl)
 |fin h=>
  exact ah.Pt (λY g=>kv (Bj t u g) (jC t u g) 0 (Bk t u g 0)) (((GJ w W Q buf r k d t u B H).Pu i (mA λY j y p kn=>wk (i.trans j) y p kn) GK (ag ⟨rfl,⟨h,.inl rfl⟩,trivial⟩) a).mono (by show (80:Nat)<=90;decide) (by show (800:Nat)<=900;decide))
   (λY Y=>by kernel_rfl) (λY Y=>rfl) (λY Y=>rfl) (λY Y=>rfl)
 |PR l n o h E G I=>
  have q:=jE h;exact ah.Pt (λY g=>kv (dB t u g) (Bl t u g) 0 (Bm t u g 0)) ((((GL w W Q buf r l n o k (ae 6 a 5) t u B H).Pu i (bh (aI ⟨λY j=>eV (i.trans j),λY j=>wo (i.trans j),trivial⟩)) GP (ag ⟨rfl,⟨q.1,q.2,E,G,I⟩,rfl,⟨h,by simp⟩,trivial⟩) a).frame [a6 d] (λY Y=>rfl)).mono (by show (80:Nat)<=90;decide) (by show (800:Nat)<=900;decide))
   (λY Y=>by kernel_rfl) (λY Y=>rfl) (λY Y=>rfl) (λY Y=>rfl)
theorem Dc (c:Le (top w.2) F) {o:GO} (h:VA buf k r o):OM w F B H a (Ml w t u k d W Q buf r (ae 6 a)) d buf o:=(zu c h).give λY Y=>i4
def g6 (w:World) (k d:Int) (W Q buf r:P1) (o:GO):aY:=λY c Y=>
 {need:=90,Po:=900,code:=.call (.ref 812) ⟨[.ref (fA c 0),.bool false],[]⟩,fs:=ab (fA c) (Ml w (aE (fO c 1)) (aE (fO c 4)) k d W Q buf r (fA c)),Pq:=[VA buf k r o],wants:=[],
  upd:=λY e=>Mm w e d buf o (fA c),nn:=1,new:=λY e=>[az [.str (mk o.w) (e 46),.bool false]],Pm:=47,res:=λn Y=>.end_ (.ok (.ret (.ref (n 0)))),gives:=λY e=>[oq (cC o.pb o.k (e 38)) o.pb o.k]}
theorem ly (e:Le (top w.2) F) {o:GO} (y:Code) (c:Qa) (kn:Qb):(g6 w k d W Q buf r o y c kn).Ok w F:=by
 intro g _ C i _ _;have h:VA buf k r o:=g _ (.head _);exact ah.Pu (Dc (a:=fA c) (B:=C) (H:=i) e h)
def Mo (w:World) (c:P2) (f:Tok) (d:Int) (buf b:P1) (o:GO) (e:Bool) (a:P4):P7:=
 [ax (a 1),ay w.2 (sh 0 c) (rn e a) (a 2) (a 5) WR [] o.st [],cC o.pb o.k (c 38),aj (a 4),d7 w.2 (sh 40 c) buf (ai buf o.r) e,mw e d (a 6),az [.none,.ref (a 7),.int 1 f],aj (a 8),ao w.2 (sh 47 c) b (ai b [])]
def Mp (w:World) (t u v:P2) (f:Tok) (k d:Int) (W Q buf r b:P1) (a:P4):P7:=
 [ax (a 1),ay w.2 t (a 3) (a 2) (a 5) W Q (some [32]) [],a6 k,aj (a 4),ao w.2 u buf (ai buf r),c5 d (.ref (a 6)),az [.none,.ref (a 7),.int 1 f],aj (a 8),ao w.2 v b (ai b [])]
theorem zv (g:Le (top w.2) F) {o:GO} {e:Bool} (h:GR WR [] buf b (some [32]) none r k o e):ah aX w F 90 900 B none (.call (.ref 812) ⟨[.ref (ae 9 a 0),.bool true],[]⟩) (ab a (Mp w t u v f k d W Q buf r b (ae 9 a))) (λY c=>Mo w c f d buf b o e (ae 9 a)) 1 53
  (λY c=>[az [.str (mk o.w) (c 46),.bool true]]) (λn Y=>.end_ (.ok (.ret (.ref (n 0))))) (λY Y=>[]):=
 ah.Pt (λY c i=>match Nat.ble 47 i with
  |true=>Hf t u v c (i-47)
  |false=>kv (dj t u v c) (gS t u v c) (gR t u v c 2) (Bn t u v c 0) i) (((NA w W Q buf r b o e k d f t u v B).Pu g (mA λY j y l kn=>gK (g.trans j) y l kn) Mk (ag ⟨rfl,h,trivial⟩) a).mono (by show (80:Nat)<=90;decide) (by show (800:Nat)<=900;decide))
   (λY Y=>by kernel_rfl) (λY Y=>by kernel_rfl) (λY Y=>rfl) (λY Y=>rfl)
theorem Dd (g:Le (top w.2) F) {o:GO} {e:Bool} (h:GR WR [] buf b (some [32]) none r k o e):ah aX w F 90 900 B none (.call (.ref 812) ⟨[.ref (ae 9 a 0),.bool true],[]⟩) (ab a (Mp w t u v f k d W Q buf r b (ae 9 a))) (λY c=>Mo w c f d buf b o e (ae 9 a)) 1 53
  (λY c=>[az [.str (mk o.w) (c 46),.bool true]]) (λn Y=>.end_ (.ok (.ret (.ref (n 0))))) (λY c=>[oq (cC o.pb o.k (c 38)) o.pb o.k]):=(zv g h).give λY Y=>i4
def fY (w:World) (k d:Int) (W Q buf r b:P1) (o:GO) (g:Bool):aY:=λY c Y=>
 {need:=90,Po:=900,code:=.call (.ref 812) ⟨[.ref (fA c 0),.bool true],[]⟩,fs:=ab (fA c) (Mp w (aE (fO c 1)) (aE (fO c 4)) (aE (fO c 8)) (aE (fO c 6) 2) k d W Q buf r b (fA c)),Pq:=[GR WR [] buf b (some [32]) none r k o g],wants:=[],hand:=some none,
  upd:=λY e=>Mo w e (aE (fO c 6) 2) d buf b o g (fA c),nn:=1,new:=λY e=>[az [.str (mk o.w) (e 46),.bool true]],Pm:=53,res:=λn Y=>.end_ (.ok (.ret (.ref (n 0)))),gives:=λY e=>[oq (cC o.pb o.k (e 38)) o.pb o.k]}
theorem qq (i:Le (top w.2) F) {o:GO} {c:Bool} (y:Code) (g:Qa) (kn:Qb):(fY w k d W Q buf r b o c y g kn).Ok w F:=by
 intro j _ C l _ m;have h:GR WR [] buf b (some [32]) none r k o c:=j _ (.head _);have e:l=none:=m none rfl;subst e;exact ah.Pu (Dd (a:=fA g) (B:=C) i h)
end
end
section
noncomputable def bE (o:Obj):Array DictEntry:=match o.data with
 | .dict a _=>a
 |_=>#[]
noncomputable def bF (o:Obj):Nat:=match o.data with
 | .dict _ n=>n
 |_=>0
noncomputable def wZ (o:Obj):Addr:=match o.slots.toList.drop 3 with
 |x::_=>match x with
  |some v=>match v with
   | .ref a=>a
   |_=>0
  |none=>0
 |[]=>0
inductive VX (buf:P1):List Nat->List Nat->Prop
 |fst (r b:P1):buf.length<=900->10∉buf->34∉b->r <:+ buf->uS r b->(34::b).length<=900->VX buf r (34::b)
 |loop (r l ra l2 r2:P1):aF WV [34] buf (some [32]) [] r ⟨34::l,some [32],ra,none,[34],true⟩->ra <:+ buf->l.length+ra.length<900->uT l ra l2 r2->r2 <:+ buf->34∉r2->cu (34::l2)=true->(34::(l2++r2)).length<=900->VX buf r (34::(l2++r2))
def tW (t u v:P2) (p y x:Tok) (i:Nat):Tok:=match Nat.ble 53 i with
 |true=>x
 |false=>match Nat.ble 47 i with
  |true=>v (i-47)
  |false=>kv t u p y i
section
variable {w:World} {F:aA} {B:P8} {H:P6} {a:P4} {t u v:P2} {k i:Int} {W Q f r d:P1} {x G:Tok} {z:Value} {m o E:Array DictEntry} {q s D:Nat} {A:Addr}
 {j:P1} {st1:P9} {r1:P1} {pb:Option Nat} {nx1:P1} {g:Bool}
def EU (w:World) (b:P2) (j d r1:P1) (a n:P4):P7:=[az [.str (mk (34::j)) (b 46),.bool true],aj (n 2),ao w.2 (sh 47 b) d (ai d r1),az [.none,.ref (a 3),.int 1 (b 53)]]
def De (w:World) (t u:P2) (k i:Int) (W Q f r:P1) (m:Array DictEntry) (q:Nat) (o:Array DictEntry) (s:Nat) (E:Array DictEntry) (D:Nat) (a:P4):P7:=
 [ax (a 1),ay w.2 t (a 3) (a 2) (a 5) W Q (some [32]) [],a6 k,aj (a 4),ao w.2 u f (ai f r),a6 i,aS m q #[],aS o s #[],aS E D #[]]
def Df (w:World) (b:P2) (k i:Int) (f:P1) (st1:P9) (pb:Option Nat) (m:Array DictEntry) (q:Nat) (o:Array DictEntry) (s:Nat) (E:Array DictEntry) (D:Nat) (a n:P4):P7:=
 [ax (a 1),ay w.2 (sh 0 b) (n 1) (a 2) (a 5) WR [] st1 [],cC pb k (b 38),aj (a 4),ao w.2 (sh 40 b) f (ai f []),c5 i (.ref (n 3)),aS m q (dI 823 824 (.ref (a 7))),aS o s (dI 842 843 (.ref (a 8))),aS E D nP]
theorem w0 (C:Le (top w.2) F) (h:VX f r d) (O:aF WR [] d (some [32]) [] d ⟨34::j,st1,r1,pb,nx1,g⟩):ah aX w F 90 900 [a9 (ae 9 a 6),kr (ae 9 a 6),bO z (ae 9 a 7),eT (ae 9 a 7),d5 (ae 9 a 8),d6] none (.call (.ref 812) ⟨[.ref (ae 9 a 0),.bool false],[]⟩) (ab a (De w t u k i W Q f r m q o s E D (ae 9 a))) (λn y=>Df w y k i f st1 pb m q o s E D (ae 9 a) n) 4 54 (λn y=>EU w y j d r1 (ae 9 a) n) (λn H=>.end_ (.ok (.ret (.ref (n 0))))) (λH H=>[]):=by
 cases h with
 |fst b N T U V h5 h6=>
  exact ah.Pt (λH y=>tW (dB t u y) (dX t u y) (wC t u y) (dW t u y 2) (wB t u y 0) (wD t u y 2)) (((GY w W Q f r b (!b.isEmpty) [(34::b).getLastD 0] j st1 r1 pb nx1 g k i z m q o s E D t u).Pu C (bh (aI ⟨λH e=>qi (C.trans e),λH e=>il (C.trans e),λH e=>dM (C.trans e),trivial⟩)) GZ (ag ⟨rfl,⟨O,by simp⟩,cZ (by simp at h6⊢;lia),bu _ _,rfl,N,rfl,⟨N,T,by decide,U,V,h5,rfl,rfl⟩,trivial⟩) a (dY (by
   intro p I;simp only [List.mem_cons,List.not_mem_nil,or_false] at I;rcases I with rfl|rfl|rfl|rfl
   ·exact dC
   ·exact fX
   ·exact fX
   ·exact gJ))).mono (by show (80:Nat)<=90;decide) (by show (800:Nat)<=900;decide))
   (λH H=>by kernel_rfl) (λH H=>by kernel_rfl) (λH H=>rfl) (λH H=>rfl)
 |loop l ra l2 Y N T U V h5 h6 h7 L=>
  have J:=jE N;cases Y with
  |nil=>
   rw [List.append_nil] at O L⊢;exact ah.Pt (λH y=>tW (dB t u y) (dX t u y) (wR t u y) (dW t u y 2) (wQ t u y 0) (wU t u y 2)) ((G9 w W Q f r l ra l2 j st1 r1 pb nx1 g k i z m q o s E D t u).Pu C (bh (aI ⟨λH e=>eV (C.trans e),λH e=>i3 (C.trans e),λH e=>c9 (C.trans e),λH e=>c9 (C.trans e),λH e=>il (C.trans e),λH e=>dM (C.trans e),trivial⟩)) Ha (ag ⟨rfl,⟨O,by simp⟩,cZ (by simp at L⊢;lia),(bu _ _).trans (by rw [List.append_nil]),rfl,J.1,rfl,⟨by simp,by simp at L⊢;omega,h7⟩,au (by simp at L⊢;lia),trivial,trivial,da,rfl,⟨J.1,J.2,T,U,V⟩,rfl,⟨N,by simp⟩,trivial⟩) a (dY (by
    intro p I;simp only [List.mem_cons,List.not_mem_nil,or_false] at I;rcases I with rfl|rfl|rfl|rfl
    ·exact dC
    ·exact fX
    ·exact dC
    ·exact gJ)))
    (λH H=>by kernel_rfl) (λH H=>by kernel_rfl) (λH H=>rfl) (λH H=>rfl)
  |cons c Y=>
   exact ah.Pt (λH y=>tW (dB t u y) (dX t u y) (wK t u y) (dW t u y 2) (wJ t u y 0) (wL t u y 2)) ((G5 w W Q f r l ra l2 c Y [(c::Y).getLastD 0] j st1 r1 pb nx1 g k i z m q o s E D t u).Pu C (bh (aI ⟨λH e=>eV (C.trans e),λH e=>i3 (C.trans e),λH e=>c9 (C.trans e),λH e=>qn (C.trans e),λH e=>il (C.trans e),λH e=>dM (C.trans e),trivial⟩)) G6 (ag ⟨rfl,⟨O,by simp⟩,cZ (by simp at L⊢;lia),bu _ _,rfl,J.1,rfl,⟨J.1,J.2,h5,h6,rfl⟩,rfl,⟨by simp,by simp at L⊢;lia,h7⟩,au (by simp at L⊢;lia),trivial,trivial,da,rfl,⟨J.1,J.2,T,U,V⟩,rfl,⟨N,by simp⟩,trivial⟩) a (dY (by
    intro p I;simp only [List.mem_cons,List.not_mem_nil,or_false] at I;rcases I with rfl|rfl|rfl|rfl
    ·exact dC
    ·exact fX
    ·exact dC
    ·exact gJ)))
    (λH H=>by kernel_rfl) (λH H=>by kernel_rfl) (λH H=>rfl) (λH H=>rfl)
theorem zw (c:Le (top w.2) F) (h:VX f r d) (e:aF WR [] d (some [32]) [] d ⟨34::j,st1,r1,pb,nx1,g⟩):ah aX w F 90 900 [a9 (ae 9 a 6),kr (ae 9 a 6),bO z (ae 9 a 7),eT (ae 9 a 7),d5 (ae 9 a 8),d6] none (.call (.ref 812) ⟨[.ref (ae 9 a 0),.bool false],[]⟩) (ab a (De w t u k i W Q f r m q o s E D (ae 9 a))) (λn b=>Df w b k i f st1 pb m q o s E D (ae 9 a) n) 4 54 (λn b=>EU w b j d r1 (ae 9 a) n) (λn Y=>.end_ (.ok (.ret (.ref (n 0))))) (λY b=>[oq (cC pb k (b 38)) pb k]):=(w0 c h e).give λY Y=>i4
def lz (w:World) (k i:Int) (W Q f r d:P1) (z:Value) (j:P1) (st1:P9) (r1:P1) (pb:Option Nat) (nx1:P1) (g:Bool):aY:=λY b Y=>
 {need:=90,Po:=900,code:=.call (.ref 812) ⟨[.ref (fA b 0),.bool false],[]⟩,fs:=ab (fA b) (De w (aE (fO b 1)) (aE (fO b 4)) k i W Q f r (bE (fO b 6)) (bF (fO b 6)) (bE (fO b 7)) (bF (fO b 7)) (bE (fO b 8)) (bF (fO b 8)) (fA b)),Pq:=[VX f r d/\aF WR [] d (some [32]) [] d ⟨34::j,st1,r1,pb,nx1,g⟩],wants:=[],
  below:=some [a9 (fA b 6),kr (fA b 6),bO z (fA b 7),eT (fA b 7),d5 (fA b 8),d6],hand:=some none,
  upd:=λn c=>Df w c k i f st1 pb (bE (fO b 6)) (bF (fO b 6)) (bE (fO b 7)) (bF (fO b 7)) (bE (fO b 8)) (bF (fO b 8)) (fA b) n,nn:=4,new:=λn c=>EU w c j d r1 (fA b) n,Pm:=54,res:=λn Y=>.end_ (.ok (.ret (.ref (n 0)))),gives:=λY c=>[oq (cC pb k (c 38)) pb k]}
theorem tX (c:Le (top w.2) F) (y:Code) (b:Qa) (kn:Qb):(lz w k i W Q f r d z j st1 r1 pb nx1 g y b kn).Ok w F:=by
 intro l _ C n p I;have h:VX f r d/\aF WR [] d (some [32]) [] d ⟨34::j,st1,r1,pb,nx1,g⟩:=l _ (.head _);have e:n=none:=I none rfl;subst e;rw [p _ rfl];exact ah.Pu (zw (a:=fA b) c h.1 h.2)
def Dg (w:World) (t u:P2) (k i:Int) (W Q f r:P1) (m:Array DictEntry) (q:Nat) (o:Array DictEntry) (s:Nat) (A:Addr) (a:P4):P7:=
 [ax (a 1),ay w.2 t (a 3) (a 2) (a 5) W Q (some [32]) [],a6 k,aj (a 4),ao w.2 u f (ai f r),a6 i,aS m q #[],aS o s (dI 842 843 (.ref A))]
def Dh (w:World) (b:P2) (k i:Int) (f:P1) (st1:P9) (pb:Option Nat) (m:Array DictEntry) (q:Nat) (o:Array DictEntry) (s:Nat) (A:Addr) (a n:P4):P7:=
 [ax (a 1),ay w.2 (sh 0 b) (n 1) (a 2) (a 5) WR [] st1 [],cC pb k (b 38),aj (a 4),ao w.2 (sh 40 b) f (ai f []),c5 i (.ref (n 3)),aS m q (dI 823 824 (.ref (a 7))),aS o s (dI 842 843 (.ref A))]
theorem w1 (C:Le (top w.2) F) (h:VX f r d) (O:aF WR [] d (some [32]) [] d ⟨34::j,st1,r1,pb,nx1,g⟩):ah aX w F 90 900 [a9 (ae 8 a 6),kr (ae 8 a 6),bO z (ae 8 a 7),eT (ae 8 a 7),d5 A,d6] none (.call (.ref 812) ⟨[.ref (ae 8 a 0),.bool false],[]⟩) (ab a (Dg w t u k i W Q f r m q o s A (ae 8 a))) (λn y=>Dh w y k i f st1 pb m q o s A (ae 8 a) n) 4 54 (λn y=>EU w y j d r1 (ae 8 a) n) (λn H=>.end_ (.ok (.ret (.ref (n 0))))) (λH H=>[]):=by
 cases h with
 |fst b N T U V h5 h6=>
  exact ah.Pt (λH y=>tW (dB t u y) (dX t u y) (wG t u y) (dW t u y 2) (wF t u y 0) (wH t u y 2)) (((G3 w W Q f r b (!b.isEmpty) [(34::b).getLastD 0] j st1 r1 pb nx1 g k i z m q o s A t u).Pu C (bh (aI ⟨λH e=>qi (C.trans e),λH e=>il (C.trans e),λH e=>dM (C.trans e),trivial⟩)) G4 (ag ⟨rfl,⟨O,by simp⟩,cZ (by simp at h6⊢;lia),bu _ _,rfl,N,rfl,⟨N,T,by decide,U,V,h5,rfl,rfl⟩,trivial⟩) a (dY (by
   intro p I;simp only [List.mem_cons,List.not_mem_nil,or_false] at I;rcases I with rfl|rfl|rfl|rfl
   ·exact dC
   ·exact fX
   ·exact fX
   ·exact gJ))).mono (by show (80:Nat)<=90;decide) (by show (800:Nat)<=900;decide))
   (λH H=>by kernel_rfl) (λH H=>by kernel_rfl) (λH H=>rfl) (λH H=>rfl)
 |loop l ra l2 Y N T U V h5 h6 h7 L=>
  have J:=jE N;cases Y with
  |nil=>
   rw [List.append_nil] at O L⊢;exact ah.Pt (λH y=>tW (dB t u y) (dX t u y) (wW t u y) (dW t u y 2) (wV t u y 0) (wX t u y 2)) ((Hb w W Q f r l ra l2 j st1 r1 pb nx1 g k i z m q o s A t u).Pu C (bh (aI ⟨λH e=>eV (C.trans e),λH e=>i3 (C.trans e),λH e=>c9 (C.trans e),λH e=>c9 (C.trans e),λH e=>il (C.trans e),λH e=>dM (C.trans e),trivial⟩)) Hc (ag ⟨rfl,⟨O,by simp⟩,cZ (by simp at L⊢;lia),(bu _ _).trans (by rw [List.append_nil]),rfl,J.1,rfl,⟨by simp,by simp at L⊢;omega,h7⟩,au (by simp at L⊢;lia),trivial,trivial,da,rfl,⟨J.1,J.2,T,U,V⟩,rfl,⟨N,by simp⟩,trivial⟩) a (dY (by
    intro p I;simp only [List.mem_cons,List.not_mem_nil,or_false] at I;rcases I with rfl|rfl|rfl|rfl
    ·exact dC
    ·exact fX
    ·exact dC
    ·exact gJ)))
    (λH H=>by kernel_rfl) (λH H=>by kernel_rfl) (λH H=>rfl) (λH H=>rfl)
  |cons c Y=>
   exact ah.Pt (λH y=>tW (dB t u y) (dX t u y) (wN t u y) (dW t u y 2) (wM t u y 0) (wO t u y 2)) ((G7 w W Q f r l ra l2 c Y [(c::Y).getLastD 0] j st1 r1 pb nx1 g k i z m q o s A t u).Pu C (bh (aI ⟨λH e=>eV (C.trans e),λH e=>i3 (C.trans e),λH e=>c9 (C.trans e),λH e=>qn (C.trans e),λH e=>il (C.trans e),λH e=>dM (C.trans e),trivial⟩)) G8 (ag ⟨rfl,⟨O,by simp⟩,cZ (by simp at L⊢;lia),bu _ _,rfl,J.1,rfl,⟨J.1,J.2,h5,h6,rfl⟩,rfl,⟨by simp,by simp at L⊢;lia,h7⟩,au (by simp at L⊢;lia),trivial,trivial,da,rfl,⟨J.1,J.2,T,U,V⟩,rfl,⟨N,by simp⟩,trivial⟩) a (dY (by
    intro p I;simp only [List.mem_cons,List.not_mem_nil,or_false] at I;rcases I with rfl|rfl|rfl|rfl
    ·exact dC
    ·exact fX
    ·exact dC
    ·exact gJ)))
    (λH H=>by kernel_rfl) (λH H=>by kernel_rfl) (λH H=>rfl) (λH H=>rfl)
theorem zx (c:Le (top w.2) F) (h:VX f r d) (e:aF WR [] d (some [32]) [] d ⟨34::j,st1,r1,pb,nx1,g⟩):ah aX w F 90 900 [a9 (ae 8 a 6),kr (ae 8 a 6),bO z (ae 8 a 7),eT (ae 8 a 7),d5 A,d6] none (.call (.ref 812) ⟨[.ref (ae 8 a 0),.bool false],[]⟩) (ab a (Dg w t u k i W Q f r m q o s A (ae 8 a))) (λn b=>Dh w b k i f st1 pb m q o s A (ae 8 a) n) 4 54 (λn b=>EU w b j d r1 (ae 8 a) n) (λn Y=>.end_ (.ok (.ret (.ref (n 0))))) (λY b=>[oq (cC pb k (b 38)) pb k]):=(w1 c h e).give λY Y=>i4
def lA (w:World) (k i:Int) (W Q f r d:P1) (z:Value) (j:P1) (st1:P9) (r1:P1) (pb:Option Nat) (nx1:P1) (g:Bool):aY:=λY b Y=>
 {need:=90,Po:=900,code:=.call (.ref 812) ⟨[.ref (fA b 0),.bool false],[]⟩,fs:=ab (fA b) (Dg w (aE (fO b 1)) (aE (fO b 4)) k i W Q f r (bE (fO b 6)) (bF (fO b 6)) (bE (fO b 7)) (bF (fO b 7)) (wZ (fO b 7)) (fA b)),Pq:=[VX f r d/\aF WR [] d (some [32]) [] d ⟨34::j,st1,r1,pb,nx1,g⟩],wants:=[],
  below:=some [a9 (fA b 6),kr (fA b 6),bO z (fA b 7),eT (fA b 7),d5 (wZ (fO b 7)),d6],hand:=some none,
  upd:=λn c=>Dh w c k i f st1 pb (bE (fO b 6)) (bF (fO b 6)) (bE (fO b 7)) (bF (fO b 7)) (wZ (fO b 7)) (fA b) n,nn:=4,new:=λn c=>EU w c j d r1 (fA b) n,Pm:=54,res:=λn Y=>.end_ (.ok (.ret (.ref (n 0)))),gives:=λY c=>[oq (cC pb k (c 38)) pb k]}
theorem tY (c:Le (top w.2) F) (y:Code) (b:Qa) (kn:Qb):(lA w k i W Q f r d z j st1 r1 pb nx1 g y b kn).Ok w F:=by
 intro l _ C n p I;have h:VX f r d/\aF WR [] d (some [32]) [] d ⟨34::j,st1,r1,pb,nx1,g⟩:=l _ (.head _);have e:n=none:=I none rfl;subst e;rw [p _ rfl];exact ah.Pu (zx (a:=fA b) c h.1 h.2)
end
end
section
noncomputable def bA (a:Array Value) (n:Nat):Obj:={cls:=.type "list",data:=.seq a n}
def aa (l:P5) (n:Nat):Obj:=bA l.reverse.toArray n
section
variable {w:World} {F:aA} {s:Shared} {A:Around} {E Q:Value->Shared->Prop} {a:Addr} {b:Array Value} {n k:Nat} {x v:Value} {t:Tok} {l:P5}
theorem w2 (l:P5) (x:Value):l.reverse.toArray.push x=(x::l).reverse.toArray:=by simp
theorem c0 (l:P5) (n:Nat) (x:Value):Obj.mapSeq (·.push x) (aa l n)=aa (x::l) (n+1):=by
 delta aa bA Obj.mapSeq;dsimp only;rw [w2];have:((x::l).reverse.toArray.size==l.reverse.toArray.size)=false:=by simp
 rw [this];rfl
theorem c3 {h:Heap} (c:h.get? a=some (bA b n)):h.IsList a b:=⟨_,c,rfl,n,rfl⟩
theorem jF (c:s.1.get? a=some (aa l n)) (f:l.length<=1000) (h:Q .none {s with heap:=s.1.update a (Obj.mapSeq (·.push x))}):wpAny (model aX w) A (call (.builtin "list.append") [.ref a,x]) Q E s:=by
 have d:=c3 c;refine wpAny_call_entry slot_list_append d.typeIs entry_list_append ?_ (args_list_append _ _);show wpAny _ _ (updateSeq a (·.push x)>>=λY=>ret .none) _ _ s;refine wpAny_bind ?_;have e:l.reverse.toArray.size<=sizeLine:=by simp [sizeLine];lia
 exact wpAny_updateSeq (hz:=e) (_hz':=by rw [Array.size_push];simp [sizeLine];lia) c rfl (wpAny_pure ⟨.none,rfl,h⟩)
theorem qr (x:Value) (l:P5):(x::l).reverse.toArray[((-1:Int)+((x::l).reverse.toArray.size:Nat)).toNat]? =some x:=by
 have e:((-1:Int)+((x::l).reverse.toArray.size:Nat)).toNat=l.length:=by simp;lia
 rw [e];simp
theorem lB (d:s.1.get? a=some (aa (x::l) n)) (h:Q x s):wpAny (model aX w) A (call (.builtin "list.__getitem__") [.ref a,.int (-1) t]) Q E s:=by
 have e:=c3 d;refine wpAny_call_entry slot_list_getitem e.typeIs entry_list_getitem ?_ (args_list_getitem _ _);show wpAny _ _ (Builtin.List.listSubscript? (.int (-1) t)>>=_) _ _ s;refine wpAny_bind (wpAny_listSubscript_int (fitsIndex_neg (by decide) (by decide)) ?_)
 have c:=seqIndex_neg (k:= -1) (n:=(x::l).reverse.toArray.size) (by decide) (by simp;lia)
 show wpAny _ _ ((Builtin.List.listItems (.ref a)>>=λb=>pure ((seqIndex? (-1) b.size).bind λi=>b[i]?.map (i,·)))>>=_) _ _ s;refine wpAny_bind (wpAny_bind ?_);refine wpAny_bind (wpAny_seqItems d rfl (wpAny_pure (wpAny_pure ?_)));rw [c];simp only [Option.bind_some,qr,Option.map_some];exact wpAny_pure ⟨x,rfl,h⟩
theorem lC (x v:Value) (l:P5) (n:Nat):Obj.mapSeq (·.setIfInBounds l.length v) (aa (x::l) n)=aa (v::l) n:=by
 delta aa bA Obj.mapSeq;dsimp only;have e:(x::l).reverse.toArray.setIfInBounds l.length v=(v::l).reverse.toArray:=by
  apply Array.ext';simp [List.set_append]
 rw [e];have:((v::l).reverse.toArray.size==(x::l).reverse.toArray.size)=true:=by simp
 rw [this];rfl
theorem rR (d:s.1.get? a=some (aa (x::l) n)) (h:Q .none {s with heap:=s.1.update a (Obj.mapSeq (·.setIfInBounds l.length v))}):wpAny (model aX w) A (call (.builtin "list.__setitem__") [.ref a,.int (-1) t,v]) Q E s:=by
 have f:=c3 d;refine wpAny_call_entry slot_list_setitem f.typeIs entry_list_setitem ?_ (args_list_setitem _ _ _);show wpAny _ _ (Builtin.List.listSubscript? (.int (-1) t)>>=_) _ _ s;refine wpAny_bind (wpAny_listSubscript_int (fitsIndex_neg (by decide) (by decide)) ?_)
 have c:=seqIndex_neg (k:= -1) (n:=(x::l).reverse.toArray.size) (by decide) (by simp;lia)
 show wpAny _ _ ((Builtin.List.listItems (.ref a)>>=λb=>pure ((seqIndex? (-1) b.size).bind λi=>b[i]?.map (i,·)))>>=_) _ _ s;refine wpAny_bind (wpAny_bind ?_);refine wpAny_bind (wpAny_seqItems d rfl (wpAny_pure (wpAny_pure ?_)));rw [c];simp only [Option.bind_some,qr,Option.map_some];have e:((-1:Int)+((x::l).reverse.toArray.size:Nat)).toNat=l.length:=by simp;lia
 rw [e];show wpAny _ _ (setSeqItemAt a l.length v>>=_) _ _ s;refine wpAny_bind (wpAny_setSeqItemAt d rfl ?_)
 first
  |exact wpAny_bind (wpAny_pure (wpAny_pure ⟨.none,rfl,h⟩))
  |exact wpAny_pure ⟨.none,rfl,h⟩
  |exact wpAny_bind (wpAny_pure ⟨.none,rfl,h⟩)
end
section
variable {w:World} {F:aA} {s:Shared} {a:Addr} {o:Obj} {f:Obj->Obj}
theorem dc (c:cK F s.1) (d:F a=none) (k:Nat) {S:Addr->Prop}:ie F F s {s with heap:=s.1.update a f,toks:=k} S:=by
 have g:Heap.SameBut a s.1 (s.1.update a f):=Heap.SameBut.update ..;refine ⟨Le.refl F,λb o e=>?_,λY Y e=>.inl e⟩;refine (g.2 b ?_).trans (c b o e);rintro rfl;rw [d] at e;injection e
theorem dd (t:s.1.get? a=some o) (u:(f o).isFreed=false) (c:Qa) (g:∀p∈c,s.1.get? p.1=some p.2) (j:(((a,o)::c).map (·.1)).Nodup) (k:Nat) (l:P4):
  fk s {s with heap:=s.1.update a f,toks:=k} ((a,o)::c) (f o::c.map (·.2)) 0 [] l:=by
 have m:Heap.SameBut a s.1 (s.1.update a f):=Heap.SameBut.update ..;have n:(s.1.update a f).objs.size=s.1.1.size:=m.1;refine ⟨λb q e v=>?_,λi p q h d Y=>?_,λY Y h=>by simp at h,λY h=>absurd h (Nat.not_lt_zero _),λY h=>absurd h (Nat.not_lt_zero _),λY Y h=>absurd h (Nat.not_lt_zero _),Nat.le_of_eq n.symm,rfl,rfl,rfl,rfl⟩
 ·refine (m.2 b ?_).trans e
  rintro rfl;exact v (.head _)
 ·cases i with
  |zero=>
   cases h;cases d;exact Heap.get?_update_self f t u
  |succ i=>
   have h:c[i]? =some p:=h;have d:(c.map (·.2))[i]? =some q:=d;simp only [List.getElem?_map,h] at d;cases d;have r:=List.mem_of_getElem? h;refine (m.2 p.1 ?_).trans (g p r);rintro rfl;exact (List.nodup_cons.mp j).1 (List.mem_map_of_mem (f:=(·.1)) r)
end
section
variable {w:World} {F:aA} {l:P5} {a:Addr}
noncomputable def NN:Qb:=[]
def bg (l:P5):aY:=λc b Y=>
 {need:=0,Po:=0,code:=.call (.builtin "list.append") ⟨[.ref (fA b 0),bD c 1],[]⟩,fs:=[(fA b 0,aa l (Pr (fO b 0)))],Pq:=[l.length<=1000],wants:=[],
  upd:=λY Y=>[aa (bD c 1::l) (Pr (fO b 0)+1)],nn:=0,new:=λY Y=>[],Pm:=0,res:=λY Y=>.end_ (.ok (.ret .none)),gives:=λY Y=>[]}
theorem bS (c:Code) (b:Qa) (kn:Qb):(bg l c b kn).Ok w F:=by
 intro i _ C n _ _ A s R _ _ _ j d e k;have m:l.length<=1000:=i _ (.head _);have g:=d (fA b 0,aa l (Pr (fO b 0))) (.head _);refine aK.o (aq (jF g.1 m ?_));have p:=dd (f:=Obj.mapSeq (·.push (bD c 1))) g.1 (by rw [c0];rfl) [] (λY h=>by cases h) e s.toks (λY=>0)
 rw [c0] at p;exact k {s with heap:=s.1.update (fA b 0) (Obj.mapSeq (·.push (bD c 1)))} (λY=>0) (λY=>0) F (dc j g.2 s.toks) (λY h=>absurd h (Nat.not_lt_zero _)) (λY h=>by cases h) p
def cT (l:P5):aY:=λc b Y=>
 {need:=0,Po:=0,code:=.call (.builtin "list.append") ⟨[.ref (fA b 0),bD c 1],[]⟩,fs:=[(fA b 0,aa (.ref (fA b 1)::l) (Pr (fO b 0))),(fA b 1,fO b 1)],Pq:=[l.length<1000],wants:=[],
  upd:=λY Y=>[aa (bD c 1::.ref (fA b 1)::l) (Pr (fO b 0)+1),fO b 1],nn:=0,new:=λY Y=>[],Pm:=0,res:=λY Y=>.end_ (.ok (.ret .none)),gives:=λY Y=>[]}
theorem lE (c:Code) (b:Qa) (kn:Qb):(cT l c b kn).Ok w F:=by
 intro i _ C n _ _ A s R _ _ _ j d e k;have o:l.length<1000:=i _ (by simp [cT])
 have g:=d (fA b 0,aa (.ref (fA b 1)::l) (Pr (fO b 0))) (.head _);have m:=d (fA b 1,fO b 1) (.tail _ (.head _));refine aK.o (aq (jF g.1 (by simp;lia) ?_))
 have p:=dd (f:=Obj.mapSeq (·.push (bD c 1))) g.1 (by rw [c0];rfl) [(fA b 1,fO b 1)] (λY h=>by cases List.mem_singleton.mp h;exact m.1) e s.toks (λY=>0)
 simp only [c0] at p;exact k {s with heap:=s.1.update (fA b 0) (Obj.mapSeq (·.push (bD c 1)))} (λY=>0) (λY=>0) F (dc j g.2 s.toks) (λY h=>absurd h (Nat.not_lt_zero _)) (λY h=>by cases h) p
def aV (l:P5):aY:=λc b Y=>
 {need:=0,Po:=0,code:=.call (.builtin "list.__getitem__") ⟨[.ref (fA b 0),.int (-1) (aR (bD c 1))],[]⟩,fs:=[(fA b 0,aa (.ref (fA b 1)::l) (Pr (fO b 0))),(fA b 1,fO b 1)],Pq:=[],wants:=[],
  upd:=λY Y=>[aa (.ref (fA b 1)::l) (Pr (fO b 0)),fO b 1],nn:=0,new:=λY Y=>[],Pm:=0,res:=λY Y=>.end_ (.ok (.ret (.ref (fA b 1)))),gives:=λY Y=>[]}
theorem cf (c:Code) (d:Qa) (kn:Qb):(aV l c d kn).Ok w F:=by
 intro k _ C m _ _ A s R _ _ _ e b f i;have g:=b (fA d 0,aa (.ref (fA d 1)::l) (Pr (fO d 0))) (.head _);refine aK.o (aq (lB g.1 ?_));exact i s (λY=>0) (λY=>0) F (bz e s.toks) (λY h=>absurd h (Nat.not_lt_zero _)) (λY h=>by cases h) (a5 s s.toks _ (λq j=>(b q j).1) _)
def bj (a:Addr) (l:P5):aY:=λc b Y=>
 {need:=0,Po:=0,code:=.call (.builtin "list.__getitem__") ⟨[.ref (fA b 0),.int (-1) (aR (bD c 1))],[]⟩,fs:=[(fA b 0,aa (.ref a::l) (Pr (fO b 0)))],Pq:=[],wants:=[],
  upd:=λY Y=>[aa (.ref a::l) (Pr (fO b 0))],nn:=0,new:=λY Y=>[],Pm:=0,res:=λY Y=>.end_ (.ok (.ret (.ref a))),gives:=λY Y=>[]}
theorem cV (c:Code) (d:Qa) (kn:Qb):(bj a l c d kn).Ok w F:=by
 intro k _ C m _ _ A s R _ _ _ e b f i;have g:=b (fA d 0,aa (.ref a::l) (Pr (fO d 0))) (.head _);refine aK.o (aq (lB g.1 ?_));exact i s (λY=>0) (λY=>0) F (bz e s.toks) (λY h=>absurd h (Nat.not_lt_zero _)) (λY h=>by cases h) (a5 s s.toks _ (λq j=>(b q j).1) _)
def bB (a:Addr) (l:P5):aY:=λc b Y=>
 {need:=0,Po:=0,code:=.call (.builtin "list.__setitem__") ⟨[.ref (fA b 0),.int (-1) (aR (bD c 1)),bD c 2],[]⟩,fs:=[(fA b 0,aa (.ref a::l) (Pr (fO b 0)))],Pq:=[],wants:=[],
  upd:=λY Y=>[aa (bD c 2::l) (Pr (fO b 0))],nn:=0,new:=λY Y=>[],Pm:=0,res:=λY Y=>.end_ (.ok (.ret .none)),gives:=λY Y=>[]}
theorem dp (c:Code) (b:Qa) (kn:Qb):(bB a l c b kn).Ok w F:=by
 intro k _ C m _ _ A s R _ _ _ i d e j;have g:=d (fA b 0,aa (.ref a::l) (Pr (fO b 0))) (.head _);refine aK.o (aq (rR g.1 ?_));have p:=dd (f:=Obj.mapSeq (·.setIfInBounds l.length (bD c 2))) g.1 (by rw [lC];rfl) [] (λY h=>by exact nomatch h) e s.toks (λY=>0)
 simp only [lC] at p;exact j {s with heap:=s.1.update (fA b 0) (Obj.mapSeq (·.setIfInBounds l.length (bD c 2)))} (λY=>0) (λY=>0) F (dc i g.2 s.toks) (λY h=>absurd h (Nat.not_lt_zero _)) (λY h=>by cases h) p
end
end
section
def mC (P:Params) (t:P2) (a m:P1) (k:Int):Obj:=ik [dE P "row" (t 0) (.str (mk a) (t 1)),dE P "meant" (t 2) (.str (mk m) (t 3)),dE P "at" (t 4) (.int k (t 5))]
def rS (a:Addr):Code:=jA (nO (bQ (er 37)) 2) (jB (er 37) "_law_meant.<locals>." 819 818 a)
inductive bX:List Nat->List Nat->Prop
 |nil:bX [] []
 |PQ (c:Nat) {r m:P1}:bX r m->bX (92::c::r) (c::m)
 |chr {c:Nat} {r m:P1}:c≠92->bX r m->bX (c::r) (c::m)
def Bo (t a:P2):Nat->Tok:=bl t [(3,(a 0)),(5,(a 1))]
def Hg (w:World) (b m:P1) (k:Int) (c:Nat) (t:P2) (B:P8) (f:P6):a7:={
 B:=λa=>B,Hd:=f,O:=oB [mk [c],mk (m++[c])],k:=1,nn:=0,Pm:=2,H:=aQ 0xad83ad8211c4ad97b1109da5888300,N:=64,
 cF:=λa=>rS (a 0),oF:=λa=>[mC w.2 t b m k],
 uF:=λa n e=>[mC w.2 (Bo t e) b (m++[c]) (k+1)],nF:=λa n e=>[],rF:=λa n e=>.again (rS (a 0)),idx:=[],Pn:=[4,7],d:=30,u:=300,
 facts:=[aD ((mk m)++(mk [c])),(mk m)++(mk [c])=(mk (m++[c])),fS (mk b) (k:Int) (mk [c]),((mk [c]).cps.toList==(mk [92]).cps.toList)=false,fS (mk b) (k:Int) (mk [c]),decide ((k:Int)<(((mk b).length:Int):Int))=true,aD (mk b)]}
theorem Hh:(Hg w a m k c t B d).Runs w:=by intro b e f;kernel_rfl
def Hi (w:World) (b m:P1) (k:Int) (c:Nat) (t:P2) (B:P8) (f:P6):a7:={
 B:=λa=>B,Hd:=f,O:=oB [mk [92],mk [c],mk (m++[c])],k:=1,nn:=0,Pm:=2,H:=aQ 0xad83ad82120011ad9d830183c49da5888300,N:=78,
 cF:=λa=>rS (a 0),oF:=λa=>[mC w.2 t b m k],
 uF:=λa n e=>[mC w.2 (Bo t e) b (m++[c]) (k+1+1)],nF:=λa n e=>[],rF:=λa n e=>.again (rS (a 0)),idx:=[],Pn:=[7,10],d:=30,u:=300,
 facts:=[aD ((mk m)++(mk [c])),(mk m)++(mk [c])=(mk (m++[c])),fS (mk b) (k+1:Int) (mk [c]),fS (mk b) (k:Int) (mk [92]),decide ((k:Int)<(((mk b).length:Int):Int))=true,aD (mk b)]}
theorem Hj:(Hi w a m k c t B d).Runs w:=by intro b e f;kernel_rfl
noncomputable def Bp (t a:P2):Nat->Tok:=t
def Hk (w:World) (b m:P1) (k:Int) (t:P2) (B:P8) (e:P6):a7:={
 B:=λa=>B,Hd:=e,O:=oB [],k:=1,nn:=0,Pm:=0,H:=0x30100010100000100,N:=23,
 cF:=λa=>rS (a 0),oF:=λa=>[mC w.2 t b m k],
 uF:=λa n c=>[mC w.2 (Bp t c) b m k],nF:=λa n c=>[],rF:=λa n c=>.end_ (.ok .next),idx:=[],Pn:=[],d:=30,u:=300,
 facts:=[decide ((k:Int)<(((mk b).length:Int):Int))=false,aD (mk b)]}
theorem Hl:(Hk w a m k t B c).Runs w:=by intro b d e;kernel_rfl
theorem w4 {r m:P1} (h:bX r m):m.length<=r.length:=by
 induction h with
 |nil=>exact Nat.le_refl _
 |PQ c _ a=>simp only [List.length_cons];lia
 |chr _ _ a=>simp only [List.length_cons];lia
theorem ot {a p r:P1} {c:Nat} (h:a=p++c::r) (b:a.length<=900):fS (mk a) ((p.length:Nat):Int) (mk [c]):=by
 refine ⟨p.length,rfl,?_,c,?_,rfl⟩
 ·rw [h] at b;simp at b;lia
 ·rw [h];simp [mk]
section
variable {w:World} {F:aA} {B:P8} {H:P6} {a:P4} {t:P2} {b:P1}
def ON (w:World) (F:aA) (B:P8) (H:P6) (a:P4) (t:P2) (b m c:P1) (k:Int):Prop:=
 ah aX w F 30 300 B H (rS (ae 1 a 0)) (ab a [mC w.2 t b m k]) (λY d=>[mC w.2 d b c b.length]) 0 6 (λY Y=>[]) (λY Y=>.end_ (.ok .next)) (λY Y=>[])
theorem zy (o:b.length<=900):∀{r d:P1} (_:bX r d) {F:aA} (_:Le (top w.2) F) {t:P2} {p m:P1} {k:Int},b=p++r->m.length+d.length<=900->k=((p.length:Nat):Int)->ON w F B H a t b m (m++d) k:=by
 intro r d h
 induction h with
 |nil=>
  intro F g t p m k f l i;subst i;have e:p.length=b.length:=by simp only [f];simp
  rw [e,List.append_nil];exact ah.Pt (λY q=>Bp t q) ((Hk w b m ((b.length:Nat):Int) t B H).Pu g cG Hl (ag ⟨by show decide (((b.length:Nat):Int)<((b.length:Nat):Int))=false;simp,au (by lia),trivial⟩) a)
   (λY Y=>by kernel_rfl) (λY Y=>rfl) (λY Y=>rfl) (λY Y=>rfl)
 | @PQ c r d _ s=>
  intro F g t p m k f l i;subst i;simp only [List.length_cons] at l;have j:b.length=p.length+(r.length+1+1):=by simp only [f];simp
  have n:=ot f o;have v:fS (mk b) (((p.length:Nat):Int)+1) (mk [c]):=by
   have:=ot (p:=p++[92]) (r:=r) (c:=c) (by simp only [f];simp) o
   simpa using this
  have z:m++c::d=(m++[c])++d:=by simp
  simp only [z];refine ah.seq ((Hi w b m ((p.length:Nat):Int) c t B H).Pu g cG Hj (ag ⟨cZ (by simp;lia),bu _ _,v,n,by show decide (((p.length:Nat):Int)<((b.length:Nat):Int))=true;simp;lia,au (by lia),trivial⟩) a) (λY Y=>rfl) (λY Y=>rfl) λx u y q=>?_
  exact s (g.trans u) (p:=p++[92,c]) (by simp only [f];simp) (by simp;lia) (by simp;lia)
 | @chr c r d A _ s=>
  intro F g t p m k f l i;subst i;simp only [List.length_cons] at l;have j:b.length=p.length+(r.length+1):=by simp only [f];simp
  have n:=ot f o;have z:m++c::d=(m++[c])++d:=by simp
  simp only [z];refine ah.seq ((Hg w b m ((p.length:Nat):Int) c t B H).Pu g cG Hh (ag ⟨cZ (by simp;lia),bu _ _,n,eU A,n,by show decide (((p.length:Nat):Int)<((b.length:Nat):Int))=true;simp;lia,au (by lia),trivial⟩) a) (λY Y=>rfl) (λY Y=>rfl) λx u y q=>?_
  exact s (g.trans u) (p:=p++[c]) (by simp only [f];simp) (by simp;lia) (by simp)
def Bq (b m:P1) (w:World):aY:=λY c Y=>
 {need:=30,Po:=300,code:=rS (fA c 0),fs:=ab (fA c) [mC w.2 (aE (fO c 0)) b [] 0],Pq:=[bX b m/\b.length<=900],wants:=[],
  upd:=λY d=>[mC w.2 d b m b.length],nn:=0,new:=λY Y=>[],Pm:=6,res:=λY Y=>.end_ (.ok .next),gives:=λY Y=>[]}
theorem w5 (d:Le (top w.2) F) {m:P1} (y:Code) (c:Qa) (kn:Qb):(Bq b m w y c kn).Ok w F:=by
 intro e _ C f _ _;have h:bX b m/\b.length<=900:=e _ (.head _);have:=w4 h.1;exact ah.Pu (zy (a:=fA c) (B:=C) (H:=f) (p:=[]) (m:=[]) h.2 h.1 d rfl (by simp;lia) rfl)
end
end
section
def Mq (w:World) (b m:P1) (x:Tok) (B:P8) (e:P6):a7:={
 B:=λa=>B,Hd:=e,O:=oT [] (aC [([],Bq b m w)]),k:=0,nn:=0,Pm:=1,H:=0x100016401010001010001010000ff,N:=41,
 cF:=λa=>.call (.ref 819) ⟨[.str (mk b) x],[]⟩,oF:=λa=>[],
 uF:=λa n c=>[],nF:=λa n c=>[],rF:=λa n c=>.end_ (.ok (.ret (.str (mk m) (c 0)))),idx:=[],Pn:=[8],d:=60,u:=600,
 facts:=[true=true,bX b m/\b.length<=900]}
theorem Mr:(Mq w a m x B c).Runs w:=by intro b d e;kernel_rfl
section
variable {w:World} {F:aA} {a m:P1}
def w6 (w:World) (a m:P1):aY:=λc Y Y=>
 {need:=60,Po:=600,code:=.call (.ref 819) ⟨[.str (mk a) (aR (bD c 0))],[]⟩,fs:=[],Pq:=[bX a m/\a.length<=900],wants:=[],
  upd:=λY Y=>[],nn:=0,new:=λY Y=>[],Pm:=1,res:=λY b=>.end_ (.ok (.ret (.str (mk m) (b 0)))),gives:=λY Y=>[]}
theorem w7 (c:Le (top w.2) F) (y:Code) (b:Qa) (kn:Qb):(w6 w a m y b kn).Ok w F:=by
 intro e _ C d _ _;have h:bX a m/\a.length<=900:=e _ (.head _);exact ah.Pu (ah.Pt (λY f Y=>lh ((Mq w a m (aR (bD y 0)) C d).rF (λY=>0) (λY=>0) f)) ((Mq w a m (aR (bD y 0)) C d).Pu c (mA λY g y b kn=>w5 (c.trans g) y b kn) Mr (ag ⟨rfl,h,trivial⟩) λY=>0) (λY Y=>rfl) (λY Y=>rfl) (λY Y=>by kernel_rfl) (λY Y=>rfl))
end
end
def OO (P:Params) (t:P2) (a:Option (List Nat×P1)):List DictEntry:=match a with
 |none=>[]
 |some x=>[dE P "row" (t 12) (.str (mk x.1) (t 13)),dE P "value" (t 14) (.str (mk x.2) (t 15))]
def a8 (P:Params) (t:P2) (e f:Addr) (c:P1) (b a:Bool) (d:P1) (g:Option (List Nat×P1)) (h:Array P6):Obj:=
 Fp (ik ([dE P "text" (t 0) (.str (mk c) (t 1)),dE P "lexer" (t 2) (.ref e),dE P "lists" (t 4) (.ref f),dE P "named" (t 6) (.bool b),dE P "refused" (t 8) (.bool a),dE P "token" (t 10) (.str (mk d) (t 11))]++OO P t g)) h
noncomputable def Ko (a:Option (List Nat×P1)) (l:List (Nat×Tok)):List (Nat×Tok):=match a with
 |none=>l
 |some _=>[]
noncomputable def cW (a:Addr) (o:Obj):Nat->Option (Addr×Obj):=λj=>match j with
 |0=>some (a,o)
 |_=>none
def s9 (t u v a:P2):Nat->Tok:=bl v [(11,(a 38))]
def Di (t u v a:P2):Nat->Tok:=bl aO [(0,(v 11))]
def Hm (w:World) (b r:P1) (i:P9) (j:Option Nat) (x:Tok) (k m:Int) (e:P1) (y:Bool) (p:Array P6) (l:P5) (q:Nat) (h:P5) (g:Nat) (o:GO) (c:P1) (s:Option (List Nat×P1)) (t u v:P2) (B:P8):a7:={
 B:=λa=>B,Hd:=none,O:=oT [] (aC [([],ka w t x k m WN [] i j b r o),([],bg l),([],aV h),([],cT h)]),k:=9,nn:=1,Pm:=39,H:=aQ 0x1938ee0640afdb307df0708e407a1a1d0026608b08293a609e39607df07a50700,N:=112,
 cF:=λa=>a9 (a 6),oF:=λa=>[ax (a 1),ay w.2 t (a 3) (a 2) (a 5) WN [] i [],cC j k x,aj (a 4),ao w.2 u b (ai b r),a6 m,a8 w.2 v (a 0) (a 7) e y false c s p,aa (.ref (a 8)::h) g,aa l q],
 uF:=λa n f=>[ax (a 1),ay w.2 (dj t u v f) (a 3) (a 2) (a 5) WN [] o.st [],cC o.pb o.k ((gR t u v f) 2),aj (a 4),ao w.2 (gS t u v f) b (ai b o.r),a6 m,a8 w.2 (s9 t u v f) (a 0) (a 7) e true false o.w s p,aa (.ref (a 8)::h) g,aa (.ref (n 0)::l) (q+1)],nF:=λa n f=>[],rF:=λa n f=>.again (a9 (a 6)),idx:=[],Pn:=[9,11,13,15,16,17,18,19,20,21,22,23,25,26,27,28,29,30,31,32,33,35,36,37,38,39,40,41,43,45,46,47,49,50,51,52,53,54,55],Px:=[10],gF:=λa n f=>[λF=>F (n 0)=some (az [.str (mk c) ((Di t u v f) 0),.none])],Pz:=[0],d:=150,u:=1500,
 facts:=[true=true,GA WN [] b i j r k o,((mk c).cps.toList==(mk [44]).cps.toList)=false,true=true,l.length<=1000,true=true,([Qc [61],Qc [59],Qc [44]]).all dm=true,([Qc [61],Qc [59],Qc [44]]).any (aU (mk c))=false,((mk c).cps.toList==(mk [61]).cps.toList)=false,((mk c).cps.toList != (mk []).cps.toList)=true]}
theorem Hn {b:P9}:(Hm w c r b h x k i a j m l n p d o e f t u v B).Runs w:=by intro g q s;cases f<;>kernel_rfl
def Ho (w:World) (b r:P1) (h:P9) (i:Option Nat) (x:Tok) (k j:Int) (c:P1) (s:Bool) (m:Array P6) (l:P5) (p:Nat) (g:P5) (f:Nat) (o:GO) (q:Option (List Nat×P1)) (t u v:P2) (B:P8):a7:={
 B:=λa=>B,Hd:=none,O:=oT [] (aC [([],ka w t x k j WN [] h i b r o),([],bg l),([],aV g),([],cT g)]),k:=9,nn:=0,Pm:=39,H:=aQ 0x1938ee064b3d493a609d596d4d40700,N:=90,
 cF:=λa=>a9 (a 6),oF:=λa=>[ax (a 1),ay w.2 t (a 3) (a 2) (a 5) WN [] h [],cC i k x,aj (a 4),ao w.2 u b (ai b r),a6 j,a8 w.2 v (a 0) (a 7) c s false [59] q m,aa (.ref (a 8)::g) f,aa l p],
 uF:=λa n e=>[ax (a 1),ay w.2 (dj t u v e) (a 3) (a 2) (a 5) WN [] o.st [],cC o.pb o.k ((gR t u v e) 2),aj (a 4),ao w.2 (gS t u v e) b (ai b o.r),a6 j,a8 w.2 (s9 t u v e) (a 0) (a 7) c false false o.w q m,aa (.ref (a 8)::g) f,aa l p],nF:=λa n e=>[],rF:=λa n e=>.again (a9 (a 6)),idx:=[],Pn:=[7,9,11,13,14,15,16,17,18,19,20,21,23,24,25,26,27,28,29,30,31,33,34,35,36,37,38,39,41,43,44,45,47,48,49,50,51,52,53],d:=150,u:=1500,
 facts:=[true=true,GA WN [] b h i r k o,([Qc [61],Qc [59],Qc [44]]).all dm=true,([Qc [61],Qc [59],Qc [44]]).any (aU (mk [59]))=true]}
theorem Hp {b:P9}:(Ho w c r b g x k h a i j l m n d o e t u v B).Runs w:=by intro f p q;cases e<;>kernel_rfl
def Hq (w:World) (b r:P1) (h:P9) (i:Option Nat) (x:Tok) (k j:Int) (c:P1) (s:Bool) (m:Array P6) (l:P5) (p:Nat) (g:P5) (f:Nat) (o:GO) (q:Option (List Nat×P1)) (t u v:P2) (B:P8):a7:={
 B:=λa=>B,Hd:=none,O:=oT [] (aC [([],ka w t x k j WN [] h i b r o),([],bg l),([],aV g),([],cT g)]),k:=9,nn:=0,Pm:=39,H:=aQ 0x1938ee064b3d493a609d5969383d40700,N:=93,
 cF:=λa=>a9 (a 6),oF:=λa=>[ax (a 1),ay w.2 t (a 3) (a 2) (a 5) WN [] h [],cC i k x,aj (a 4),ao w.2 u b (ai b r),a6 j,a8 w.2 v (a 0) (a 7) c false false [61] q m,aa (.ref (a 8)::g) f,aa l p],
 uF:=λa n e=>[ax (a 1),ay w.2 (dj t u v e) (a 3) (a 2) (a 5) WN [] o.st [],cC o.pb o.k ((gR t u v e) 2),aj (a 4),ao w.2 (gS t u v e) b (ai b o.r),a6 j,a8 w.2 (s9 t u v e) (a 0) (a 7) c false false o.w q m,aa (.ref (a 8)::g) f,aa l p],nF:=λa n e=>[],rF:=λa n e=>.again (a9 (a 6)),idx:=[],Pn:=[7,9,11,13,14,15,16,17,18,19,20,21,23,24,25,26,27,28,29,30,31,33,34,35,36,37,38,39,41,43,44,45,47,48,49,50,51,52,53],d:=150,u:=1500,
 facts:=[true=true,GA WN [] b h i r k o,([Qc [61],Qc [59],Qc [44]]).all dm=true,([Qc [61],Qc [59],Qc [44]]).any (aU (mk [61]))=true]}
theorem Hr {b:P9}:(Hq w c r b g x k h a i j l m n d o e t u v B).Runs w:=by intro f p q;cases e<;>kernel_rfl
def Hs (w:World) (b r:P1) (h:P9) (i:Option Nat) (x:Tok) (k j:Int) (c:P1) (s:Bool) (m:Array P6) (l:P5) (p:Nat) (f:P5) (g:Nat) (o:GO) (q:Option (List Nat×P1)) (t u v:P2) (B:P8):a7:={
 B:=λa=>B,Hd:=none,O:=oT [] (aC [([],ka w t x k j WN [] h i b r o),([],bg l),([],aV f),([],cT f)]),k:=9,nn:=1,Pm:=39,H:=aQ 0x1938ee06408fdb307d00267b0b0d493a609d596d4d40700,N:=105,
 cF:=λa=>a9 (a 6),oF:=λa=>[ax (a 1),ay w.2 t (a 3) (a 2) (a 5) WN [] h [],cC i k x,aj (a 4),ao w.2 u b (ai b r),a6 j,a8 w.2 v (a 0) (a 7) c s false [44] q m,aa (.ref (a 8)::f) g,aa l p],
 uF:=λa n e=>[ax (a 1),ay w.2 (dj t u v e) (a 3) (a 2) (a 5) WN [] o.st [],cC o.pb o.k ((gR t u v e) 2),aj (a 4),ao w.2 (gS t u v e) b (ai b o.r),a6 j,a8 w.2 (s9 t u v e) (a 0) (a 7) c false false o.w q m,aa (.ref (n 0)::.ref (a 8)::f) (g+1),av],nF:=λa n e=>[aa [] 0],rF:=λa n e=>.again (a9 (a 6)),idx:=[10],Pn:=[7,9,11,13,14,15,16,17,18,19,20,21,23,24,25,26,27,28,29,30,31,33,34,35,36,37,38,39,41,43,44,45,47,48,49,50,51,52,53],gF:=λa n e=>[λF=>F (a 8)=some (aa l p)],Pz:=[0],d:=150,u:=1500,
 facts:=[true=true,GA WN [] b h i r k o,true=true,f.length<1000,([Qc [61],Qc [59],Qc [44]]).all dm=true,([Qc [61],Qc [59],Qc [44]]).any (aU (mk [44]))=true]}
theorem Ht {b:P9}:(Hs w c r b g x k h a i j l m n d o e t u v B).Runs w:=by intro f p q;cases e<;>kernel_rfl
def Hu (b:Option (List Nat×P1)) (t u v a:P2):Nat->Tok:=bl v ([(11,(a 37)),(13,(a 37)),(15,(a 40))]++Ko b [(12,(a 38)),(14,(a 39))])
def eJ (t u v a:P2):Nat->Tok:=bl aO [(0,778),(1,(a 40))]
def Hv (w:World) (b r:P1) (k j:Int) (e:P1) (o:Array P6) (l:P5) (p:Nat) (m:P5) (g:Nat) (i:Addr) (h:P1) (q:Tok) (x:Value) (r1:P1) (c:Nat) (s:Option (List Nat×P1)) (t u v:P2) (B:P8):a7:={
 B:=λa=>B,Hd:=none,O:=oT [] (aC [([],aV m),([],bj i l),([],bB i l),([],g6 w k j WN [] b r ⟨[c],(some [32]),r1,none,k⟩)]),k:=9,nn:=1,Pm:=41,H:=aQ 0x1a60710d5ba079cab9c108210ab00ab00ab940efd000700a6080166a182d0b808b082a6f0e5e5f0f0c1e409a182d0b808b082e10dd5b6e1e1a60da80aa8c2c2a80aa8c2c2a80aa8c200a8c9840a9605e06700a6d4d40700,N:=321,
 cF:=λa=>a9 (a 6),oF:=λa=>[ax (a 1),ay w.2 t (a 3) (a 2) (a 5) WN [] (some [32]) [],a6 k,aj (a 4),ao w.2 u b (ai b r),a6 j,a8 w.2 v (a 0) (a 7) e true false [61] s o,aa (.ref (a 8)::m) g,aa (.ref i::l) p],
 uF:=λa n f=>[ax (a 1),ay w.2 (dj t u v f) (a 3) (a 2) (a 5) WN [] (some [32]) [],a6 k,aj (a 4),ao w.2 (Bd t u v f) b (ai b r1),a6 j,a8 w.2 (Hu s t u v f) (a 0) (a 7) e false false [c] (some ([c],[])) o,aa (.ref (a 8)::m) g,aa (.ref (n 0)::l) p],nF:=λa n f=>[],rF:=λa n f=>.again (a9 (a 6)),idx:=[],Pn:=[2,4,6,8,9,10,11,12,72,14,15,16,18,67,20,21,22,23,24,25,26,28,29,30,31,32,33,34,36,38,39,42,43,44,45,46,47,48,49,51,54],Py:=cW i (az [.str (mk h) q,x]),Px:=[14],gF:=λa n f=>[λF=>F (n 0)=some (az [.str (mk h) q,.str (mk []) ((eJ t u v f) 1)])],Pz:=[0],d:=150,u:=1500,
 facts:=[([Qc [59],Qc [44],Qc []]).all dm=true,([Qc [59],Qc [44],Qc []]).any (aU (mk [c]))=true,true=true,true=true,true=true,true=true,([Qc [59],Qc [44]]).all dm=true,([Qc [59],Qc [44]]).any (aU (mk [c]))=true,true=true,VA b k r ⟨[c],(some [32]),r1,none,k⟩]}
theorem Hw:(Hv w b r k h a i l j m d n e o p q c f t u v B).Runs w:=by intro g s x;cases f<;>kernel_rfl
def fw (b:Option (List Nat×P1)) (t u v a:P2):Nat->Tok:=bl v ([(11,(a 38)),(13,(a 40)),(15,(a 40))]++Ko b [(12,(a 39)),(14,(a 41))])
def Br (w:World) (b r:P1) (k j:Int) (f:P1) (q:Array P6) (l:P5) (s:Nat) (p:P5) (h:Nat) (m:Addr) (i:P1) (x:Tok) (z:Value) (o:GO) (r1:P1) (c:Nat) (e:P1) (y:Option (List Nat×P1)) (t u v:P2) (B:P8):a7:={
 B:=λa=>B,Hd:=none,O:=oT [mk [c]] (aC [([],aV p),([],bj m l),([],bB m l),([],g6 w k j WN [] b r ⟨(c::e),(some [32]),r1,none,k⟩),([],fv w k j WN [] (some [32]) none b r1 o)]),k:=9,nn:=1,Pm:=42,H:=aQ 0x1938ee068b30711e3b9079cba9c118211ba00ba00ba940ffd000700a6080166a182d0b808b082a6f0e5e5f0f0c1e409a182d0b808b08207df0ec8070de3b6e1e1a60da80aa8c2c2a80aa8c2c2a80aa8c200a8c9840a9605e06700a6d4d40700,N:=344,
 cF:=λa=>a9 (a 6),oF:=λa=>[ax (a 1),ay w.2 t (a 3) (a 2) (a 5) WN [] (some [32]) [],a6 k,aj (a 4),ao w.2 u b (ai b r),a6 j,a8 w.2 v (a 0) (a 7) f true false [61] y q,aa (.ref (a 8)::p) h,aa (.ref m::l) s],
 uF:=λa n g=>[ax (a 1),ay w.2 (dj t u v g) (a 3) (a 2) (a 5) WN [] o.st [],cC o.pb o.k ((gR t u v g) 2),aj (a 4),ao w.2 (gS t u v g) b (ai b o.r),a6 j,a8 w.2 (fw y t u v g) (a 0) (a 7) f false false o.w (some ((c::e),(c::e))) q,aa (.ref (a 8)::p) h,aa (.ref (n 0)::l) s],nF:=λa n g=>[],rF:=λa n g=>.again (a9 (a 6)),idx:=[],Pn:=[81,83,85,87,88,89,90,91,92,93,94,95,97,98,99,100,101,102,103,104,105,107,108,109,110,111,112,113,115,117,118,119,121,122,123,124,125,126,127,49,48,51],Py:=cW m (az [.str (mk i) x,z]),Px:=[15],gF:=λa n g=>[λF=>F (n 0)=some (az [.str (mk i) x,.str (mk (c::e)) ((eJ t u v g) 1)])],Pz:=[0],d:=150,u:=1500,
 facts:=[true=true,GA WN [] b (some [32]) none r1 k o,([Qc [59],Qc [44],Qc []]).all dm=true,([Qc [59],Qc [44],Qc []]).any (aU (mk (c::e)))=false,true=true,true=true,true=true,true=true,((mk [c]).cps.toList==(mk [34]).cps.toList)=false,aD (mk (c::e)),ak .none,ak (.int (1:Int) 0),Txt.slice (mk (c::e)) none (some (1:Int))=(mk [c]),([Qc [59],Qc [44]]).all dm=true,([Qc [59],Qc [44]]).any (aU (mk (c::e)))=false,true=true,VA b k r ⟨(c::e),(some [32]),r1,none,k⟩]}
theorem Dj:(Br w b r k h a i l j m d n e p q o s c x f t u v B).Runs w:=by intro g y z;cases f<;>kernel_rfl
def Bs (w:World) (b r:P1) (k j:Int) (f:P1) (s:Array P6) (l:P5) (x:Nat) (q:P5) (h:Nat) (m:Addr) (i:P1) (y:Tok) (A:Value) (o:GO) (r1:P1) (p c:Nat) (e:P1) (z:Option (List Nat×P1)) (t u v:P2) (B:P8):a7:={
 B:=λa=>B,Hd:=none,O:=oT [mk [c]] (aC [([],aV q),([],bj m l),([],bB m l),([],g6 w k j WN [] b r ⟨(c::e),(some [32]),r1,(some p),k⟩),([],fv w k j WN [] (some [32]) (some p) b r1 o)]),k:=9,nn:=1,Pm:=42,H:=aQ 0x1938ee068b30711e3b9079cba9c118211ba00ba00ba940ffd000700a6080166a182d0b808b082a6f0e5e5f0f0c1e409a182d0b808b08207df0ec8070de3b6e1e1a60da80aa8c2c2a80aa8c2c2a80aa8c200a8c9840a9605e06700a6d4d40700,N:=344,
 cF:=λa=>a9 (a 6),oF:=λa=>[ax (a 1),ay w.2 t (a 3) (a 2) (a 5) WN [] (some [32]) [],a6 k,aj (a 4),ao w.2 u b (ai b r),a6 j,a8 w.2 v (a 0) (a 7) f true false [61] z s,aa (.ref (a 8)::q) h,aa (.ref m::l) x],
 uF:=λa n g=>[ax (a 1),ay w.2 (dj t u v g) (a 3) (a 2) (a 5) WN [] o.st [],cC o.pb o.k ((gR t u v g) 2),aj (a 4),ao w.2 (gS t u v g) b (ai b o.r),a6 j,a8 w.2 (fw z t u v g) (a 0) (a 7) f false false o.w (some ((c::e),(c::e))) s,aa (.ref (a 8)::q) h,aa (.ref (n 0)::l) x],nF:=λa n g=>[],rF:=λa n g=>.again (a9 (a 6)),idx:=[],Pn:=[81,83,85,87,88,89,90,91,92,93,94,95,97,98,99,100,101,102,103,104,105,107,108,109,110,111,112,113,115,117,118,119,121,122,123,124,125,126,127,49,48,51],Py:=cW m (az [.str (mk i) y,A]),Px:=[15],gF:=λa n g=>[λF=>F (n 0)=some (az [.str (mk i) y,.str (mk (c::e)) ((eJ t u v g) 1)])],Pz:=[0],d:=150,u:=1500,
 facts:=[true=true,GA WN [] b (some [32]) (some p) r1 k o,([Qc [59],Qc [44],Qc []]).all dm=true,([Qc [59],Qc [44],Qc []]).any (aU (mk (c::e)))=false,true=true,true=true,true=true,true=true,((mk [c]).cps.toList==(mk [34]).cps.toList)=false,aD (mk (c::e)),ak .none,ak (.int (1:Int) 0),Txt.slice (mk (c::e)) none (some (1:Int))=(mk [c]),([Qc [59],Qc [44]]).all dm=true,([Qc [59],Qc [44]]).any (aU (mk (c::e)))=false,true=true,VA b k r ⟨(c::e),(some [32]),r1,(some p),k⟩]}
theorem Dk:(Bs w b r k h a i l j m d n e p q o s x c y f t u v B).Runs w:=by intro g z A;cases f<;>kernel_rfl
def Bt (w:World) (b r:P1) (k j:Int) (f:P1) (q:Array P6) (l:P5) (s:Nat) (p:P5) (h:Nat) (m:Addr) (i:P1) (x:Tok) (z:Value) (o:GO) (r1:P1) (c:Nat) (e:P1) (y:Option (List Nat×P1)) (t u v:P2) (B:P8):a7:={
 B:=λa=>B,Hd:=none,O:=oT [mk [c]] (aC [([],aV p),([],bj m l),([],bB m l),([],g6 w k j WN [] b r ⟨(c::e),none,r1,none,k⟩),([],fv w k j WN [] none none b r1 o)]),k:=9,nn:=1,Pm:=42,H:=aQ 0x1938ee068b30711e3b9079cba9c118211ba00ba00ba940ffd000700a6080166a182d0b808b082a6f0e5e5f0f0c1e409a182d0b808b08207df0ec8070de3b6e1e1a60da80aa8c2c2a80aa8c2c2a80aa8c200a8c9840a9605e06700a6d4d40700,N:=344,
 cF:=λa=>a9 (a 6),oF:=λa=>[ax (a 1),ay w.2 t (a 3) (a 2) (a 5) WN [] (some [32]) [],a6 k,aj (a 4),ao w.2 u b (ai b r),a6 j,a8 w.2 v (a 0) (a 7) f true false [61] y q,aa (.ref (a 8)::p) h,aa (.ref m::l) s],
 uF:=λa n g=>[ax (a 1),ay w.2 (dj t u v g) (a 3) (a 2) (a 5) WN [] o.st [],cC o.pb o.k ((gR t u v g) 2),aj (a 4),ao w.2 (gS t u v g) b (ai b o.r),a6 j,a8 w.2 (fw y t u v g) (a 0) (a 7) f false false o.w (some ((c::e),(c::e))) q,aa (.ref (a 8)::p) h,aa (.ref (n 0)::l) s],nF:=λa n g=>[],rF:=λa n g=>.again (a9 (a 6)),idx:=[],Pn:=[81,83,85,87,88,89,90,91,92,93,94,95,97,98,99,100,101,102,103,104,105,107,108,109,110,111,112,113,115,117,118,119,121,122,123,124,125,126,127,49,48,51],Py:=cW m (az [.str (mk i) x,z]),Px:=[15],gF:=λa n g=>[λF=>F (n 0)=some (az [.str (mk i) x,.str (mk (c::e)) ((eJ t u v g) 1)])],Pz:=[0],d:=150,u:=1500,
 facts:=[true=true,GA WN [] b none none r1 k o,([Qc [59],Qc [44],Qc []]).all dm=true,([Qc [59],Qc [44],Qc []]).any (aU (mk (c::e)))=false,true=true,true=true,true=true,true=true,((mk [c]).cps.toList==(mk [34]).cps.toList)=false,aD (mk (c::e)),ak .none,ak (.int (1:Int) 0),Txt.slice (mk (c::e)) none (some (1:Int))=(mk [c]),([Qc [59],Qc [44]]).all dm=true,([Qc [59],Qc [44]]).any (aU (mk (c::e)))=false,true=true,VA b k r ⟨(c::e),none,r1,none,k⟩]}
theorem Dl:(Bt w b r k h a i l j m d n e p q o s c x f t u v B).Runs w:=by intro g y z;cases f<;>kernel_rfl
def Hx (t u v a:P2):Nat->Tok:=bl t [(0,(a 0)),(2,(a 1)),(4,(a 2)),(6,(a 3)),(7,(a 4)),(8,(a 5)),(9,(a 6)),(10,(a 7)),(11,(a 8)),(12,(a 9)),(13,(a 10)),(14,(a 11)),(16,(a 12)),(17,(a 13)),(18,(a 14)),(19,(a 15)),(20,(a 16)),(21,(a 17)),(22,(a 18)),(24,(a 19)),(26,(a 20)),(27,(a 21)),(28,(a 22)),(29,(a 23)),(30,(a 24)),(31,(a 25)),(32,(a 26)),(34,(a 27)),(36,(a 28)),(37,(a 29))]
def Hy (t u v a:P2):Nat->Tok:=bl u [(0,(a 30)),(1,(a 31)),(2,(a 32)),(3,(a 33)),(4,(a 34)),(5,(a 35))]
def Hz (b:Option (List Nat×P1)) (t u v a:P2):Nat->Tok:=bl v ([(11,(a 36)),(13,(a 36)),(15,(a 36))]++Ko b [(12,(a 37)),(14,(a 38))])
def Dm (t u v a:P2):Nat->Tok:=bl aO [(0,778),(1,(a 36))]
def HA (w:World) (b r:P1) (k i:Int) (c:P1) (m:Array P6) (l:P5) (o:Nat) (j:P5) (f:Nat) (h:Addr) (g:P1) (p:Tok) (s:Value) (q:Option (List Nat×P1)) (t u v:P2) (B:P8):a7:={
 B:=λa=>B,Hd:=none,O:=oT [mk []] (aC [([],aV j),([],bj h l),([],bB h l),([],g6 w k i WN [] b r ⟨[],none,[],none,k⟩)]),k:=9,nn:=1,Pm:=39,H:=aQ 0x1a60711d5b9079cba9c118211ba00ba00ba940ffd000700a6080166a182d0b808b082a6f0e5e5f0f0c1e409a182d0b808b082d4acac82070de3b6e1e1a60da80aa8c2c2a80aa8c2c2a80aa8c200a8c9840a9605e06700a6d4d40700,N:=332,
 cF:=λa=>a9 (a 6),oF:=λa=>[ax (a 1),ay w.2 t (a 3) (a 2) (a 5) WN [] (some [32]) [],a6 k,aj (a 4),ao w.2 u b (ai b r),a6 i,a8 w.2 v (a 0) (a 7) c true false [61] q m,aa (.ref (a 8)::j) f,aa (.ref h::l) o],
 uF:=λa n e=>[ax (a 1),ay w.2 (Hx t u v e) (a 3) (a 2) (a 5) WN [] none [],a6 k,aj (a 4),ao w.2 (Hy t u v e) b (ai b []),a6 i,a8 w.2 (Hz q t u v e) (a 0) (a 7) c false false [] (some ([],[])) m,aa (.ref (a 8)::j) f,aa (.ref (n 0)::l) o],nF:=λa n e=>[],rF:=λa n e=>.again (a9 (a 6)),idx:=[],Pn:=[2,4,6,8,9,10,11,12,72,14,15,16,18,67,20,21,22,23,24,26,28,29,30,31,32,33,34,36,38,39,42,43,44,45,46,47,48,49,51],Py:=cW h (az [.str (mk g) p,s]),Px:=[15],gF:=λa n e=>[λF=>F (n 0)=some (az [.str (mk g) p,.str (mk []) ((Dm t u v e) 1)])],Pz:=[0],d:=150,u:=1500,
 facts:=[([Qc [59],Qc [44],Qc []]).all dm=true,([Qc [59],Qc [44],Qc []]).any (aU (mk []))=true,true=true,true=true,true=true,true=true,([Qc [59],Qc [44]]).all dm=true,([Qc [59],Qc [44]]).any (aU (mk []))=false,true=true,VA b k r ⟨[],none,[],none,k⟩]}
theorem HB:(HA w b r k g a h l i j c m d n o e t u v B).Runs w:=by intro f p q;cases e<;>kernel_rfl
def HC (b:Option (List Nat×P1)) (t u v a:P2):Nat->Tok:=bl v ([(11,(a 38)),(13,(a 40)),(15,(a 42))]++Ko b [(12,(a 39)),(14,(a 41))])
def Dn (t u v a:P2):Nat->Tok:=bl aO [(0,778),(1,(a 42))]
def HD (w:World) (c r:P1) (k i:Int) (e:P1) (q:Array P6) (l:P5) (s:Nat) (p:P5) (g:Nat) (j:Addr) (h:P1) (x:Tok) (z:Value) (o:GO) (r1 b m:P1) (y:Option (List Nat×P1)) (t u v:P2) (B:P8):a7:={
 B:=λa=>B,Hd:=none,O:=oT [mk [34],mk (b++[34]),mk b] (aC [([],aV p),([],bj j l),([],bB j l),([],g6 w k i WN [] c r ⟨(34::(b++[34])),(some [32]),r1,none,k⟩),([],fv w k i WN [] (some [32]) none c r1 o),([],w6 w b m)]),k:=9,nn:=1,Pm:=43,H:=aQ 0x1938ee068b30714e31515079cbb9c148214bb00bb00bb9412fd000700a6080166a182d0b808b082a6f0e5e5f0f0c1e409a182d0b808b082e68269c4ab001101328210000210abc4013110000210ab94000782d40ec8070de3b6e1e1a60da80aa8c2c2a80aa8c2c2a80aa8c200a8c9840a9605e06700a6d4d40700,N:=436,
 cF:=λa=>a9 (a 6),oF:=λa=>[ax (a 1),ay w.2 t (a 3) (a 2) (a 5) WN [] (some [32]) [],a6 k,aj (a 4),ao w.2 u c (ai c r),a6 i,a8 w.2 v (a 0) (a 7) e true false [61] y q,aa (.ref (a 8)::p) g,aa (.ref j::l) s],
 uF:=λa n f=>[ax (a 1),ay w.2 (dj t u v f) (a 3) (a 2) (a 5) WN [] o.st [],cC o.pb o.k ((gR t u v f) 2),aj (a 4),ao w.2 (gS t u v f) c (ai c o.r),a6 i,a8 w.2 (HC y t u v f) (a 0) (a 7) e false false o.w (some ((34::(b++[34])),m)) q,aa (.ref (a 8)::p) g,aa (.ref (n 0)::l) s],nF:=λa n f=>[],rF:=λa n f=>.again (a9 (a 6)),idx:=[],Pn:=[93,95,97,99,100,101,102,103,104,105,106,107,109,110,111,112,113,114,115,116,117,119,120,121,122,123,124,125,127,129,130,131,133,134,135,136,137,138,139,49,48,51,67],Py:=cW j (az [.str (mk h) x,z]),Px:=[18],gF:=λa n f=>[λF=>F (n 0)=some (az [.str (mk h) x,.str (mk m) ((Dn t u v f) 1)])],Pz:=[0],d:=150,u:=1500,
 facts:=[true=true,GA WN [] c (some [32]) none r1 k o,([Qc [59],Qc [44],Qc []]).all dm=true,([Qc [59],Qc [44],Qc []]).any (aU (mk (34::(b++[34]))))=false,true=true,true=true,true=true,true=true,true=true,bX b m/\b.length<=900,aD (mk (b++[34])),ak .none,ak (.int (-1:Int) 0),Txt.slice (mk (b++[34])) none (some (-1:Int))=(mk b),Txt.endswith (mk (b++[34])) (mk [34])=true,aD (mk (34::(b++[34]))),ak (.int (1:Int) 0),ak .none,Txt.slice (mk (34::(b++[34]))) (some (1:Int)) none=(mk (b++[34])),Txt.startswith (mk (34::(b++[34]))) (mk [34])=true,aD (mk (34::(b++[34]))),ak .none,ak (.int (1:Int) 0),Txt.slice (mk (34::(b++[34]))) none (some (1:Int))=(mk [34]),([Qc [59],Qc [44]]).all dm=true,([Qc [59],Qc [44]]).any (aU (mk (34::(b++[34]))))=false,true=true,VA c k r ⟨(34::(b++[34])),(some [32]),r1,none,k⟩]}
theorem HE:(HD w c r k h a i l j n d p e q s o x b m f t u v B).Runs w:=by intro g y z;cases f<;>kernel_rfl
noncomputable def Bu (v a:P2):Nat->Tok:=v
def HF (w:World) (e f:Addr) (b:P1) (g h:Bool) (i:Array P6) (j:Option (List Nat×P1)) (v:P2) (B:P8):a7:={
 B:=λa=>B,Hd:=none,O:=oB [],k:=1,nn:=0,Pm:=0,H:=65792,N:=18,
 cF:=λa=>a9 (a 0),oF:=λa=>[a8 w.2 v e f b g h [] j i],
 uF:=λa n c=>[a8 w.2 (Bu v c) e f b g h [] j i],nF:=λa n c=>[],rF:=λa n c=>.end_ (.ok .next),idx:=[],Pn:=[],d:=150,u:=1500,
 facts:=[]}
theorem HG:(HF w d e a f g h b v B).Runs w:=by intro c i j;cases b<;>kernel_rfl
def fZ (t u v z a:P2):Nat->Tok:=bl t [(0,(a 0)),(2,(a 1)),(4,(a 2)),(6,(a 3)),(7,(a 4)),(8,(a 5)),(9,(a 6)),(10,(a 7)),(11,(a 8)),(12,(a 9)),(13,(a 10)),(14,(a 11)),(16,(a 12)),(17,(a 13)),(18,(a 14)),(19,(a 15)),(20,(a 16)),(21,(a 17)),(22,(a 18)),(23,(a 19)),(24,(a 20)),(26,(a 21)),(27,(a 22)),(28,(a 23)),(29,(a 24)),(30,(a 25)),(31,(a 26)),(32,(a 27)),(34,(a 28)),(36,(a 29)),(37,(a 30))]
def g7 (t u v z a:P2):Nat->Tok:=bl aO [(2,(a 31))]
def g8 (t u v z a:P2):Nat->Tok:=bl u [(0,(a 32)),(1,(a 33)),(2,(a 34)),(3,(a 35)),(4,(a 36)),(5,(a 37))]
def g9 (t u v z a:P2):Nat->Tok:=bl v [(0,(a 38)),(1,(a 39)),(2,(a 40)),(3,(a 41)),(4,(a 42)),(5,(a 43))]
def tc (t u v z a:P2):Nat->Tok:=bl z [(11,(a 44))]
def Do (t u v z a:P2):Nat->Tok:=bl aO [(0,(z 11))]
def HH (w:World) (c r b:P1) (m:P9) (p:Option Nat) (x:Tok) (k q:Int) (s:Tok) (g:P1) (y:Array P6) (l:P5) (A:Nat) (j:P5) (h:Nat) (rw C:P1) (D:Bool) (o:GO) (i:Bool) (e:P1) (t u v z:P2) (B:P8):a7:={
 B:=λa=>B,Hd:=none,O:=oT [] (aC [([],lr w t x k q WN [] m p c r b o i),([],bg l),([],aV j),([],cT j)]),k:=12,nn:=1,Pm:=45,H:=aQ 0x1a3d00605b2b4640dfdb30adf0a0be40aa9a90b0a02660ba88296a30ce3b50adf0aa50a00,N:=112,
 cF:=λa=>a9 (a 9),oF:=λa=>[ax (a 1),ay w.2 t (a 3) (a 2) (a 5) WN [] m [],cC p k x,aj (a 4),ao w.2 u c (ai c r),c5 q (.ref (a 6)),az [.none,.ref (a 7),.int 1 s],aj (a 8),ao w.2 v b (ai b []),a8 w.2 z (a 0) (a 10) g D true e (some (rw,C)) y,aa (.ref (a 11)::j) h,aa l A],
 uF:=λa n f=>[ax (a 1),ay w.2 (fZ t u v z f) (rn i a) (a 2) (a 5) WN [] o.st [],cC o.pb o.k ((g7 t u v z f) 2),aj (a 4),d7 w.2 (g8 t u v z f) c (ai c o.r) i,mw i q (a 6),az [.none,.ref (a 7),.int 1 s],aj (a 8),ao w.2 (g9 t u v z f) b (ai b []),a8 w.2 (tc t u v z f) (a 0) (a 10) g true true o.w (some (rw,C)) y,aa (.ref (a 11)::j) h,aa (.ref (n 0)::l) (A+1)],nF:=λa n f=>[],rF:=λa n f=>.again (a9 (a 9)),idx:=[],Pn:=[9,11,13,15,16,17,18,19,20,21,22,23,25,26,27,28,29,30,31,32,33,35,36,37,38,39,40,41,43,45,46,47,49,50,51,52,53,54,56,57,58,59,60,61,55],Px:=[13],gF:=λa n f=>[λF=>F (n 0)=some (az [.str (mk e) ((Do t u v z f) 0),.none])],Pz:=[0],d:=150,u:=1500,
 facts:=[true=true,GR WN [] c b m p r k o i,((mk e).cps.toList==(mk [44]).cps.toList)=false,true=true,l.length<=1000,true=true,([Qc [61],Qc [59],Qc [44]]).all dm=true,([Qc [61],Qc [59],Qc [44]]).any (aU (mk e))=false,((mk e).cps.toList==(mk [61]).cps.toList)=false,((mk e).cps.toList != (mk []).cps.toList)=true]}
theorem HI {c:P9}:(HH w d r a c h x k i j b m l n p e rw q s o y f t u v z B).Runs w:=by intro g A C;kernel_rfl
def HJ (w:World) (c r b:P1) (j:P9) (m:Option Nat) (x:Tok) (k p:Int) (q:Tok) (e:P1) (s:Array P6) (l:P5) (y:Nat) (i:P5) (g:Nat) (rw A:P1) (C:Bool) (o:GO) (h:Bool) (t u v z:P2) (B:P8):a7:={
 B:=λa=>B,Hd:=none,O:=oT [] (aC [([],lr w t x k p WN [] j m c r b o h),([],bg l),([],aV i),([],cT i)]),k:=12,nn:=0,Pm:=45,H:=aQ 0x1a3d00605b2b464b30a8396a30cd5b50a830a830a00,N:=90,
 cF:=λa=>a9 (a 9),oF:=λa=>[ax (a 1),ay w.2 t (a 3) (a 2) (a 5) WN [] j [],cC m k x,aj (a 4),ao w.2 u c (ai c r),c5 p (.ref (a 6)),az [.none,.ref (a 7),.int 1 q],aj (a 8),ao w.2 v b (ai b []),a8 w.2 z (a 0) (a 10) e C true [59] (some (rw,A)) s,aa (.ref (a 11)::i) g,aa l y],
 uF:=λa n f=>[ax (a 1),ay w.2 (fZ t u v z f) (rn h a) (a 2) (a 5) WN [] o.st [],cC o.pb o.k ((g7 t u v z f) 2),aj (a 4),d7 w.2 (g8 t u v z f) c (ai c o.r) h,mw h p (a 6),az [.none,.ref (a 7),.int 1 q],aj (a 8),ao w.2 (g9 t u v z f) b (ai b []),a8 w.2 (tc t u v z f) (a 0) (a 10) e false true o.w (some (rw,A)) s,aa (.ref (a 11)::i) g,aa l y],nF:=λa n f=>[],rF:=λa n f=>.again (a9 (a 9)),idx:=[],Pn:=[7,9,11,13,14,15,16,17,18,19,20,21,23,24,25,26,27,28,29,30,31,33,34,35,36,37,38,39,41,43,44,45,47,48,49,50,51,52,54,55,56,57,58,59,53],d:=150,u:=1500,
 facts:=[true=true,GR WN [] c b j m r k o h,([Qc [61],Qc [59],Qc [44]]).all dm=true,([Qc [61],Qc [59],Qc [44]]).any (aU (mk [59]))=true]}
theorem HK {c:P9}:(HJ w d r a c g x k h i b j l m n e rw p q o s t u v z B).Runs w:=by intro f y A;kernel_rfl
def HL (w:World) (c r b:P1) (j:P9) (m:Option Nat) (x:Tok) (k p:Int) (q:Tok) (e:P1) (s:Array P6) (l:P5) (y:Nat) (i:P5) (g:Nat) (rw A:P1) (C:Bool) (o:GO) (h:Bool) (t u v z:P2) (B:P8):a7:={
 B:=λa=>B,Hd:=none,O:=oT [] (aC [([],lr w t x k p WN [] j m c r b o h),([],bg l),([],aV i),([],cT i)]),k:=12,nn:=0,Pm:=45,H:=aQ 0x1a3d00605b2b464b30a8396a30cd5b596830a830a00,N:=93,
 cF:=λa=>a9 (a 9),oF:=λa=>[ax (a 1),ay w.2 t (a 3) (a 2) (a 5) WN [] j [],cC m k x,aj (a 4),ao w.2 u c (ai c r),c5 p (.ref (a 6)),az [.none,.ref (a 7),.int 1 q],aj (a 8),ao w.2 v b (ai b []),a8 w.2 z (a 0) (a 10) e false true [61] (some (rw,A)) s,aa (.ref (a 11)::i) g,aa l y],
 uF:=λa n f=>[ax (a 1),ay w.2 (fZ t u v z f) (rn h a) (a 2) (a 5) WN [] o.st [],cC o.pb o.k ((g7 t u v z f) 2),aj (a 4),d7 w.2 (g8 t u v z f) c (ai c o.r) h,mw h p (a 6),az [.none,.ref (a 7),.int 1 q],aj (a 8),ao w.2 (g9 t u v z f) b (ai b []),a8 w.2 (tc t u v z f) (a 0) (a 10) e false true o.w (some (rw,A)) s,aa (.ref (a 11)::i) g,aa l y],nF:=λa n f=>[],rF:=λa n f=>.again (a9 (a 9)),idx:=[],Pn:=[7,9,11,13,14,15,16,17,18,19,20,21,23,24,25,26,27,28,29,30,31,33,34,35,36,37,38,39,41,43,44,45,47,48,49,50,51,52,54,55,56,57,58,59,53],d:=150,u:=1500,
 facts:=[true=true,GR WN [] c b j m r k o h,([Qc [61],Qc [59],Qc [44]]).all dm=true,([Qc [61],Qc [59],Qc [44]]).any (aU (mk [61]))=true]}
theorem HM {c:P9}:(HL w d r a c g x k h i b j l m n e rw p q o s t u v z B).Runs w:=by intro f y A;kernel_rfl
def HN (w:World) (c r b:P1) (j:P9) (m:Option Nat) (x:Tok) (k p:Int) (q:Tok) (e:P1) (s:Array P6) (l:P5) (y:Nat) (g:P5) (h:Nat) (rw A:P1) (C:Bool) (o:GO) (i:Bool) (t u v z:P2) (B:P8):a7:={
 B:=λa=>B,Hd:=none,O:=oT [] (aC [([],lr w t x k p WN [] j m c r b o i),([],bg l),([],aV g),([],cT g)]),k:=12,nn:=1,Pm:=45,H:=aQ 0x1a3d00605b2b4640bfdb30a0b0a0267a8a80a8396a30cd5b50a830a830a00,N:=105,
 cF:=λa=>a9 (a 9),oF:=λa=>[ax (a 1),ay w.2 t (a 3) (a 2) (a 5) WN [] j [],cC m k x,aj (a 4),ao w.2 u c (ai c r),c5 p (.ref (a 6)),az [.none,.ref (a 7),.int 1 q],aj (a 8),ao w.2 v b (ai b []),a8 w.2 z (a 0) (a 10) e C true [44] (some (rw,A)) s,aa (.ref (a 11)::g) h,aa l y],
 uF:=λa n f=>[ax (a 1),ay w.2 (fZ t u v z f) (rn i a) (a 2) (a 5) WN [] o.st [],cC o.pb o.k ((g7 t u v z f) 2),aj (a 4),d7 w.2 (g8 t u v z f) c (ai c o.r) i,mw i p (a 6),az [.none,.ref (a 7),.int 1 q],aj (a 8),ao w.2 (g9 t u v z f) b (ai b []),a8 w.2 (tc t u v z f) (a 0) (a 10) e false true o.w (some (rw,A)) s,aa (.ref (n 0)::.ref (a 11)::g) (h+1),av],nF:=λa n f=>[aa [] 0],rF:=λa n f=>.again (a9 (a 9)),idx:=[13],Pn:=[7,9,11,13,14,15,16,17,18,19,20,21,23,24,25,26,27,28,29,30,31,33,34,35,36,37,38,39,41,43,44,45,47,48,49,50,51,52,54,55,56,57,58,59,53],gF:=λa n f=>[λF=>F (a 11)=some (aa l y)],Pz:=[0],d:=150,u:=1500,
 facts:=[true=true,GR WN [] c b j m r k o i,true=true,g.length<1000,([Qc [61],Qc [59],Qc [44]]).all dm=true,([Qc [61],Qc [59],Qc [44]]).any (aU (mk [44]))=true]}
theorem HO {c:P9}:(HN w d r a c g x k h i b j l m n e rw p q o s t u v z B).Runs w:=by intro f y A;kernel_rfl
def HQ (t u v z a:P2):Nat->Tok:=bl u [(0,(a 31)),(1,(a 32)),(2,(a 33)),(3,(a 34)),(4,(a 35)),(5,(a 36))]
def HR (t u v z a:P2):Nat->Tok:=bl v [(0,(a 37)),(1,(a 38)),(2,(a 39)),(3,(a 40)),(4,(a 41)),(5,(a 42))]
def HS (t u v z a:P2):Nat->Tok:=bl z [(11,(a 43)),(13,(a 43)),(15,(a 44))]
def Dp (t u v z a:P2):Nat->Tok:=bl aO [(0,778),(1,(a 44))]
def HT (w:World) (e r b:P1) (k m:Int) (p:Tok) (f:P1) (q:Array P6) (l:P5) (s:Nat) (o:P5) (h:Nat) (rw y:P1) (j:Addr) (i:P1) (x:Tok) (A:Value) (r1:P1) (c:Nat) (t u v z:P2) (B:P8):a7:={
 B:=λa=>B,Hd:=none,O:=oT [] (aC [([],aV o),([],bj j l),([],bB j l),([],fY w k m WN [] e r b ⟨[c],(some [32]),r1,none,k⟩ false)]),k:=12,nn:=1,Pm:=45,H:=aQ 0x1a30a13d5bb0a9cca9c138213ca00ca00ca9411fdc900a30b0166a9ec0ab80ba882a3f0e5e5f0f0c2e4ebec0ab80ba8820aa310d5ba0aa30aa3a310b60db6c5c5b60db6c5c5b60db6c500b6000d840db5d00605b2b46700a30a830a830a00,N:=321,
 cF:=λa=>a9 (a 9),oF:=λa=>[ax (a 1),ay w.2 t (a 3) (a 2) (a 5) WN [] (some [32]) [],a6 k,aj (a 4),ao w.2 u e (ai e r),c5 m (.ref (a 6)),az [.none,.ref (a 7),.int 1 p],aj (a 8),ao w.2 v b (ai b []),a8 w.2 z (a 0) (a 10) f true true [61] (some (rw,y)) q,aa (.ref (a 11)::o) h,aa (.ref j::l) s],
 uF:=λa n g=>[ax (a 1),ay w.2 (fZ t u v z g) (rn false a) (a 2) (a 5) WN [] (some [32]) [],a6 k,aj (a 4),d7 w.2 (HQ t u v z g) e (ai e r1) false,mw false m (a 6),az [.none,.ref (a 7),.int 1 p],aj (a 8),ao w.2 (HR t u v z g) b (ai b []),a8 w.2 (HS t u v z g) (a 0) (a 10) f false true [c] (some ([c],[])) q,aa (.ref (a 11)::o) h,aa (.ref (n 0)::l) s],nF:=λa n g=>[],rF:=λa n g=>.again (a9 (a 9)),idx:=[],Pn:=[2,4,6,8,9,10,11,12,78,14,15,16,18,73,20,21,22,23,24,25,26,28,29,30,31,32,33,34,36,38,39,42,43,44,45,46,47,49,50,51,52,53,54,48,60],Py:=cW j (az [.str (mk i) x,A]),Px:=[17],gF:=λa n g=>[λF=>F (n 0)=some (az [.str (mk i) x,.str (mk []) ((Dp t u v z g) 1)])],Pz:=[0],d:=150,u:=1500,
 facts:=[([Qc [59],Qc [44],Qc []]).all dm=true,([Qc [59],Qc [44],Qc []]).any (aU (mk [c]))=true,true=true,true=true,true=true,true=true,([Qc [59],Qc [44]]).all dm=true,([Qc [59],Qc [44]]).any (aU (mk [c]))=true,true=true,GR WR [] e b (some [32]) none r k ⟨[c],(some [32]),r1,none,k⟩ false]}
theorem HU:(HT w d r a k h i b j l m n e rw o p f q s x c t u v z B).Runs w:=by intro g y A;kernel_rfl
def jG (t u v z a:P2):Nat->Tok:=bl z [(11,(a 44)),(13,(a 45)),(15,(a 45))]
def gL (t u v z a:P2):Nat->Tok:=bl aO [(0,778),(1,(a 45))]
def Bv (w:World) (e r b:P1) (k p:Int) (x:Tok) (h:P1) (y:Array P6) (l:P5) (A:Nat) (s:P5) (i:Nat) (rw D:P1) (q:Addr) (j:P1) (C:Tok) (E:Value) (o:GO) (m:Bool) (r1:P1) (c:Nat) (f:P1) (t u v z:P2) (B:P8):a7:={
 B:=λa=>B,Hd:=none,O:=oT [mk [c]] (aC [([],aV s),([],bj q l),([],bB q l),([],fY w k p WN [] e r b ⟨(c::f),(some [32]),r1,none,k⟩ false),([],cz w k p WN [] (some [32]) none e r1 b o m)]),k:=12,nn:=1,Pm:=46,H:=aQ 0x1a3d00605b2b468b30a14e315150a9cbb9c148214bb00bb00bb9412fdc900a30b0166a9ec0ab80ba882a3f0e5e5f0f0c2e4ebec0ab80ba8820adf11c80a10e3ba0aa30aa3a310b60db6c5c5b60db6c5c5b60db6c500b6000d840db5d00605b2b46700a30a830a830a00,N:=344,
 cF:=λa=>a9 (a 9),oF:=λa=>[ax (a 1),ay w.2 t (a 3) (a 2) (a 5) WN [] (some [32]) [],a6 k,aj (a 4),ao w.2 u e (ai e r),c5 p (.ref (a 6)),az [.none,.ref (a 7),.int 1 x],aj (a 8),ao w.2 v b (ai b []),a8 w.2 z (a 0) (a 10) h true true [61] (some (rw,D)) y,aa (.ref (a 11)::s) i,aa (.ref q::l) A],
 uF:=λa n g=>[ax (a 1),ay w.2 (fZ t u v z g) (rn m a) (a 2) (a 5) WN [] o.st [],cC o.pb o.k ((g7 t u v z g) 2),aj (a 4),d7 w.2 (g8 t u v z g) e (ai e o.r) m,mw m p (a 6),az [.none,.ref (a 7),.int 1 x],aj (a 8),ao w.2 (g9 t u v z g) b (ai b []),a8 w.2 (jG t u v z g) (a 0) (a 10) h false true o.w (some ((c::f),(c::f))) y,aa (.ref (a 11)::s) i,aa (.ref (n 0)::l) A],nF:=λa n g=>[],rF:=λa n g=>.again (a9 (a 9)),idx:=[],Pn:=[87,89,91,93,94,95,96,97,98,99,100,101,103,104,105,106,107,108,109,110,111,113,114,115,116,117,118,119,121,123,124,125,127,128,129,130,131,132,134,135,136,137,138,139,133,48],Py:=cW q (az [.str (mk j) C,E]),Px:=[18],gF:=λa n g=>[λF=>F (n 0)=some (az [.str (mk j) C,.str (mk (c::f)) ((gL t u v z g) 1)])],Pz:=[0],d:=150,u:=1500,
 facts:=[true=true,GR WN [] e b (some [32]) none r1 k o m,([Qc [59],Qc [44],Qc []]).all dm=true,([Qc [59],Qc [44],Qc []]).any (aU (mk (c::f)))=false,true=true,true=true,true=true,true=true,((mk [c]).cps.toList==(mk [34]).cps.toList)=false,aD (mk (c::f)),ak .none,ak (.int (1:Int) 0),Txt.slice (mk (c::f)) none (some (1:Int))=(mk [c]),([Qc [59],Qc [44]]).all dm=true,([Qc [59],Qc [44]]).any (aU (mk (c::f)))=false,true=true,GR WR [] e b (some [32]) none r k ⟨(c::f),(some [32]),r1,none,k⟩ false]}
theorem Dq:(Bv w d r a k h i b j l m n e rw p q f s x o y A c C t u v z B).Runs w:=by intro g D E;kernel_rfl
def Bw (w:World) (e r b:P1) (k p:Int) (y:Tok) (h:P1) (A:Array P6) (l:P5) (C:Nat) (x:P5) (i:Nat) (rw E:P1) (q:Addr) (j:P1) (D:Tok) (G:Value) (o:GO) (m:Bool) (r1:P1) (s c:Nat) (f:P1) (t u v z:P2) (B:P8):a7:={
 B:=λa=>B,Hd:=none,O:=oT [mk [c]] (aC [([],aV x),([],bj q l),([],bB q l),([],fY w k p WN [] e r b ⟨(c::f),(some [32]),r1,(some s),k⟩ false),([],cz w k p WN [] (some [32]) (some s) e r1 b o m)]),k:=12,nn:=1,Pm:=46,H:=aQ 0x1a3d00605b2b468b30a14e315150a9cbb9c148214bb00bb00bb9412fdc900a30b0166a9ec0ab80ba882a3f0e5e5f0f0c2e4ebec0ab80ba8820adf11c80a10e3ba0aa30aa3a310b60db6c5c5b60db6c5c5b60db6c500b6000d840db5d00605b2b46700a30a830a830a00,N:=344,
 cF:=λa=>a9 (a 9),oF:=λa=>[ax (a 1),ay w.2 t (a 3) (a 2) (a 5) WN [] (some [32]) [],a6 k,aj (a 4),ao w.2 u e (ai e r),c5 p (.ref (a 6)),az [.none,.ref (a 7),.int 1 y],aj (a 8),ao w.2 v b (ai b []),a8 w.2 z (a 0) (a 10) h true true [61] (some (rw,E)) A,aa (.ref (a 11)::x) i,aa (.ref q::l) C],
 uF:=λa n g=>[ax (a 1),ay w.2 (fZ t u v z g) (rn m a) (a 2) (a 5) WN [] o.st [],cC o.pb o.k ((g7 t u v z g) 2),aj (a 4),d7 w.2 (g8 t u v z g) e (ai e o.r) m,mw m p (a 6),az [.none,.ref (a 7),.int 1 y],aj (a 8),ao w.2 (g9 t u v z g) b (ai b []),a8 w.2 (jG t u v z g) (a 0) (a 10) h false true o.w (some ((c::f),(c::f))) A,aa (.ref (a 11)::x) i,aa (.ref (n 0)::l) C],nF:=λa n g=>[],rF:=λa n g=>.again (a9 (a 9)),idx:=[],Pn:=[87,89,91,93,94,95,96,97,98,99,100,101,103,104,105,106,107,108,109,110,111,113,114,115,116,117,118,119,121,123,124,125,127,128,129,130,131,132,134,135,136,137,138,139,133,48],Py:=cW q (az [.str (mk j) D,G]),Px:=[18],gF:=λa n g=>[λF=>F (n 0)=some (az [.str (mk j) D,.str (mk (c::f)) ((gL t u v z g) 1)])],Pz:=[0],d:=150,u:=1500,
 facts:=[true=true,GR WN [] e b (some [32]) (some s) r1 k o m,([Qc [59],Qc [44],Qc []]).all dm=true,([Qc [59],Qc [44],Qc []]).any (aU (mk (c::f)))=false,true=true,true=true,true=true,true=true,((mk [c]).cps.toList==(mk [34]).cps.toList)=false,aD (mk (c::f)),ak .none,ak (.int (1:Int) 0),Txt.slice (mk (c::f)) none (some (1:Int))=(mk [c]),([Qc [59],Qc [44]]).all dm=true,([Qc [59],Qc [44]]).any (aU (mk (c::f)))=false,true=true,GR WR [] e b (some [32]) none r k ⟨(c::f),(some [32]),r1,(some s),k⟩ false]}
theorem Dr:(Bw w d r a k h i b j l m n e rw p q f s x o y A C c D t u v z B).Runs w:=by intro g E G;kernel_rfl
def Bx (w:World) (e r b:P1) (k p:Int) (x:Tok) (h:P1) (y:Array P6) (l:P5) (A:Nat) (s:P5) (i:Nat) (rw D:P1) (q:Addr) (j:P1) (C:Tok) (E:Value) (o:GO) (m:Bool) (r1:P1) (c:Nat) (f:P1) (t u v z:P2) (B:P8):a7:={
 B:=λa=>B,Hd:=none,O:=oT [mk [c]] (aC [([],aV s),([],bj q l),([],bB q l),([],fY w k p WN [] e r b ⟨(c::f),none,r1,none,k⟩ false),([],cz w k p WN [] none none e r1 b o m)]),k:=12,nn:=1,Pm:=46,H:=aQ 0x1a3d00605b2b468b30a14e315150a9cbb9c148214bb00bb00bb9412fdc900a30b0166a9ec0ab80ba882a3f0e5e5f0f0c2e4ebec0ab80ba8820adf11c80a10e3ba0aa30aa3a310b60db6c5c5b60db6c5c5b60db6c500b6000d840db5d00605b2b46700a30a830a830a00,N:=344,
 cF:=λa=>a9 (a 9),oF:=λa=>[ax (a 1),ay w.2 t (a 3) (a 2) (a 5) WN [] (some [32]) [],a6 k,aj (a 4),ao w.2 u e (ai e r),c5 p (.ref (a 6)),az [.none,.ref (a 7),.int 1 x],aj (a 8),ao w.2 v b (ai b []),a8 w.2 z (a 0) (a 10) h true true [61] (some (rw,D)) y,aa (.ref (a 11)::s) i,aa (.ref q::l) A],
 uF:=λa n g=>[ax (a 1),ay w.2 (fZ t u v z g) (rn m a) (a 2) (a 5) WN [] o.st [],cC o.pb o.k ((g7 t u v z g) 2),aj (a 4),d7 w.2 (g8 t u v z g) e (ai e o.r) m,mw m p (a 6),az [.none,.ref (a 7),.int 1 x],aj (a 8),ao w.2 (g9 t u v z g) b (ai b []),a8 w.2 (jG t u v z g) (a 0) (a 10) h false true o.w (some ((c::f),(c::f))) y,aa (.ref (a 11)::s) i,aa (.ref (n 0)::l) A],nF:=λa n g=>[],rF:=λa n g=>.again (a9 (a 9)),idx:=[],Pn:=[87,89,91,93,94,95,96,97,98,99,100,101,103,104,105,106,107,108,109,110,111,113,114,115,116,117,118,119,121,123,124,125,127,128,129,130,131,132,134,135,136,137,138,139,133,48],Py:=cW q (az [.str (mk j) C,E]),Px:=[18],gF:=λa n g=>[λF=>F (n 0)=some (az [.str (mk j) C,.str (mk (c::f)) ((gL t u v z g) 1)])],Pz:=[0],d:=150,u:=1500,
 facts:=[true=true,GR WN [] e b none none r1 k o m,([Qc [59],Qc [44],Qc []]).all dm=true,([Qc [59],Qc [44],Qc []]).any (aU (mk (c::f)))=false,true=true,true=true,true=true,true=true,((mk [c]).cps.toList==(mk [34]).cps.toList)=false,aD (mk (c::f)),ak .none,ak (.int (1:Int) 0),Txt.slice (mk (c::f)) none (some (1:Int))=(mk [c]),([Qc [59],Qc [44]]).all dm=true,([Qc [59],Qc [44]]).any (aU (mk (c::f)))=false,true=true,GR WR [] e b (some [32]) none r k ⟨(c::f),none,r1,none,k⟩ false]}
theorem Ds:(Bx w d r a k h i b j l m n e rw p q f s x o y A c C t u v z B).Runs w:=by intro g D E;kernel_rfl
def By (w:World) (c r b:P1) (k m:Int) (s:Tok) (g:P1) (x:Array P6) (l:P5) (y:Nat) (q:P5) (h:Nat) (rw C:P1) (p:Addr) (i:P1) (A:Tok) (D:Value) (o:GO) (j:Bool) (r1 e:P1) (t u v z:P2) (B:P8):a7:={
 B:=λa=>B,Hd:=none,O:=oT [mk [34]] (aC [([],aV q),([],bj p l),([],bB p l),([],fY w k m WN [] c r b ⟨(34::e),(some [32]),r1,none,k⟩ false),([],cz w k m WN [] (some [32]) none c r1 b o j)]),k:=12,nn:=1,Pm:=46,H:=aQ 0x1a3d00605b2b468b30a14e315150a9cbb9c148214bb00bb00bb9412fdc900a30b0166a9ec0ab80ba882a3f0e5e5f0f0c2e4ebec0ab80ba882968311c80a10e3ba0aa30aa3a310b60db6c5c5b60db6c5c5b60db6c500b6000d840db5d00605b2b46700a30a830a830a00,N:=349,
 cF:=λa=>a9 (a 9),oF:=λa=>[ax (a 1),ay w.2 t (a 3) (a 2) (a 5) WN [] (some [32]) [],a6 k,aj (a 4),ao w.2 u c (ai c r),c5 m (.ref (a 6)),az [.none,.ref (a 7),.int 1 s],aj (a 8),ao w.2 v b (ai b []),a8 w.2 z (a 0) (a 10) g true true [61] (some (rw,C)) x,aa (.ref (a 11)::q) h,aa (.ref p::l) y],
 uF:=λa n f=>[ax (a 1),ay w.2 (fZ t u v z f) (rn j a) (a 2) (a 5) WN [] o.st [],cC o.pb o.k ((g7 t u v z f) 2),aj (a 4),d7 w.2 (g8 t u v z f) c (ai c o.r) j,mw j m (a 6),az [.none,.ref (a 7),.int 1 s],aj (a 8),ao w.2 (g9 t u v z f) b (ai b []),a8 w.2 (jG t u v z f) (a 0) (a 10) g false true o.w (some ((34::e),(34::e))) x,aa (.ref (a 11)::q) h,aa (.ref (n 0)::l) y],nF:=λa n f=>[],rF:=λa n f=>.again (a9 (a 9)),idx:=[],Pn:=[87,89,91,93,94,95,96,97,98,99,100,101,103,104,105,106,107,108,109,110,111,113,114,115,116,117,118,119,121,123,124,125,127,128,129,130,131,132,134,135,136,137,138,139,133,48],Py:=cW p (az [.str (mk i) A,D]),Px:=[18],gF:=λa n f=>[λF=>F (n 0)=some (az [.str (mk i) A,.str (mk (34::e)) ((gL t u v z f) 1)])],Pz:=[0],d:=150,u:=1500,
 facts:=[true=true,GR WN [] c b (some [32]) none r1 k o j,([Qc [59],Qc [44],Qc []]).all dm=true,([Qc [59],Qc [44],Qc []]).any (aU (mk (34::e)))=false,true=true,true=true,true=true,true=true,aD (mk (34::e)),ak .none,ak (.int (1:Int) 0),Txt.slice (mk (34::e)) none (some (1:Int))=(mk [34]),([Qc [59],Qc [44]]).all dm=true,([Qc [59],Qc [44]]).any (aU (mk (34::e)))=false,true=true,GR WR [] c b (some [32]) none r k ⟨(34::e),(some [32]),r1,none,k⟩ false]}
theorem Dt:(By w c r a k g h b i l j m d rw n p e q s o x y A t u v z B).Runs w:=by intro f C D;kernel_rfl
def Bz (w:World) (c r b:P1) (k m:Int) (x:Tok) (g:P1) (y:Array P6) (l:P5) (A:Nat) (s:P5) (h:Nat) (rw D:P1) (p:Addr) (i:P1) (C:Tok) (E:Value) (o:GO) (j:Bool) (r1:P1) (q:Nat) (e:P1) (t u v z:P2) (B:P8):a7:={
 B:=λa=>B,Hd:=none,O:=oT [mk [34]] (aC [([],aV s),([],bj p l),([],bB p l),([],fY w k m WN [] c r b ⟨(34::e),(some [32]),r1,(some q),k⟩ false),([],cz w k m WN [] (some [32]) (some q) c r1 b o j)]),k:=12,nn:=1,Pm:=46,H:=aQ 0x1a3d00605b2b468b30a14e315150a9cbb9c148214bb00bb00bb9412fdc900a30b0166a9ec0ab80ba882a3f0e5e5f0f0c2e4ebec0ab80ba882968311c80a10e3ba0aa30aa3a310b60db6c5c5b60db6c5c5b60db6c500b6000d840db5d00605b2b46700a30a830a830a00,N:=349,
 cF:=λa=>a9 (a 9),oF:=λa=>[ax (a 1),ay w.2 t (a 3) (a 2) (a 5) WN [] (some [32]) [],a6 k,aj (a 4),ao w.2 u c (ai c r),c5 m (.ref (a 6)),az [.none,.ref (a 7),.int 1 x],aj (a 8),ao w.2 v b (ai b []),a8 w.2 z (a 0) (a 10) g true true [61] (some (rw,D)) y,aa (.ref (a 11)::s) h,aa (.ref p::l) A],
 uF:=λa n f=>[ax (a 1),ay w.2 (fZ t u v z f) (rn j a) (a 2) (a 5) WN [] o.st [],cC o.pb o.k ((g7 t u v z f) 2),aj (a 4),d7 w.2 (g8 t u v z f) c (ai c o.r) j,mw j m (a 6),az [.none,.ref (a 7),.int 1 x],aj (a 8),ao w.2 (g9 t u v z f) b (ai b []),a8 w.2 (jG t u v z f) (a 0) (a 10) g false true o.w (some ((34::e),(34::e))) y,aa (.ref (a 11)::s) h,aa (.ref (n 0)::l) A],nF:=λa n f=>[],rF:=λa n f=>.again (a9 (a 9)),idx:=[],Pn:=[87,89,91,93,94,95,96,97,98,99,100,101,103,104,105,106,107,108,109,110,111,113,114,115,116,117,118,119,121,123,124,125,127,128,129,130,131,132,134,135,136,137,138,139,133,48],Py:=cW p (az [.str (mk i) C,E]),Px:=[18],gF:=λa n f=>[λF=>F (n 0)=some (az [.str (mk i) C,.str (mk (34::e)) ((gL t u v z f) 1)])],Pz:=[0],d:=150,u:=1500,
 facts:=[true=true,GR WN [] c b (some [32]) (some q) r1 k o j,([Qc [59],Qc [44],Qc []]).all dm=true,([Qc [59],Qc [44],Qc []]).any (aU (mk (34::e)))=false,true=true,true=true,true=true,true=true,aD (mk (34::e)),ak .none,ak (.int (1:Int) 0),Txt.slice (mk (34::e)) none (some (1:Int))=(mk [34]),([Qc [59],Qc [44]]).all dm=true,([Qc [59],Qc [44]]).any (aU (mk (34::e)))=false,true=true,GR WR [] c b (some [32]) none r k ⟨(34::e),(some [32]),r1,(some q),k⟩ false]}
theorem Du:(Bz w c r a k g h b i l j m d rw n p e q s o x y A C t u v z B).Runs w:=by intro f D E;kernel_rfl
def BA (w:World) (c r b:P1) (k m:Int) (s:Tok) (g:P1) (x:Array P6) (l:P5) (y:Nat) (q:P5) (h:Nat) (rw C:P1) (p:Addr) (i:P1) (A:Tok) (D:Value) (o:GO) (j:Bool) (r1 e:P1) (t u v z:P2) (B:P8):a7:={
 B:=λa=>B,Hd:=none,O:=oT [mk [34]] (aC [([],aV q),([],bj p l),([],bB p l),([],fY w k m WN [] c r b ⟨(34::e),none,r1,none,k⟩ false),([],cz w k m WN [] none none c r1 b o j)]),k:=12,nn:=1,Pm:=46,H:=aQ 0x1a3d00605b2b468b30a14e315150a9cbb9c148214bb00bb00bb9412fdc900a30b0166a9ec0ab80ba882a3f0e5e5f0f0c2e4ebec0ab80ba882968311c80a10e3ba0aa30aa3a310b60db6c5c5b60db6c5c5b60db6c500b6000d840db5d00605b2b46700a30a830a830a00,N:=349,
 cF:=λa=>a9 (a 9),oF:=λa=>[ax (a 1),ay w.2 t (a 3) (a 2) (a 5) WN [] (some [32]) [],a6 k,aj (a 4),ao w.2 u c (ai c r),c5 m (.ref (a 6)),az [.none,.ref (a 7),.int 1 s],aj (a 8),ao w.2 v b (ai b []),a8 w.2 z (a 0) (a 10) g true true [61] (some (rw,C)) x,aa (.ref (a 11)::q) h,aa (.ref p::l) y],
 uF:=λa n f=>[ax (a 1),ay w.2 (fZ t u v z f) (rn j a) (a 2) (a 5) WN [] o.st [],cC o.pb o.k ((g7 t u v z f) 2),aj (a 4),d7 w.2 (g8 t u v z f) c (ai c o.r) j,mw j m (a 6),az [.none,.ref (a 7),.int 1 s],aj (a 8),ao w.2 (g9 t u v z f) b (ai b []),a8 w.2 (jG t u v z f) (a 0) (a 10) g false true o.w (some ((34::e),(34::e))) x,aa (.ref (a 11)::q) h,aa (.ref (n 0)::l) y],nF:=λa n f=>[],rF:=λa n f=>.again (a9 (a 9)),idx:=[],Pn:=[87,89,91,93,94,95,96,97,98,99,100,101,103,104,105,106,107,108,109,110,111,113,114,115,116,117,118,119,121,123,124,125,127,128,129,130,131,132,134,135,136,137,138,139,133,48],Py:=cW p (az [.str (mk i) A,D]),Px:=[18],gF:=λa n f=>[λF=>F (n 0)=some (az [.str (mk i) A,.str (mk (34::e)) ((gL t u v z f) 1)])],Pz:=[0],d:=150,u:=1500,
 facts:=[true=true,GR WN [] c b none none r1 k o j,([Qc [59],Qc [44],Qc []]).all dm=true,([Qc [59],Qc [44],Qc []]).any (aU (mk (34::e)))=false,true=true,true=true,true=true,true=true,aD (mk (34::e)),ak .none,ak (.int (1:Int) 0),Txt.slice (mk (34::e)) none (some (1:Int))=(mk [34]),([Qc [59],Qc [44]]).all dm=true,([Qc [59],Qc [44]]).any (aU (mk (34::e)))=false,true=true,GR WR [] c b (some [32]) none r k ⟨(34::e),none,r1,none,k⟩ false]}
theorem Dv:(BA w c r a k g h b i l j m d rw n p e q s o x y A t u v z B).Runs w:=by intro f C D;kernel_rfl
def HV (t u v z a:P2):Nat->Tok:=bl t [(0,(a 0)),(2,(a 1)),(4,(a 2)),(6,(a 3)),(7,(a 4)),(8,(a 5)),(9,(a 6)),(10,(a 7)),(11,(a 8)),(12,(a 9)),(13,(a 10)),(14,(a 11)),(16,(a 12)),(17,(a 13)),(18,(a 14)),(19,(a 15)),(20,(a 16)),(21,(a 17)),(22,(a 18)),(24,(a 19)),(26,(a 20)),(27,(a 21)),(28,(a 22)),(29,(a 23)),(30,(a 24)),(31,(a 25)),(32,(a 26)),(34,(a 27)),(36,(a 28)),(37,(a 29))]
def HW (t u v z a:P2):Nat->Tok:=bl u [(0,(a 30)),(1,(a 31)),(2,(a 32)),(4,(a 33)),(5,(a 34))]
def HX (t u v z a:P2):Nat->Tok:=bl v [(0,(a 35)),(1,(a 36)),(2,(a 37)),(3,(a 38)),(4,(a 39)),(5,(a 40))]
def HY (t u v z a:P2):Nat->Tok:=bl z [(11,(a 41)),(13,(a 41)),(15,(a 41))]
def Dw (t u v z a:P2):Nat->Tok:=bl aO [(0,778),(1,(a 41))]
def HZ (w:World) (c r b:P1) (k j:Int) (o:Tok) (e:P1) (p:Array P6) (l:P5) (q:Nat) (m:P5) (g:Nat) (rw x:P1) (i:Addr) (h:P1) (s:Tok) (y:Value) (t u v z:P2) (B:P8):a7:={
 B:=λa=>B,Hd:=none,O:=oT [mk []] (aC [([],aV m),([],bj i l),([],bB i l),([],fY w k j WN [] c r b ⟨[],none,[],none,k⟩ true)]),k:=12,nn:=1,Pm:=42,H:=aQ 0x1a30a14d515150a9cbb9c148214bb00bb00bb9412fdc900a30b0166a9ec0ab80ba882a3f0e5e5f0f0c2e4ebec0ab80ba8820a83b9b9820a10e3ba0aa30aa3a310b60db6c5c5b60db6c5c5b60db6c500b6000d840db5d00605b2b46700a30a830a830a00,N:=332,
 cF:=λa=>a9 (a 9),oF:=λa=>[ax (a 1),ay w.2 t (a 3) (a 2) (a 5) WN [] (some [32]) [],a6 k,aj (a 4),ao w.2 u c (ai c r),c5 j (.ref (a 6)),az [.none,.ref (a 7),.int 1 o],aj (a 8),ao w.2 v b (ai b []),a8 w.2 z (a 0) (a 10) e true true [61] (some (rw,x)) p,aa (.ref (a 11)::m) g,aa (.ref i::l) q],
 uF:=λa n f=>[ax (a 1),ay w.2 (HV t u v z f) (rn true a) (a 2) (a 5) WN [] none [],a6 k,aj (a 4),d7 w.2 (HW t u v z f) c (ai c []) true,mw true j (a 6),az [.none,.ref (a 7),.int 1 o],aj (a 8),ao w.2 (HX t u v z f) b (ai b []),a8 w.2 (HY t u v z f) (a 0) (a 10) e false true [] (some ([],[])) p,aa (.ref (a 11)::m) g,aa (.ref (n 0)::l) q],nF:=λa n f=>[],rF:=λa n f=>.again (a9 (a 9)),idx:=[],Pn:=[2,4,6,8,9,10,11,12,78,14,15,16,18,73,20,21,22,23,24,26,28,29,30,31,32,33,34,36,38,39,42,43,44,46,47,49,50,51,52,53,54,48],Py:=cW i (az [.str (mk h) s,y]),Px:=[18],gF:=λa n f=>[λF=>F (n 0)=some (az [.str (mk h) s,.str (mk []) ((Dw t u v z f) 1)])],Pz:=[0],d:=150,u:=1500,
 facts:=[([Qc [59],Qc [44],Qc []]).all dm=true,([Qc [59],Qc [44],Qc []]).any (aU (mk []))=true,true=true,true=true,true=true,true=true,([Qc [59],Qc [44]]).all dm=true,([Qc [59],Qc [44]]).any (aU (mk []))=false,true=true,GR WR [] c b (some [32]) none r k ⟨[],none,[],none,k⟩ true]}
theorem H0:(HZ w c r a k g h b i l j m d rw n o e p q t u v z B).Runs w:=by intro f s x;kernel_rfl
def zz (t u v a:P2):Nat->Tok:=bl aO [(0,(a 42)),(1,(a 43)),(2,(a 44)),(3,(a 45)),(4,(a 46)),(5,(a 47))]
def zA (t u v a:P2):Nat->Tok:=bl aO [(2,(a 48))]
def BB (w:World) (c r b:P1) (y:Value) (k q:Int) (g:P1) (l:P5) (z:Nat) (x:P5) (h:Nat) (s:Addr) (i:P1) (A:Tok) (I:Value) (f r1 nx1:P1) (j:Bool) (o:GO) (m:Bool) (C:Array DictEntry) (D:Nat) (E:Option (List Nat×P1)) (G:Array DictEntry) (p:Nat) (t u v:P2):a7:={
 B:=λa=>[kr (a 6),bO y (a 9),eT (a 9),d5 (a 10),d6],Hd:=none,O:=oT [mk [34]] (aC [([],aV x),([],bj s l),([],bB s l),([],lz w k q WN [] c r b y f (some [32]) r1 none nx1 j),([],cz w k q WN [] (some [32]) none b r1 c o m)]),k:=11,nn:=4,Pm:=49,H:=aQ 0x1a69f0e050d0c8db468b30716e31717079c16169c16821616160016160016169414fd000700a6080166a182d0b808b082a6f0e5e5f0f0c1e409a182d0b808b082938313c80712e3cae1e1a612ab0cabc4c4ab0cabc4c4ab0cabc400ab000c84eb0a090605b2b46700a6d4d40700,N:=349,
 cF:=λa=>a9 (a 6),oF:=λa=>[ax (a 1),ay w.2 t (a 3) (a 2) (a 5) WN [] (some [32]) [],a6 k,aj (a 4),ao w.2 u c (ai c r),a6 q,a8 w.2 v (a 0) (a 7) g true false [61] E #[],aa (.ref (a 8)::x) h,aa (.ref s::l) z,aS C D #[],aS G p #[]],
 uF:=λa n e=>[ax (a 1),ay w.2 (dj t u v e) (match m with|true=>a 3|false=>n 0) (a 2) (a 5) WN [] o.st [],cC o.pb o.k ((gR t u v e) 2),aj (a 4),ao w.2 (gS t u v e) c (ai c []),mw m q (n 2),a8 w.2 (fw E t u v e) (a 0) (a 7) g false true o.w (some ((34::f),(34::f))) (dI 823 824 (.ref (a 9))),aa (.ref (a 8)::x) h,aa (.ref (n 3)::l) z,aS C D (dI 842 843 (.ref (a 10))),aS G p nP],nF:=λa n e=>[aj (n 1),d7 w.2 (zz t u v e) b (ai b o.r) m,az [.none,.ref (a 3),.int 1 ((zA t u v e) 2)]],rF:=λa n e=>.again (a9 (a 6)),idx:=[12,13,14],Pn:=[88,90,92,94,95,96,97,98,99,100,101,102,104,105,106,107,108,109,110,111,112,114,115,116,117,118,119,120,122,124,125,126,135,136,137,138,139,140,134,56,48,58,128,129,130,131,132,133,55],Py:=cW s (az [.str (mk i) A,I]),Px:=[20],gF:=λa n e=>[λF=>F (n 3)=some (az [.str (mk i) A,.str (mk (34::f)) ((eJ t u v e) 1)])],Pz:=[0],d:=150,u:=1500,
 facts:=[true=true,GR WN [] b c (some [32]) none r1 k o m,([Qc [59],Qc [44],Qc []]).all dm=true,([Qc [59],Qc [44],Qc []]).any (aU (mk (34::f)))=false,true=true,true=true,true=true,true=true,aD (mk (34::f)),ak .none,ak (.int (1:Int) 0),Txt.slice (mk (34::f)) none (some (1:Int))=(mk [34]),([Qc [59],Qc [44]]).all dm=true,([Qc [59],Qc [44]]).any (aU (mk (34::f)))=false,true=true,VX c r b/\aF WR [] b (some [32]) [] b ⟨34::f,(some [32]),r1,none,nx1,j⟩]}
theorem Dx:(BB w c r a m k n b l p q d s e x y z A f g o B C D h E i t u v).Runs w:=by intro j G H;cases h<;>kernel_rfl
def zC (t u v a:P2):Nat->Tok:=bl aO [(0,(a 42)),(1,(a 43)),(2,(a 44)),(3,(a 45)),(4,(a 46)),(5,(a 47))]
def zD (t u v a:P2):Nat->Tok:=bl aO [(2,(a 48))]
def BC (w:World) (c r b:P1) (z:Value) (k q:Int) (g:P1) (l:P5) (A:Nat) (y:P5) (h:Nat) (s:Addr) (i:P1) (C:Tok) (J:Value) (f r1 nx1:P1) (j:Bool) (o:GO) (m:Bool) (D:Array DictEntry) (E x:Nat) (G:Option (List Nat×P1)) (I:Array DictEntry) (p:Nat) (t u v:P2):a7:={
 B:=λa=>[kr (a 6),bO z (a 9),eT (a 9),d5 (a 10),d6],Hd:=none,O:=oT [mk [34]] (aC [([],aV y),([],bj s l),([],bB s l),([],lz w k q WN [] c r b z f (some [32]) r1 (some x) nx1 j),([],cz w k q WN [] (some [32]) (some x) b r1 c o m)]),k:=11,nn:=4,Pm:=49,H:=aQ 0x1a69f0e050d0c8db468b30716e31717079c16169c16821616160016160016169414fd000700a6080166a182d0b808b082a6f0e5e5f0f0c1e409a182d0b808b082938313c80712e3cae1e1a612ab0cabc4c4ab0cabc4c4ab0cabc400ab000c84eb0a090605b2b46700a6d4d40700,N:=349,
 cF:=λa=>a9 (a 6),oF:=λa=>[ax (a 1),ay w.2 t (a 3) (a 2) (a 5) WN [] (some [32]) [],a6 k,aj (a 4),ao w.2 u c (ai c r),a6 q,a8 w.2 v (a 0) (a 7) g true false [61] G #[],aa (.ref (a 8)::y) h,aa (.ref s::l) A,aS D E #[],aS I p #[]],
 uF:=λa n e=>[ax (a 1),ay w.2 (dj t u v e) (match m with|true=>a 3|false=>n 0) (a 2) (a 5) WN [] o.st [],cC o.pb o.k ((gR t u v e) 2),aj (a 4),ao w.2 (gS t u v e) c (ai c []),mw m q (n 2),a8 w.2 (fw G t u v e) (a 0) (a 7) g false true o.w (some ((34::f),(34::f))) (dI 823 824 (.ref (a 9))),aa (.ref (a 8)::y) h,aa (.ref (n 3)::l) A,aS D E (dI 842 843 (.ref (a 10))),aS I p nP],nF:=λa n e=>[aj (n 1),d7 w.2 (zC t u v e) b (ai b o.r) m,az [.none,.ref (a 3),.int 1 ((zD t u v e) 2)]],rF:=λa n e=>.again (a9 (a 6)),idx:=[12,13,14],Pn:=[88,90,92,94,95,96,97,98,99,100,101,102,104,105,106,107,108,109,110,111,112,114,115,116,117,118,119,120,122,124,125,126,135,136,137,138,139,140,134,56,48,58,128,129,130,131,132,133,55],Py:=cW s (az [.str (mk i) C,J]),Px:=[20],gF:=λa n e=>[λF=>F (n 3)=some (az [.str (mk i) C,.str (mk (34::f)) ((eJ t u v e) 1)])],Pz:=[0],d:=150,u:=1500,
 facts:=[true=true,GR WN [] b c (some [32]) (some x) r1 k o m,([Qc [59],Qc [44],Qc []]).all dm=true,([Qc [59],Qc [44],Qc []]).any (aU (mk (34::f)))=false,true=true,true=true,true=true,true=true,aD (mk (34::f)),ak .none,ak (.int (1:Int) 0),Txt.slice (mk (34::f)) none (some (1:Int))=(mk [34]),([Qc [59],Qc [44]]).all dm=true,([Qc [59],Qc [44]]).any (aU (mk (34::f)))=false,true=true,VX c r b/\aF WR [] b (some [32]) [] b ⟨34::f,(some [32]),r1,(some x),nx1,j⟩]}
theorem Dy:(BC w c r a m k n b l p q d s e x y z A f g o B C D E h G i t u v).Runs w:=by intro j H I;cases h<;>kernel_rfl
def zE (t u v a:P2):Nat->Tok:=bl aO [(0,(a 42)),(1,(a 43)),(2,(a 44)),(3,(a 45)),(4,(a 46)),(5,(a 47))]
def zF (t u v a:P2):Nat->Tok:=bl aO [(2,(a 48))]
def BD (w:World) (c r b:P1) (y:Value) (k q:Int) (g:P1) (l:P5) (z:Nat) (x:P5) (h:Nat) (s:Addr) (i:P1) (A:Tok) (I:Value) (f r1 nx1:P1) (j:Bool) (o:GO) (m:Bool) (C:Array DictEntry) (D:Nat) (E:Option (List Nat×P1)) (G:Array DictEntry) (p:Nat) (t u v:P2):a7:={
 B:=λa=>[kr (a 6),bO y (a 9),eT (a 9),d5 (a 10),d6],Hd:=none,O:=oT [mk [34]] (aC [([],aV x),([],bj s l),([],bB s l),([],lz w k q WN [] c r b y f none r1 none nx1 j),([],cz w k q WN [] none none b r1 c o m)]),k:=11,nn:=4,Pm:=49,H:=aQ 0x1a69f0e050d0c8db468b30716e31717079c16169c16821616160016160016169414fd000700a6080166a182d0b808b082a6f0e5e5f0f0c1e409a182d0b808b082938313c80712e3cae1e1a612ab0cabc4c4ab0cabc4c4ab0cabc400ab000c84eb0a090605b2b46700a6d4d40700,N:=349,
 cF:=λa=>a9 (a 6),oF:=λa=>[ax (a 1),ay w.2 t (a 3) (a 2) (a 5) WN [] (some [32]) [],a6 k,aj (a 4),ao w.2 u c (ai c r),a6 q,a8 w.2 v (a 0) (a 7) g true false [61] E #[],aa (.ref (a 8)::x) h,aa (.ref s::l) z,aS C D #[],aS G p #[]],
 uF:=λa n e=>[ax (a 1),ay w.2 (dj t u v e) (match m with|true=>a 3|false=>n 0) (a 2) (a 5) WN [] o.st [],cC o.pb o.k ((gR t u v e) 2),aj (a 4),ao w.2 (gS t u v e) c (ai c []),mw m q (n 2),a8 w.2 (fw E t u v e) (a 0) (a 7) g false true o.w (some ((34::f),(34::f))) (dI 823 824 (.ref (a 9))),aa (.ref (a 8)::x) h,aa (.ref (n 3)::l) z,aS C D (dI 842 843 (.ref (a 10))),aS G p nP],nF:=λa n e=>[aj (n 1),d7 w.2 (zE t u v e) b (ai b o.r) m,az [.none,.ref (a 3),.int 1 ((zF t u v e) 2)]],rF:=λa n e=>.again (a9 (a 6)),idx:=[12,13,14],Pn:=[88,90,92,94,95,96,97,98,99,100,101,102,104,105,106,107,108,109,110,111,112,114,115,116,117,118,119,120,122,124,125,126,135,136,137,138,139,140,134,56,48,58,128,129,130,131,132,133,55],Py:=cW s (az [.str (mk i) A,I]),Px:=[20],gF:=λa n e=>[λF=>F (n 3)=some (az [.str (mk i) A,.str (mk (34::f)) ((eJ t u v e) 1)])],Pz:=[0],d:=150,u:=1500,
 facts:=[true=true,GR WN [] b c none none r1 k o m,([Qc [59],Qc [44],Qc []]).all dm=true,([Qc [59],Qc [44],Qc []]).any (aU (mk (34::f)))=false,true=true,true=true,true=true,true=true,aD (mk (34::f)),ak .none,ak (.int (1:Int) 0),Txt.slice (mk (34::f)) none (some (1:Int))=(mk [34]),([Qc [59],Qc [44]]).all dm=true,([Qc [59],Qc [44]]).any (aU (mk (34::f)))=false,true=true,VX c r b/\aF WR [] b (some [32]) [] b ⟨34::f,none,r1,none,nx1,j⟩]}
theorem Dz:(BD w c r a m k n b l p q d s e x y z A f g o B C D h E i t u v).Runs w:=by intro j G H;cases h<;>kernel_rfl
def zG (t u v a:P2):Nat->Tok:=bl aO [(0,(a 42)),(1,(a 43)),(2,(a 44)),(3,(a 45)),(4,(a 46)),(5,(a 47))]
def zH (t u v a:P2):Nat->Tok:=bl aO [(2,(a 48))]
def BE (w:World) (c r b:P1) (y:Value) (k p:Int) (g:P1) (l:P5) (z:Nat) (s:P5) (h:Nat) (q:Addr) (i:P1) (A:Tok) (G:Value) (f r1 nx1:P1) (j:Bool) (o:GO) (m:Bool) (C:Array DictEntry) (D:Nat) (E:Option (List Nat×P1)) (x:Addr) (t u v:P2):a7:={
 B:=λa=>[kr (a 6),bO y (a 9),eT (a 9),d5 x,d6],Hd:=none,O:=oT [mk [34]] (aC [([],aV s),([],bj q l),([],bB q l),([],lA w k p WN [] c r b y f (some [32]) r1 none nx1 j),([],cz w k p WN [] (some [32]) none b r1 c o m)]),k:=10,nn:=4,Pm:=49,H:=aQ 0x1a69f0d050c0b8db468b30715e31616079c15159c15821515150015150015159413fd000700a6080166a182d0b808b082a6f0e5e5f0f0c1e409a182d0b808b082938312c80711e3b9e1e1a611ac0bacc3c3ac0bacc3c3ac0bacc300acc2840ba8090605b2c16700a6d4d40700,N:=349,
 cF:=λa=>a9 (a 6),oF:=λa=>[ax (a 1),ay w.2 t (a 3) (a 2) (a 5) WN [] (some [32]) [],a6 k,aj (a 4),ao w.2 u c (ai c r),a6 p,a8 w.2 v (a 0) (a 7) g true false [61] E #[],aa (.ref (a 8)::s) h,aa (.ref q::l) z,aS C D (dI 842 843 (.ref x))],
 uF:=λa n e=>[ax (a 1),ay w.2 (dj t u v e) (match m with|true=>a 3|false=>n 0) (a 2) (a 5) WN [] o.st [],cC o.pb o.k ((gR t u v e) 2),aj (a 4),ao w.2 (gS t u v e) c (ai c []),mw m p (n 2),a8 w.2 (fw E t u v e) (a 0) (a 7) g false true o.w (some ((34::f),(34::f))) (dI 823 824 (.ref (a 9))),aa (.ref (a 8)::s) h,aa (.ref (n 3)::l) z,aS C D (dI 842 843 (.ref x))],nF:=λa n e=>[aj (n 1),d7 w.2 (zG t u v e) b (ai b o.r) m,az [.none,.ref (a 3),.int 1 ((zH t u v e) 2)]],rF:=λa n e=>.again (a9 (a 6)),idx:=[11,12,13],Pn:=[88,90,92,94,95,96,97,98,99,100,101,102,104,105,106,107,108,109,110,111,112,114,115,116,117,118,119,120,122,124,125,126,135,136,137,138,139,140,134,56,48,58,128,129,130,131,132,133,55],Py:=cW q (az [.str (mk i) A,G]),Px:=[19],gF:=λa n e=>[λF=>F (n 3)=some (az [.str (mk i) A,.str (mk (34::f)) ((eJ t u v e) 1)])],Pz:=[0],d:=150,u:=1500,
 facts:=[true=true,GR WN [] b c (some [32]) none r1 k o m,([Qc [59],Qc [44],Qc []]).all dm=true,([Qc [59],Qc [44],Qc []]).any (aU (mk (34::f)))=false,true=true,true=true,true=true,true=true,aD (mk (34::f)),ak .none,ak (.int (1:Int) 0),Txt.slice (mk (34::f)) none (some (1:Int))=(mk [34]),([Qc [59],Qc [44]]).all dm=true,([Qc [59],Qc [44]]).any (aU (mk (34::f)))=false,true=true,VX c r b/\aF WR [] b (some [32]) [] b ⟨34::f,(some [32]),r1,none,nx1,j⟩]}
theorem DA:(BE w c r a j k m b l n p d q e s x y z f g o A B C h D t u v).Runs w:=by intro i E G;cases h<;>kernel_rfl
def zI (t u v a:P2):Nat->Tok:=bl aO [(0,(a 42)),(1,(a 43)),(2,(a 44)),(3,(a 45)),(4,(a 46)),(5,(a 47))]
def zJ (t u v a:P2):Nat->Tok:=bl aO [(2,(a 48))]
def BG (w:World) (c r b:P1) (z:Value) (k p:Int) (g:P1) (l:P5) (A:Nat) (x:P5) (h:Nat) (q:Addr) (i:P1) (C:Tok) (I:Value) (f r1 nx1:P1) (j:Bool) (o:GO) (m:Bool) (D:Array DictEntry) (E s:Nat) (G:Option (List Nat×P1)) (y:Addr) (t u v:P2):a7:={
 B:=λa=>[kr (a 6),bO z (a 9),eT (a 9),d5 y,d6],Hd:=none,O:=oT [mk [34]] (aC [([],aV x),([],bj q l),([],bB q l),([],lA w k p WN [] c r b z f (some [32]) r1 (some s) nx1 j),([],cz w k p WN [] (some [32]) (some s) b r1 c o m)]),k:=10,nn:=4,Pm:=49,H:=aQ 0x1a69f0d050c0b8db468b30715e31616079c15159c15821515150015150015159413fd000700a6080166a182d0b808b082a6f0e5e5f0f0c1e409a182d0b808b082938312c80711e3b9e1e1a611ac0bacc3c3ac0bacc3c3ac0bacc300acc2840ba8090605b2c16700a6d4d40700,N:=349,
 cF:=λa=>a9 (a 6),oF:=λa=>[ax (a 1),ay w.2 t (a 3) (a 2) (a 5) WN [] (some [32]) [],a6 k,aj (a 4),ao w.2 u c (ai c r),a6 p,a8 w.2 v (a 0) (a 7) g true false [61] G #[],aa (.ref (a 8)::x) h,aa (.ref q::l) A,aS D E (dI 842 843 (.ref y))],
 uF:=λa n e=>[ax (a 1),ay w.2 (dj t u v e) (match m with|true=>a 3|false=>n 0) (a 2) (a 5) WN [] o.st [],cC o.pb o.k ((gR t u v e) 2),aj (a 4),ao w.2 (gS t u v e) c (ai c []),mw m p (n 2),a8 w.2 (fw G t u v e) (a 0) (a 7) g false true o.w (some ((34::f),(34::f))) (dI 823 824 (.ref (a 9))),aa (.ref (a 8)::x) h,aa (.ref (n 3)::l) A,aS D E (dI 842 843 (.ref y))],nF:=λa n e=>[aj (n 1),d7 w.2 (zI t u v e) b (ai b o.r) m,az [.none,.ref (a 3),.int 1 ((zJ t u v e) 2)]],rF:=λa n e=>.again (a9 (a 6)),idx:=[11,12,13],Pn:=[88,90,92,94,95,96,97,98,99,100,101,102,104,105,106,107,108,109,110,111,112,114,115,116,117,118,119,120,122,124,125,126,135,136,137,138,139,140,134,56,48,58,128,129,130,131,132,133,55],Py:=cW q (az [.str (mk i) C,I]),Px:=[19],gF:=λa n e=>[λF=>F (n 3)=some (az [.str (mk i) C,.str (mk (34::f)) ((eJ t u v e) 1)])],Pz:=[0],d:=150,u:=1500,
 facts:=[true=true,GR WN [] b c (some [32]) (some s) r1 k o m,([Qc [59],Qc [44],Qc []]).all dm=true,([Qc [59],Qc [44],Qc []]).any (aU (mk (34::f)))=false,true=true,true=true,true=true,true=true,aD (mk (34::f)),ak .none,ak (.int (1:Int) 0),Txt.slice (mk (34::f)) none (some (1:Int))=(mk [34]),([Qc [59],Qc [44]]).all dm=true,([Qc [59],Qc [44]]).any (aU (mk (34::f)))=false,true=true,VX c r b/\aF WR [] b (some [32]) [] b ⟨34::f,(some [32]),r1,(some s),nx1,j⟩]}
theorem DB:(BG w c r a j k m b l n p d q e s x y z f g o A B C D h E t u v).Runs w:=by intro i G H;cases h<;>kernel_rfl
def zK (t u v a:P2):Nat->Tok:=bl aO [(0,(a 42)),(1,(a 43)),(2,(a 44)),(3,(a 45)),(4,(a 46)),(5,(a 47))]
def zL (t u v a:P2):Nat->Tok:=bl aO [(2,(a 48))]
def BH (w:World) (c r b:P1) (y:Value) (k p:Int) (g:P1) (l:P5) (z:Nat) (s:P5) (h:Nat) (q:Addr) (i:P1) (A:Tok) (G:Value) (f r1 nx1:P1) (j:Bool) (o:GO) (m:Bool) (C:Array DictEntry) (D:Nat) (E:Option (List Nat×P1)) (x:Addr) (t u v:P2):a7:={
 B:=λa=>[kr (a 6),bO y (a 9),eT (a 9),d5 x,d6],Hd:=none,O:=oT [mk [34]] (aC [([],aV s),([],bj q l),([],bB q l),([],lA w k p WN [] c r b y f none r1 none nx1 j),([],cz w k p WN [] none none b r1 c o m)]),k:=10,nn:=4,Pm:=49,H:=aQ 0x1a69f0d050c0b8db468b30715e31616079c15159c15821515150015150015159413fd000700a6080166a182d0b808b082a6f0e5e5f0f0c1e409a182d0b808b082938312c80711e3b9e1e1a611ac0bacc3c3ac0bacc3c3ac0bacc300acc2840ba8090605b2c16700a6d4d40700,N:=349,
 cF:=λa=>a9 (a 6),oF:=λa=>[ax (a 1),ay w.2 t (a 3) (a 2) (a 5) WN [] (some [32]) [],a6 k,aj (a 4),ao w.2 u c (ai c r),a6 p,a8 w.2 v (a 0) (a 7) g true false [61] E #[],aa (.ref (a 8)::s) h,aa (.ref q::l) z,aS C D (dI 842 843 (.ref x))],
 uF:=λa n e=>[ax (a 1),ay w.2 (dj t u v e) (match m with|true=>a 3|false=>n 0) (a 2) (a 5) WN [] o.st [],cC o.pb o.k ((gR t u v e) 2),aj (a 4),ao w.2 (gS t u v e) c (ai c []),mw m p (n 2),a8 w.2 (fw E t u v e) (a 0) (a 7) g false true o.w (some ((34::f),(34::f))) (dI 823 824 (.ref (a 9))),aa (.ref (a 8)::s) h,aa (.ref (n 3)::l) z,aS C D (dI 842 843 (.ref x))],nF:=λa n e=>[aj (n 1),d7 w.2 (zK t u v e) b (ai b o.r) m,az [.none,.ref (a 3),.int 1 ((zL t u v e) 2)]],rF:=λa n e=>.again (a9 (a 6)),idx:=[11,12,13],Pn:=[88,90,92,94,95,96,97,98,99,100,101,102,104,105,106,107,108,109,110,111,112,114,115,116,117,118,119,120,122,124,125,126,135,136,137,138,139,140,134,56,48,58,128,129,130,131,132,133,55],Py:=cW q (az [.str (mk i) A,G]),Px:=[19],gF:=λa n e=>[λF=>F (n 3)=some (az [.str (mk i) A,.str (mk (34::f)) ((eJ t u v e) 1)])],Pz:=[0],d:=150,u:=1500,
 facts:=[true=true,GR WN [] b c none none r1 k o m,([Qc [59],Qc [44],Qc []]).all dm=true,([Qc [59],Qc [44],Qc []]).any (aU (mk (34::f)))=false,true=true,true=true,true=true,true=true,aD (mk (34::f)),ak .none,ak (.int (1:Int) 0),Txt.slice (mk (34::f)) none (some (1:Int))=(mk [34]),([Qc [59],Qc [44]]).all dm=true,([Qc [59],Qc [44]]).any (aU (mk (34::f)))=false,true=true,VX c r b/\aF WR [] b (some [32]) [] b ⟨34::f,none,r1,none,nx1,j⟩]}
theorem DC:(BH w c r a j k m b l n p d q e s x y z f g o A B C h D t u v).Runs w:=by intro i E G;cases h<;>kernel_rfl
section
noncomputable def bt (a c:P4) (b:List (Nat⊕Nat)) (i:Nat):Addr:=match b[i]? with
 |some (.inl j)=>a j
 |some (.inr j)=>c j
 |none=>0
def iu (a b:P7) (c:List (Nat⊕Nat)):P7:=c.map λx=>match x with
 | .inl j=>a.getD j av
 | .inr j=>b.getD j av
def fK (a e c:P4) (d b:List (Nat⊕Nat)) (i:Nat):Addr:=match b[i]? with
 |some (.inl p)=>bt a e d p
 |some (.inr j)=>c j
 |none=>0
def rT (a b:P7) (c:List (Nat⊕Nat)):P7:=c.map λx=>match x with
 | .inl p=>a.getD p av
 | .inr j=>b.getD j av
theorem eW {a:P4} {c d:P7} {b:Addr} (h:∀i o,i<c.length->d[i]? =some o->o.isFreed=true->b≠a i):¬fN (ab a c) d b:=by
 rintro ⟨i,p,o,e,f,g,j⟩;rw [aw] at e;obtain ⟨x,k,rfl⟩:=Option.map_eq_some_iff.mp e;exact h i o (List.getElem?_eq_some_iff.mp k).1 f g j
theorem i5 {o b:Obj} (h:some o=some b) (c:o.isFreed=true) (a:b.isFreed=false):False:=by
 cases h;rw [c] at a;injection a
section
variable {w:World} {F:aA} {d u:Nat} {C:P8} {H:P6} {c:Code} {c':P4->Code} {a:P4} {os:P7} {t v:Nat} {f k:P4->P2->P7} {m:P4->P2->Qb}
theorem ah.Pr (l r:List (Nat⊕Nat)) {nn2 PA:Nat} {updF newF:P4->P2->P7} {gF:P4->P2->Qb} {resF:P4->P2->hZ}
  (h1:ah aX w F d u C H c (ab a os) f t v k (λI _=>.again (c' I)) m)
  (hl:∀I Y,(f I Y).length=os.length) (P5:∀I Y,(updF I Y).length=os.length)
  (PV:l.Nodup) (PB:∀I Y,∀x∈l,match x with| .inl j=>j<os.length/\((f I Y).getD j av).isFreed=false| .inr j=>j<(k I Y).length/\j<t)
  (U Po:P4->P2->P4->P2->P7) (P6:∀I Y D G,(U I Y D G).length=l.length)
  (hF:∀I Y D G j o,(updF (ae r.length (fK a I D l r)) G)[j]? =some o->o.isFreed=false->(∃i:Nat,l[i]? =some (.inl j)/\(U I Y D G)[i]? =some o)\/((.inl j)∉l/\(f I Y)[j]? =some o))
  (PW:r.Nodup) (hN:∀I Y D G,newF (ae r.length (fK a I D l r)) G=rT (U I Y D G) (Po I Y D G) r)
  (PX:∀I Y D G,∀x∈r,match x with| .inl p=>(∃q,l[p]? =some (.inr q))/\((U I Y D G).getD p av).isFreed=false| .inr j=>j<(Po I Y D G).length/\j<nn2)
  (h2:∀F' I Y,Le F F'->(∀g∈m I Y,∀PY,Le F' PY->g PY)->ah aX w F' d u C H (c' I) (ab (bt a I l) (iu (f I Y) (k I Y) l)) (λD G=>U I Y D G) nn2 PA (λD G=>Po I Y D G) (λD G=>resF (ae r.length (fK a I D l r)) G) (λD G=>gF (ae r.length (fK a I D l r)) G)):
  ah aX w F d u C H c (ab a os) updF r.length PA newF resF gF:=by
 intro A s R hH hd hu hB PJ PZ hR;refine h1 A s R hH hd hu hB PJ PZ λs1 I Y F1 G1 PC PO X1=>?_;have P7:∃z,z=ae v Y:=⟨_,rfl⟩;have P8:∃n,n=ae t I:=⟨_,rfl⟩;obtain ⟨z,P9⟩:=P7;obtain ⟨n,PQ⟩:=P8;rw [<-P9,<-PQ] at G1 PC PO X1;have V:∀j,j<t->n j=I j:=λj J=>by
  rw [PQ];unfold ae;rw [show Nat.blt j t=true from by simpa [Nat.blt_eq] using J]
 have PK:∀j,j<os.length->∃o,os[j]? =some o:=λj J=>⟨_,List.getElem?_eq_getElem J⟩;have O:∀j o,os[j]? =some o->(ab a os)[j]? =some (a j,o):=λj o h=>by rw [aw,h];rfl
 have Pt:∀i j,i<os.length->j<os.length->a i=a j->i=j:=λi j N J e=>by
  have g:∀i (h:i<os.length),((ab a os).map (·.1))[i]? =some (a i):=λi h=>by
   rw [List.getElem?_map,aw,List.getElem?_eq_getElem h];rfl
  have l1:((ab a os).map (·.1)).length=os.length:=by rw [List.length_map];unfold ab;rw [List.length_map,List.length_zipIdx]
  have g1:=g i N;have g2:=g j J;rw [List.getElem?_eq_getElem (by rw [l1];exact N)] at g1
  rw [List.getElem?_eq_getElem (by rw [l1];exact J)] at g2
  exact gG PZ ((Option.some.inj g1).trans ((congrArg _ rfl).trans (e.trans (Option.some.inj g2).symm)))
 have PL:∀j,j<os.length->a j<s.1.1.size:=λj J=>by
  obtain ⟨o,ho⟩:=PK j J;exact Heap.lt_size (PJ _ (List.mem_of_getElem? (O j o ho))).1
 have Pp:∀i x,l[i]? =some x->∃o,(iu (f n z) (k n z) l)[i]? =some o/\s1.1.get? (bt a n l i)=some o/\F1 (bt a n l i)=none:=λi x hx=>by
  have hm:=PB n z x (List.mem_of_getElem? hx);unfold bt iu;rw [List.getElem?_map,hx];cases x with
  |inl j=>
   obtain ⟨J,hf⟩:=hm;have PM:j<(f n z).length:=by rw [hl];exact J
   refine ⟨_,rfl,?_,?_⟩
   ·dsimp only
    obtain ⟨o,ho⟩:=PK j J;have e:(f n z)[j]? =some ((f n z).getD j av):=by rw [List.getD_eq_getElem?_getD,List.getElem?_eq_getElem PM];rfl
    exact X1.upd j (a j,o) _ (O j o ho) e hf
   ·dsimp only
    obtain ⟨o,ho⟩:=PK j J;have y:=PJ _ (List.mem_of_getElem? (O j o ho));exact dU G1 y.1 y.2 (eW λi' o' Q g2 g3 g4=>by
     have:=Pt j i' J Q g4;subst this;rw [List.getD_eq_getElem?_getD,g2] at hf;exact i5 rfl g3 hf)
  |inr j=>
   obtain ⟨J,P0⟩:=hm;refine ⟨_,rfl,?_,?_⟩
   ·dsimp only
    rw [V j P0];exact X1.new j _ (by rw [List.getD_eq_getElem?_getD,List.getElem?_eq_getElem J];rfl)
   ·dsimp only
    rw [V j P0];exact PC j J
 have l2:(iu (f n z) (k n z) l).length=l.length:=by unfold iu;rw [List.length_map]
 have Pw:∀i j,i<l.length->j<l.length->bt a n l i=bt a n l j->i=j:=λi j N J e=>by
  have ei:l[i]? =some l[i]:=List.getElem?_eq_getElem N;have ej:l[j]? =some l[j]:=List.getElem?_eq_getElem J;have mi:=PB n z _ (List.mem_of_getElem? ei);have mj:=PB n z _ (List.mem_of_getElem? ej);have PR:l[i]=l[j]:=by
   unfold bt at e;rw [ei,ej] at e;cases hx:l[i] with
   |inl p=>
    rw [hx] at e mi;cases hy:l[j] with
    |inl q=>
     rw [hy] at e mj;exact congrArg _ (Pt p q mi.1 mj.1 e)
    |inr q=>
     rw [hy] at e mj;dsimp only at e mi mj;rw [V q mj.2] at e;have y1:=X1.fresh q mj.2;have y2:=PL p mi.1;rw [e] at y2;exact absurd y2 (Nat.not_lt.mpr y1)
   |inr p=>
    rw [hx] at e mi;cases hy:l[j] with
    |inl q=>
     rw [hy] at e mj;dsimp only at e mi mj;rw [V p mi.2] at e;have y1:=X1.fresh p mi.2;have y2:=PL q mj.1;rw [<-e] at y2;exact absurd y2 (Nat.not_lt.mpr y1)
    |inr q=>
     rw [hy] at e mj;dsimp only at e mi mj;rw [V p mi.2,V q mj.2] at e;exact congrArg _ (X1.inj p q mi.2 mj.2 e)
  exact (List.getElem_inj PV).mp PR
 have Qb:∀i,i<l.length->(ab (bt a n l) (iu (f n z) (k n z) l))[i]?.map (·.1)=some (bt a n l i):=λi N=>by
  rw [aw,List.getElem?_eq_getElem (by rw [l2];exact N)];rfl
 show gT (model aX w) A C (c' (ae t I)) R s1;rw [<-PQ];refine h2 F1 n z G1.le PO A s1 R hH hd hu G1.base (λp hp=>?_) ?_ λs2 D G F2 G2 PD PP X2=>?_
 ·obtain ⟨i,N⟩:=List.getElem?_of_mem hp
  rw [aw] at N;obtain ⟨o,ho,rfl⟩:=Option.map_eq_some_iff.mp N;have PE:i<l.length:=by rw [<-l2];exact (List.getElem?_eq_some_iff.mp ho).1
  obtain ⟨o',h1,h2,h3⟩:=Pp i _ (List.getElem?_eq_getElem PE);rw [ho] at h1;cases h1;exact ⟨h2,h3⟩
 ·rw [bp,l2]
  rw [List.nodup_iff_pairwise_ne];refine List.pairwise_map.mpr (List.Pairwise.imp_of_mem (λ{i j} N J Qa e=>Qa (Pw i j (List.mem_range.mp N) (List.mem_range.mp J) e)) (List.nodup_iff_pairwise_ne.mp List.nodup_range))
 ·have PF:∀b,b∈(ab (bt a n l) (iu (f n z) (k n z) l)).map (·.1)->∃i,i<l.length/\b=bt a n l i:=λb hb=>by
   rw [bp] at hb;obtain ⟨i,N,rfl⟩:=List.mem_map.mp hb;exact ⟨i,by rw [<-l2];exact List.mem_range.mp N,rfl⟩
  have Pq:∀i,i<l.length->(∃j,l[i]? =some (.inl j)/\j<os.length/\bt a n l i=a j)\/(∃j,l[i]? =some (.inr j)/\j<t/\bt a n l i=I j):=λi N=>by
   have ei:l[i]? =some l[i]:=List.getElem?_eq_getElem N;have mi:=PB n z _ (List.mem_of_getElem? ei);cases hx:l[i] with
   |inl j=>rw [hx] at ei mi;exact .inl ⟨j,ei,mi.1,by unfold bt;rw [ei]⟩
   |inr j=>rw [hx] at ei mi;exact .inr ⟨j,ei,mi.2,by unfold bt;rw [ei];exact V j mi.2⟩
  obtain ⟨B,PG⟩:∃x,x=ae nn2 D:=⟨_,rfl⟩;obtain ⟨E,PH⟩:∃x,x=ae PA G:=⟨_,rfl⟩;rw [<-PG,<-PH] at G2 PD PP X2;rw [<-PG,<-PH];have PS:∀j,j<nn2->B j=D j:=λj J=>by
   rw [PG];unfold ae;rw [show Nat.blt j nn2=true from by simpa [Nat.blt_eq] using J]
  have Pm:∀i,i<r.length->(∃p q,r[i]? =some (.inl p)/\l[p]? =some (.inr q)/\fK a n B l r i=bt a n l p/\bt a n l p=I q/\q<t/\p<l.length/\((U n z B E).getD p av).isFreed=false)\/(∃j,r[i]? =some (.inr j)/\fK a n B l r i=D j/\j<nn2/\j<(Po n z B E).length):=λi N=>by
   have ei:r[i]? =some r[i]:=List.getElem?_eq_getElem N;have mi:=PX n z B E _ (List.mem_of_getElem? ei);cases hx:r[i] with
   |inl p=>
    rw [hx] at ei mi;obtain ⟨⟨q,hq⟩,hf⟩:=mi;have hp:=(List.getElem?_eq_some_iff.mp hq).1;have P1:q<t:=(PB n z _ (List.mem_of_getElem? hq)).2;exact .inl ⟨p,q,ei,hq,by unfold fK;rw [ei],by unfold bt;rw [hq];exact V q P1,P1,hp,hf⟩
   |inr j=>
    rw [hx] at ei mi;exact .inr ⟨j,ei,by unfold fK;rw [ei];exact PS j mi.2,mi.2,mi.1⟩
  have nl:(newF (ae r.length (fK a n B l r)) E).length=r.length:=by rw [hN n z B E];unfold rT;rw [List.length_map]
  have Pn:∀p,p<l.length->∃o,(ab (bt a n l) (iu (f n z) (k n z) l))[p]? =some (bt a n l p,o)/\s1.1.get? (bt a n l p)=some o/\F1 (bt a n l p)=none:=λp hp=>by
   obtain ⟨o,g1,g2,g3⟩:=Pp p _ (List.getElem?_eq_getElem hp);exact ⟨o,by rw [aw,g1];rfl,g2,g3⟩
  have u2:∀p,p<l.length->(U n z B E)[p]? =some ((U n z B E).getD p av):=λp hp=>by
   rw [List.getD_eq_getElem?_getD,List.getElem?_eq_getElem (by rw [P6];exact hp)];rfl
  have P2:=hR s2 (fK a n B l r) G F2;rw [<-PH] at P2;refine P2 ⟨G1.le.trans G2.le,G2.base,λb o e=>?_⟩ (λi N=>?_) PP ⟨λb o e hb=>?_,λi p o hp ho hf=>?_,λi o e=>?_,λi N=>?_,λi N=>?_,λi j N J e=>?_,Nat.le_trans X1.size X2.size,X2.life.trans X1.life,X2.gens.trans X1.gens,X2.drawn.trans X1.drawn,X2.os.trans X1.os⟩
  ·
   have Px:∀j,j<os.length->b=a j->F2 b=some o->F b=some o\/s.1.1.size<=b\/fN (ab a os) (updF (ae r.length (fK a n B l r)) E) b:=λj J PT PN=>by
    obtain ⟨oj,Py⟩:=PK j J;have PM:j<(updF (ae r.length (fK a n B l r)) E).length:=by rw [P5];exact J
    cases PI:(updF (ae r.length (fK a n B l r)) E)[j].isFreed with
    |true=>exact .inr (.inr ⟨j,(a j,oj),_,O j oj Py,List.getElem?_eq_getElem PM,PI,PT⟩)
    |false=>
     exfalso;rcases hF n z B E j _ (List.getElem?_eq_getElem PM) PI with ⟨i,Pz,PE⟩|⟨hn,hu⟩
     ·have N:=(List.getElem?_eq_some_iff.mp Pz).1
      obtain ⟨o1,g1,g2,g3⟩:=Pp i _ Pz;have ea:bt a n l i=a j:=by unfold bt;rw [Pz]
      have Pu:=dU G2 g2 g3 (eW λi' o' Q q2 q3 q4=>by
       have:=Pw i i' N (by rw [<-l2];exact Q) q4
       subst this;exact i5 (q2.symm.trans PE) q3 PI)
      rw [ea,<-PT] at Pu;rw [Pu] at PN;cases PN
     ·
      have y:=PJ _ (List.mem_of_getElem? (O j oj Py));have P4:F1 (a j)=none:=dU G1 y.1 y.2 (eW λi' o' Q q2 q3 q4=>by
       have:=Pt j i' J Q q4;subst this;exact i5 (q2.symm.trans hu) q3 PI)
      have y1:=X1.upd j (a j,oj) _ (O j oj Py) hu PI;have Pu:=dU G2 y1 P4 (eW λi' o' Q q2 q3 q4=>by
       have Q:i'<l.length:=by rw [<-l2];exact Q
       rcases Pq i' Q with ⟨j',e1,T,L⟩|⟨j',e1,T,L⟩
       ·have:a j=a j':=q4.trans L
        have:=Pt j j' J T this;subst this;exact hn (List.mem_of_getElem? e1)
       ·have e4:a j=I j':=q4.trans L
        have y1:=X1.fresh j' T;have y2:=PL j J;rw [e4] at y2;exact absurd y2 (Nat.not_lt.mpr y1))
      rw [<-PT] at Pu;rw [Pu] at PN;cases PN
   rcases G2.new b o e with x|x|⟨i',p,o',q1,q2,q3,q4⟩
   ·rcases G1.new b o x with y|y|⟨j',p,o',g1,g2,g3,g4⟩
    ·exact .inl y
    ·exact .inr (.inl y)
    ·rw [aw] at g1
     obtain ⟨o3,PU,rfl⟩:=Option.map_eq_some_iff.mp g1;exact Px j' (List.getElem?_eq_some_iff.mp PU).1 g4 e
   ·exact .inr (.inl (Nat.le_trans X1.size x))
   ·rw [aw] at q1
    obtain ⟨o3,PU,rfl⟩:=Option.map_eq_some_iff.mp q1;have Q:i'<l.length:=by rw [<-l2];exact (List.getElem?_eq_some_iff.mp PU).1
    rcases Pq i' Q with ⟨j',e1,T,L⟩|⟨j',e1,T,L⟩
    ·exact Px j' T (q4.trans L) e
    ·refine .inr (.inl ?_)
     rw [show b=I j' from q4.trans L]
     exact X1.fresh j' T
  ·rw [nl] at N
   rcases Pm i N with ⟨p,q,e1,T,L,e4,e5,e6,e7⟩|⟨j,e1,T,L,e4⟩
   ·rw [L]
    obtain ⟨o,g1,g2,g3⟩:=Pn p e6;exact dU G2 g2 g3 (eW λi' o' Q q2 q3 q4=>by
     have:=Pw p i' e6 (by rw [<-l2];exact Q) q4
     subst this;exact i5 (q2.symm.trans (u2 p e6)) q3 e7)
   ·rw [T];exact PD j e4
  ·refine X2.keep b o (X1.keep b o e hb) λhm=>?_
   obtain ⟨i,N,rfl⟩:=PF b hm;rcases Pq i N with ⟨j',e1,T,L⟩|⟨j',e1,T,L⟩
   ·refine hb ?_
    rw [L,bp];exact List.mem_map_of_mem (List.mem_range.mpr T)
   ·have y1:=X1.fresh j' T
    have y2:=Heap.lt_size e;rw [L] at y2;exact absurd y2 (Nat.not_lt.mpr y1)
  ·rw [aw] at hp
   obtain ⟨oj,Py,rfl⟩:=Option.map_eq_some_iff.mp hp;have J:=(List.getElem?_eq_some_iff.mp Py).1;rcases hF n z B E i o ho hf with ⟨i',Pz,PE⟩|⟨hn,hu⟩
   ·obtain ⟨o1,g1,g2,g3⟩:=Pp i' _ Pz
    have ea:bt a n l i'=a i:=by unfold bt;rw [Pz]
    have:=X2.upd i' (bt a n l i',o1) o (by rw [aw,g1];rfl) PE hf
    rw [<-ea];exact this
   ·have y1:=X1.upd i (a i,oj) o (O i oj Py) hu hf
    refine X2.keep _ _ y1 λhm=>?_;obtain ⟨i',Q,e0⟩:=PF _ hm;rcases Pq i' Q with ⟨j',e1,T,L⟩|⟨j',e1,T,L⟩
    ·have:=Pt i j' J T (e0.trans L)
     subst this;exact hn (List.mem_of_getElem? e1)
    ·have e4:a i=I j':=e0.trans L
     have y1:=X1.fresh j' T;have y2:=PL i J;rw [e4] at y2;exact absurd y2 (Nat.not_lt.mpr y1)
  ·rw [hN n z B E] at e
   have N:i<r.length:=by
    have:=(List.getElem?_eq_some_iff.mp e).1;unfold rT at this;simpa using this
   rcases Pm i N with ⟨p,q,e1,T,L,e4,e5,e6,e7⟩|⟨j,e1,T,L,e4⟩
   ·unfold rT at e
    rw [List.getElem?_map,e1] at e;cases e;obtain ⟨o,g1,g2,g3⟩:=Pn p e6;rw [L];exact X2.upd p _ _ g1 (u2 p e6) e7
   ·unfold rT at e
    rw [List.getElem?_map,e1] at e;cases e;rw [T];refine X2.new j _ ?_;show (Po n z B E)[j]? =some ((Po n z B E).getD j av);rw [List.getD_eq_getElem?_getD,List.getElem?_eq_getElem e4];rfl
  ·rcases Pm i N with ⟨p,q,e1,T,L,e4,e5,e6,e7⟩|⟨j,e1,T,L,e4⟩
   ·rw [L,e4];exact X1.fresh q e5
   ·rw [T];exact Nat.le_trans X1.size (X2.fresh j L)
  ·rcases Pm i N with ⟨p,q,e1,T,L,e4,e5,e6,e7⟩|⟨j,e1,T,L,e4⟩
   ·obtain ⟨o,g1,g2,g3⟩:=Pn p e6
    rw [L];exact Nat.lt_of_lt_of_le (Heap.lt_size g2) X2.size
   ·rw [T];exact X2.below j L
  ·have PR:r[i]=r[j]:=by
    rcases Pm i N with ⟨p,q,e1,T,L,e4,e5,e6,e7⟩|⟨i',e1,T,L,e4⟩
    ·rcases Pm j J with ⟨p',q',f1,f2,f3,f4,f5,f6,f7⟩|⟨j',f1,f2,f3,f4⟩
     ·rw [L,f3] at e
      have:=Pw p p' e6 f6 e;subst this;rw [List.getElem?_eq_getElem N] at e1;rw [List.getElem?_eq_getElem J] at f1;exact (Option.some.inj e1).trans (Option.some.inj f1).symm
     ·rw [L,f2] at e
      obtain ⟨o,g1,g2,g3⟩:=Pn p e6;have y1:=X2.fresh j' f3;have y2:=Heap.lt_size g2;rw [e] at y2;exact absurd y2 (Nat.not_lt.mpr y1)
    ·rcases Pm j J with ⟨p',q',f1,f2,f3,f4,f5,f6,f7⟩|⟨j',f1,f2,f3,f4⟩
     ·rw [T,f3] at e
      obtain ⟨o,g1,g2,g3⟩:=Pn p' f6;have y1:=X2.fresh i' L;have y2:=Heap.lt_size g2;rw [<-e] at y2;exact absurd y2 (Nat.not_lt.mpr y1)
     ·simp only [T,f2] at e
      have:=X2.inj i' j' L f3 e;subst this;rw [List.getElem?_eq_getElem N] at e1;rw [List.getElem?_eq_getElem J] at f1;exact (Option.some.inj e1).trans (Option.some.inj f1).symm
   exact (List.getElem_inj PW).mp PR
theorem ah.PY (n:List (Nat⊕Nat)) {s:Nat} {p:P2->P7} {A:P2->Qb} {r:P2->hZ}
  (I:ah aX w F d u C H c (ab a os) f t v k (λl Y=>.again (c' l)) m)
  (J:∀l b,(f l b).length=os.length) (B:∀b,(p b).length=os.length)
  (y:n.Nodup) (D:∀l b,∀x∈n,match x with| .inl j=>j<os.length/\((f l b).getD j av).isFreed=false| .inr j=>j<(k l b).length/\j<t)
  (q:P4->P2->P2->P7) (E:∀l b e,(q l b e).length=n.length)
  (L:∀l b e j o,(p e)[j]? =some o->o.isFreed=false->(∃i:Nat,n[i]? =some (.inl j)/\(q l b e)[i]? =some o)\/((.inl j)∉n/\(f l b)[j]? =some o))
  (N:∀G l b,Le F G->(∀g∈m l b,∀z,Le G z->g z)->ah aX w G d u C H (c' l) (ab (bt a l n) (iu (f l b) (k l b) n)) (λY e=>q l b e) 0 s (λY Y=>[]) (λY b=>r b) (λY b=>A b)):
  ah aX w F d u C H c (ab a os) (λY b=>p b) 0 s (λY Y=>[]) (λY b=>r b) (λY b=>A b):=
 ah.Pr n [] (nn2:=0) (updF:=λY b=>p b) (newF:=λY Y=>[]) (gF:=λY b=>A b) (resF:=λY b=>r b) I J (λY b=>B b) y D (λl b Y e=>q l b e) (λY Y Y Y=>[]) (λl b Y e=>E l b e)
  (λl b Y e j o=>L l b e j o) List.nodup_nil (λY Y Y Y=>rfl) (λY Y Y Y Y h=>by cases h) N
noncomputable def ou (e:List (Nat⊕Nat)) (f b:P7):List Obj->Nat->Prop
 |[],_=>True
 |o::os,j=>(o.isFreed=true\/(∃i:Nat,e[i]? =some (.inl j)/\b[i]? =some o)\/((.inl j)∉e/\f[j]? =some o))/\ou e f b os (j+1)
theorem jH {e:List (Nat⊕Nat)} {f b:P7}:∀{os:P7} {n j:Nat} {o:Obj},ou e f b os n->os[j]? =some o->o.isFreed=false->(∃i:Nat,e[i]? =some (.inl (n+j))/\b[i]? =some o)\/((.inl (n+j))∉e/\f[n+j]? =some o)
 |[],_,_,_,_,h,_=>by cases h
 |o'::os,n,0,o,g,h,l=>by
  cases h;rcases g.1 with x|x|x
  ·rw [l] at x;injection x
  ·exact .inl x
  ·exact .inr x
 |o'::os,n,j+1,o,g,h,l=>by
  have:=jH (os:=os) (n:=n+1) (j:=j) g.2 (by simpa using h) l
  rw [show n+(j+1)=n+1+j by lia]
  exact this
def qs (b:List (Nat⊕Nat)) (n t:Nat) (f k:P7):Bool:=b.all λx=>match x with
 | .inl j=>Nat.blt j n&& !(f.getD j av).isFreed
 | .inr j=>Nat.blt j k.length&&Nat.blt j t
theorem ah.PZ (l:List (Nat⊕Nat)) {s:Nat} {r:P2->P7} {I:P2->Qb} {y:P2->hZ}
  (J:ah aX w F d u C H c (ab a os) f t v k (λe Y=>.again (c' e)) m)
  (n:P4->P2->P2->P7)
  (L:∀e b i,ou l (f e b) (n e b i) (r i) 0)
  (N:∀B e b,Le F B->(∀g∈m e b,∀z,Le B z->g z)->ah aX w B d u C H (c' e) (ab (bt a e l) (iu (f e b) (k e b) l)) (λY i=>n e b i) 0 s (λY Y=>[]) (λY b=>y b) (λY b=>I b))
  (O:∀e b,(f e b).length=os.length:=by intros;rfl) (D:∀b,(r b).length=os.length:=by intros;rfl)
  (A:l.Nodup:=by decide) (E:∀e b,qs l os.length t (f e b) (k e b)=true:=by intros;kernel_rfl) (G:∀e b i,(n e b i).length=l.length:=by intros;rfl):
  ah aX w F d u C H c (ab a os) (λY b=>r b) 0 s (λY Y=>[]) (λY b=>y b) (λY b=>I b):=
 ah.PY l J O D A (λe b x Q=>by
  have:=List.all_eq_true.mp (E e b) x Q;cases x with
  |inl j=>
   obtain ⟨p,q⟩:=Bool.and_eq_true_iff.mp this;exact ⟨Nat.le_of_ble_eq_true p,by simpa using q⟩
  |inr j=>
   obtain ⟨p,q⟩:=Bool.and_eq_true_iff.mp this;exact ⟨Nat.le_of_ble_eq_true p,Nat.le_of_ble_eq_true q⟩) n G (λe b i j o h T=>by
  have:=jH (L e b i) h T;rw [Nat.zero_add] at this;exact this) N
noncomputable def rU (f b:P7):List Nat->Nat->P7
 |[],_=>[]
 |c::e,p=>(match Nat.beq c 0 with
  |true=>av
  |false=>match Nat.beq c 100 with
   |true=>f.getD p av
   |false=>b.getD (c-1) av)::rU f b e (p+1)
noncomputable def BI (b:List (Nat⊕Nat)) (i p:Nat):Bool:=match b.drop i with
 | .inl q::_=>Nat.beq q p
 |_=>false
noncomputable def H1 (b:List (Nat⊕Nat)) (p:Nat):Bool:=b.all λx=>match x with
 | .inl q=>!Nat.beq q p
 | .inr _=>true
noncomputable def lF (b:List (Nat⊕Nat)) (n e:Nat):List Nat->Nat->Bool
 |[],_=>true
 |c::g,p=>(Nat.beq c 0||(Nat.beq c 100&&(H1 b p&&Nat.blt p n))||(!Nat.beq c 0&& !Nat.beq c 100&&BI b (c-1) p&&Nat.blt (c-1) e))&&lF b n e g (p+1)
set_option tactic.hygienic true in
theorem iw {n:List (Nat⊕Nat)} {f b:P7}:∀{o:P1} {p:Nat},lF n f.length b.length o p=true->ou n f b (rU f b o p) p
 |[],_,_=>trivial
 |c::o,p,h=>by
  unfold lF at h;obtain ⟨i,x⟩:=Bool.and_eq_true_iff.mp h;refine ⟨?_,iw x⟩;cases q:Nat.beq c 0 with
  |true=>exact .inl rfl
  |false=>
   cases s:Nat.beq c 100 with
   |true=>
    rw [q,s] at i;simp only [Bool.false_or,Bool.true_and,Bool.not_false,Bool.not_true,Bool.and_false,Bool.false_and,Bool.or_false] at i;obtain ⟨j,g⟩:=Bool.and_eq_true_iff.mp i;refine .inr (.inr ⟨λy=>?_,?_⟩)
    ·have:=List.all_eq_true.mp j _ y
     simp at this
    ·have g:p<f.length:=Nat.le_of_ble_eq_true g
     rw [List.getD_eq_getElem?_getD,List.getElem?_eq_getElem g];rfl
   |false=>
    rw [q,s] at i;simp only [Bool.false_or,Bool.true_and,Bool.not_false,Bool.not_true,Bool.and_false,Bool.false_and,Bool.or_false] at i;obtain ⟨j,g⟩:=Bool.and_eq_true_iff.mp i;refine .inr (.inl ⟨c-1,?_,?_⟩)
    ·unfold BI at j
     split at j
     ·rename_i q r e
      have:=congrArg (·[0]?) e;simp only [List.getElem?_drop,Nat.add_zero,List.getElem?_cons_zero] at this;rw [this,Nat.eq_of_beq_eq_true j]
     ·injection j
    ·have g:c-1<b.length:=Nat.le_of_ble_eq_true g
     dsimp only;rw [List.getD_eq_getElem?_getD (l:=b),List.getElem?_eq_getElem g];rfl
theorem kc {u b:P7}:∀{l:P1} {p:Nat},(rU u b l p).length=l.length
 |[],_=>rfl
 |_::_,_=>congrArg (· +1) kc
theorem ah.PC (j:List (Nat⊕Nat)) (l:P1) {ntkF:Nat} {updF:P2->P7} {gF:P2->Qb} {resF:P2->hZ}
  (y:ah aX w F d u C H c (ab a os) f t v k (λe Y=>.again (c' e)) m)
  (i:P4->P2->P2->P7)
  (z:∀p e b,Le F p->(∀g∈m e b,∀n,Le p n->g n)->ah aX w p d u C H (c' e) (ab (bt a e j) (iu (f e b) (k e b) j)) (λY h=>i e b h) 0 ntkF (λY Y=>[]) (λY b=>resF b) (λY b=>gF b))
  (x:∀e b h,rU (f e b) (i e b h) l 0=updF h:=by intros;kernel_rfl)
  (A:∀e b h,lF j (f e b).length (i e b h).length l 0=true:=by intros;kernel_rfl)
  (B:∀e b,(f e b).length=os.length:=by intros;kernel_rfl) (q:l.length=os.length:=by kernel_rfl)
  (o:j.Nodup:=by decide) (r:∀e b,qs j os.length t (f e b) (k e b)=true:=by intros;kernel_rfl) (s:∀e b h,(i e b h).length=j.length:=by intros;kernel_rfl):
  ah aX w F d u C H c (ab a os) (λY b=>updF b) 0 ntkF (λY Y=>[]) (λY b=>resF b) (λY b=>gF b):=
 ah.PZ j y i (λe b h=>x e b h▸iw (A e b h)) z B (λb=>by
  rw [<-x (λY=>0) (λY=>0) b,<-q];exact kc) o r s
end
theorem a7.turn {w:World} {F:aA} (J:a7) (G:Le (top w.2) F) (H:bH w F J.O) (t:J.Runs w) (I:ip J.facts) (a:P4) (l:P7) (k:List (Nat⊕Nat)) (i:P1)
  {m:Nat} {n:P2->P7} {y:P2->Qb} {o:P2->hZ} {s:P4->Code} {upd2:P4->P2->P2->P7}
  (L:∀u d b,Le F u->(∀g∈J.gF (ae J.k a) d b,∀q,Le u q->g q)->ah aX w u J.d J.u (J.B (ae J.k a)) J.Hd (s d) (ab (bt a d k) (iu (J.uF (ae J.k a) d b++l) (J.nF (ae J.k a) d b) k)) (λY h=>upd2 d b h) 0 m (λY Y=>[]) (λY b=>o b) (λY b=>y b))
  (N:∀id c z C x,J.X id c z C=some x->x.Ok aX w c z C:=by exact nN) (hfro:∀j x,J.Py j=some x->F x.1=some x.2:=by exact bL)
  (p:∀d b h,(rU (J.uF (ae J.k a) d b++l) (upd2 d b h) i 0,lF k i.length k.length i 0,qs k i.length J.nn (J.uF (ae J.k a) d b++l) (J.nF (ae J.k a) d b),(upd2 d b h).length,J.rF (ae J.k a) d b,(J.uF (ae J.k a) d b).length+l.length)=(n h,true,true,k.length,.again (s d),i.length):=by intros;kernel_rfl)
  (v:∀f,(J.oF f).length=J.k:=by exact λY=>rfl) (O:(J.idx++J.Px).length=J.nn:=by exact rfl) (Q:dQ (J.idx++J.Px)=true:=by exact rfl) (r:k.Nodup:=by decide) (T:J.k+l.length=i.length:=by exact rfl):
  ah aX w F J.d J.u (J.B (ae J.k a)) J.Hd (J.cF (ae J.k a)) (ab a (J.oF (ae J.k a)++l)) (λY b=>n b) 0 m (λY Y=>[]) (λY b=>o b) (λY b=>y b):=by
 have e:∀d b,J.rF (ae J.k a) d b= .again (s d):=λd b=>congrArg (·.2.2.2.2.1) (p d b b);have A:∀d b,(J.uF (ae J.k a) d b).length+l.length=i.length:=λd b=>congrArg (·.2.2.2.2.2) (p d b b);have B:∀d b,(J.uF (ae J.k a) d b++l).length=i.length:=λd b=>List.length_append.trans (A d b);have lo:(J.oF (ae J.k a)++l).length=i.length:=by rw [List.length_append,v];exact T
 have D:∀d b h,(upd2 d b h).length=k.length:=λd b h=>congrArg (·.2.2.2.1) (p d b h);have E:=(J.Pu G H t (ag I) a N hfro v O Q).frame l λd b=>by have:=A d b;simp only [v];lia
 simp only [show J.rF (ae J.k a)=λd Y=>.again (s d) from funext λd=>funext λb=>e d b] at E
 exact ah.PC k i E upd2 L (λd b h=>congrArg (·.1) (p d b h)) (λd b h=>by rw [B,D];exact congrArg (·.2.1) (p d b h)) (λd b=>(B d b).trans lo.symm) lo.symm r (λd b=>by rw [lo];exact congrArg (·.2.2.1) (p d b b)) D
section
variable {w:World} {F:aA} {d u:Nat} {C:P8} {H:P6} {c:Code} {a:P4} {f:P7} {n q:Nat} {l m:P4->P2->P7} {k:P4->P2->Qb}
theorem ah.giveUp (j:Nat) {o:Obj} {upd':P4->P2->P7} {I:P4->P2->hZ} (h:ah aX w F d u C H c (ab a f) l n q m I k) (Px:∀t v,∃r,I t v= .end_ r)
  (Q:∀t v,(l t v)[j]? =some o) (ho:o.isFreed=false) (J:j<f.length) (hu:∀t v,upd' t v=(l t v).set j av) (T:∀t v,(m t v).length<=n):
  ah aX w F d u C H c (ab a f) upd' n q m I (λt v=>(λF=>F (a j)=some o)::k t v):=by
 intro A s R hH hd Pn hB U V hR;refine h A s R hH hd Pn hB U V λs' t v F' G Y Po X=>?_;have Pp:f[j]? =some f[j]:=List.getElem?_eq_getElem J;have sj:(ab a f)[j]? =some (a j,f[j]):=by rw [aw,Pp];rfl
 have y:=U _ (List.mem_of_getElem? sj);have hx:=X.upd j _ o sj (Q _ _) ho;have Pm:∀i,i<f.length->a i=a j->i=j:=λi hi e=>by
  have g:∀i (h:i<f.length),((ab a f).map (·.1))[i]? =some (a i):=λi h=>by
   rw [List.getElem?_map,aw,List.getElem?_eq_getElem h];rfl
  have l1:((ab a f).map (·.1)).length=f.length:=by rw [List.length_map];unfold ab;rw [List.length_map,List.length_zipIdx]
  have g1:=g i hi;have g2:=g j J;rw [List.getElem?_eq_getElem (by rw [l1];exact hi)] at g1
  rw [List.getElem?_eq_getElem (by rw [l1];exact J)] at g2
  exact gG V ((Option.some.inj g1).trans (e.trans (Option.some.inj g2).symm))
 have Pq:F' (a j)=none:=dU G y.1 y.2 (by
  rintro ⟨i,p,z,q1,N,O,q4⟩;rw [aw] at q1;obtain ⟨o3,Pt,rfl⟩:=Option.map_eq_some_iff.mp q1;have:=Pm i (List.getElem?_eq_some_iff.mp Pt).1 q4.symm;cases this;rw [Q] at N;cases N;rw [ho] at O;cases O)
 have le:Le F' (λb=>if b=a j then some o else F' b):=λb z e=>by
  dsimp only;by_cases D:b=a j
  ·rw [D,Pq] at e;cases e
  ·rw [if_neg D];exact e
 have L:fN (ab a f) (upd' (ae n t) (ae q v)) (a j):=by
  refine ⟨j,(a j,f[j]),av,sj,?_,rfl,rfl⟩;rw [hu,List.getElem?_set_self (List.getElem?_eq_some_iff.mp (Q _ _)).1]
 have alive:∀i z,(upd' (ae n t) (ae q v))[i]? =some z->z.isFreed=false->i≠j/\(l (ae n t) (ae q v))[i]? =some z:=λi z h hf=>by
  rw [hu] at h;by_cases B:i=j
  ·cases B
   rw [List.getElem?_set_self (List.getElem?_eq_some_iff.mp (Q _ _)).1] at h;cases h;cases hf
  ·rw [List.getElem?_set_ne (Ne.symm B)] at h
   exact ⟨B,h⟩
 refine hR s' t v (λb=>if b=a j then some o else F' b) ⟨G.le.trans le,λb z e=>?_,λb z e=>?_⟩ (λi hi=>?_) (λg hg Pu E=>?_) ⟨X.keep,λi p z hp Pw hf=>X.upd i p z hp (alive i z Pw hf).2 hf,X.new,X.fresh,X.below,X.inj,X.size,X.life,X.gens,X.drawn,X.os⟩
 ·by_cases D:b=a j
  ·rw [if_pos D] at e;cases e;rw [D];exact hx
  ·rw [if_neg D] at e;exact G.base b z e
 ·by_cases D:b=a j
  ·rw [D];exact .inr (.inr L)
  ·rw [if_neg D] at e
   rcases G.new b z e with x|x|⟨i,p,o3,q1,N,O,q4⟩
   ·exact .inl x
   ·exact .inr (.inl x)
   ·by_cases B:i=j
    ·cases B
     rw [Q] at N;cases N;rw [ho] at O;injection O
    ·exact .inr (.inr ⟨i,p,o3,q1,by rw [hu,List.getElem?_set_ne (Ne.symm B)];exact N,O,q4⟩)
 ·rw [if_neg]
  ·exact Y i hi
  ·intro e
   have y1:=X.fresh i (Nat.lt_of_lt_of_le hi (T _ _));have y2:=Heap.lt_size y.1;rw [e] at y1;exact absurd y2 (Nat.not_lt.mpr y1)
 ·rcases List.mem_cons.mp hg with rfl|hg
  ·exact E _ _ (if_pos rfl)
  ·exact Po g hg Pu (le.trans E)
end
end
noncomputable def w8:List Nat->P1
 |[]=>[]
 |a::l=>(a+1)::l
noncomputable def jI:Nat->Nat->P1
 |0,_=>[]
 |k+1,n=>match n%2 with
  |0=>match n with
   |0=>[]
   |_=>w8 (jI k (n/2))
  |_=>0::jI k (n/2)
@[irreducible] def jJ (n:Nat):P1:=jI (n+1) n
theorem m6:∀(k n:Nat),n<k->jI (k+1) n=jI k n
 |0,n,h=>absurd h (Nat.not_lt_zero _)
 |k+1,n,h=>by
  cases n with
  |zero=>rfl
  |succ n=>
   have a:=m6 k ((n+1)/2) (by lia)
   show (match (n+1)%2 with|0=>_|_=>_)=(match (n+1)%2 with|0=>_|_=>_)
   rw [a]
theorem td {n:Nat}:∀k,n<k->jI k n=jI (n+1) n:=by
 intro k h
 induction k with
 |zero=>lia
 |succ k b=>
  by_cases a:n<k
  ·rw [m6 k n a,b a]
  ·have:k=n:=by lia
   rw [this]
theorem w9 (n:Nat):jJ (2*n+1)=0::jJ n:=by
 unfold jJ;show (match (2*n+1)%2 with|0=>(match 2*n+1 with|0=>[]|_=>w8 (jI (2*n+1) ((2*n+1)/2)))|_=>0::jI (2*n+1) ((2*n+1)/2))=_
 have a:(2*n+1)%2=1:=by lia
 have b:(2*n+1)/2=n:=by lia
 rw [a,b];show 0::jI (2*n+1) n=_;rw [td (2*n+1) (by lia)]
theorem tZ (n:Nat):jJ (2*(n+1))=w8 (jJ (n+1)):=by
 unfold jJ;show (match (2*(n+1))%2 with|0=>(match 2*(n+1) with|0=>[]|_=>w8 (jI (2*(n+1)) (2*(n+1)/2)))|_=>0::jI (2*(n+1)) (2*(n+1)/2))=_
 have a:(2*(n+1))%2=0:=by lia
 have b:(2*(n+1))/2=n+1:=by lia
 rw [a,b];show w8 (jI (2*(n+1)) (n+1))=_;rw [td (2*(n+1)) (by lia)]
theorem eX:∀(a:Nat) (l:P1),(∃n,jJ n=l)->∃n,jJ n=a::l
 |0,l,⟨n,h⟩=>⟨2*n+1,by rw [w9,h]⟩
 |a+1,l,h=>by
  obtain ⟨n,b⟩:=eX a l h;cases n with
  |zero=>
   have:jJ 0=[]:=by unfold jJ;rfl
   rw [this] at b;cases b
  |succ n=>exact ⟨2*(n+1),by rw [tZ,b];rfl⟩
theorem lG:∀l:P1,∃n,jJ n=l
 |[]=>⟨0,by unfold jJ;rfl⟩
 |a::l=>eX a l (lG l)
def ar (n:Nat):P5:=(jJ n).map Value.ref
inductive ck {α β:Type} (R:α->β->Prop):List α->List β->Prop
 |nil:ck R [] []
 |cons {a:α} {b:β} {l:List α} {m:List β}:R a b->ck R l m->ck R (a::l) (b::m)
abbrev af:=List Nat×P9
def cA (v:P9) (t:Tok):Value:=match v with
 |none=>.none
 |some s=>.str (mk s) t
def br (F:aA) (v:Value) (p:af):Prop:=∃a t b,v= .ref a/\F a=some (az [.str (mk p.1) t,cA p.2 b])
def aM (F:aA) (l:P5) (c:List af):Prop:=ck (br F) l c
def DD (F:aA) (v:Value) (c:List af):Prop:=∃b l n,v= .ref b/\F b=some (aa l n)/\aM F l c
def cq (F:aA) (l:P5) (a:List (List af)):Prop:=ck (DD F) l a
def OP (F:aA) (a:Addr) (b:List (List af)):Prop:=∃l n,F a=some (aa l n)/\cq F l b
theorem ck.imp {α β:Type} {R S:α->β->Prop} (h:∀a b,R a b->S a b) {l:List α} {m:List β} (x:ck R l m):ck S l m:=by
 induction x with
 |nil=>exact .nil
 |cons a _ c=>exact .cons (h _ _ a) c
theorem br.le {F b:aA} (h:Le F b) {v:Value} {p:af} (x:br F v p):br b v p:=by
 obtain ⟨a,t,c,e,f⟩:=x;exact ⟨a,t,c,e,h _ _ f⟩
theorem aM.le {F a:aA} (h:Le F a) {l:P5} {c:List af} (x:aM F l c):aM a l c:=ck.imp (λY Y=>br.le h) x
theorem DD.le {F a:aA} (h:Le F a) {v:Value} {c:List af} (x:DD F v c):DD a v c:=by
 obtain ⟨b,l,n,e,f,g⟩:=x;exact ⟨b,l,n,e,h _ _ f,g.le h⟩
theorem cq.le {F a:aA} (h:Le F a) {l:P5} {c:List (List af)} (x:cq F l c):cq a l c:=ck.imp (λY Y=>DD.le h) x
theorem ck.len {α β:Type} {R:α->β->Prop} {l:List α} {m:List β} (x:ck R l m):l.length=m.length:=by
 induction x with
 |nil=>rfl
 |cons _ _ a=>simp [a]
theorem i6 {F:aA} {l:P5} {c:List (List af)} (h:cq F l c):∃n,ar n=l:=by
 have:∃a:P1,a.map Value.ref=l:=by
  induction h with
  |nil=>exact ⟨[],rfl⟩
  |cons h _ d=>
   obtain ⟨a,e⟩:=d;obtain ⟨b,_,_,rfl,_⟩:=h;exact ⟨b::a,by rw [List.map_cons,e]⟩
 obtain ⟨a,e⟩:=this;obtain ⟨n,f⟩:=lG a;exact ⟨n,by unfold ar;rw [f,e]⟩
theorem cX {F:aA} {l:P5} {c:List af} (h:aM F l c):∃n,ar n=l:=by
 have:∃a:P1,a.map Value.ref=l:=by
  induction h with
  |nil=>exact ⟨[],rfl⟩
  |cons h _ d=>
   obtain ⟨a,e⟩:=d;obtain ⟨b,_,_,rfl,_⟩:=h;exact ⟨b::a,by rw [List.map_cons,e]⟩
 obtain ⟨a,e⟩:=this;obtain ⟨n,f⟩:=lG a;exact ⟨n,by unfold ar;rw [f,e]⟩
structure TS where
 st:P9
 pb:Option Nat
 r:P1
 k:Int
 nm:Bool
 tok:P1
 C:List af
 D:List (List af)
 rv:Option (List Nat×P1)
structure TF where
 L:List (List af)
 rf:Bool
 nm:Bool
 rv:Option (List Nat×P1)
noncomputable def f9 (l:P1):Prop:=l=[59]\/l=[44]
noncomputable def dZ (a:P9) (b:Option Nat):Prop:=(a=some [32]/\b=none)\/(a=some [32]/\∃p,b=some p)\/(a=none/\b=none)
inductive TR (buf buf2:P1):Bool->TS->TF->Prop
 |stop (en:Bool) {st pb r k nm C D rv}:TR buf buf2 en ⟨st,pb,r,k,nm,[],C,D,some rv⟩ ⟨C::D,true,nm,some rv⟩
 |name (o:GO) (en:Bool) (f:TF) {st pb r k nm tok C D rv}:tok≠[]->tok≠[61]->tok≠[59]->tok≠[44]->C.length<=900->tok.length<=900->GR WN [] buf buf2 st pb r k o en->
   TR buf buf2 en ⟨o.st,o.pb,o.r,o.k,true,o.w,(tok,none)::C,D,some rv⟩ f->TR buf buf2 false ⟨st,pb,r,k,nm,tok,C,D,some rv⟩ f
 |semi (o:GO) (en:Bool) (f:TF) {st pb r k nm C D rv}:GR WN [] buf buf2 st pb r k o en->
   TR buf buf2 en ⟨o.st,o.pb,o.r,o.k,false,o.w,C,D,some rv⟩ f->TR buf buf2 false ⟨st,pb,r,k,nm,[59],C,D,some rv⟩ f
 |eq (o:GO) (en:Bool) (f:TF) {st pb r k C D rv}:GR WN [] buf buf2 st pb r k o en->
   TR buf buf2 en ⟨o.st,o.pb,o.r,o.k,false,o.w,C,D,some rv⟩ f->TR buf buf2 false ⟨st,pb,r,k,false,[61],C,D,some rv⟩ f
 |comma (o:GO) (en:Bool) (f:TF) {st pb r k nm C D rv}:D.length<900->GR WN [] buf buf2 st pb r k o en->
   TR buf buf2 en ⟨o.st,o.pb,o.r,o.k,false,o.w,[],C::D,some rv⟩ f->TR buf buf2 false ⟨st,pb,r,k,nm,[44],C,D,some rv⟩ f
 |sep (p:af) (C:List af) (c:Nat) (r1:P1) (f:TF) {r k D rv}:(c=59\/c=44)->GR WR [] buf buf2 (some [32]) none r k ⟨[c],some [32],r1,none,k⟩ false->
   TR buf buf2 false ⟨some [32],none,r1,k,false,[c],(p.1,some [])::C,D,some ([c],[])⟩ f->TR buf buf2 false ⟨some [32],none,r,k,true,[61],p::C,D,some rv⟩ f
 |fin (p:af) (C:List af) (f:TF) {r k D rv}:GR WR [] buf buf2 (some [32]) none r k ⟨[],none,[],none,k⟩ true->
   TR buf buf2 true ⟨none,none,[],k,false,[],(p.1,some [])::C,D,some ([],[])⟩ f->TR buf buf2 false ⟨some [32],none,r,k,true,[61],p::C,D,some rv⟩ f
 |word (p:af) (C:List af) (c:Nat) (l1:P1) (st1:P9) (pb1:Option Nat) (r1:P1) (o:GO) (en:Bool) (f:TF) {r k D rv}:¬f9 (c::l1)->(c::l1).length<=900->dZ st1 pb1->
   GR WR [] buf buf2 (some [32]) none r k ⟨c::l1,st1,r1,pb1,k⟩ false->GR WN [] buf buf2 st1 pb1 r1 k o en->
   TR buf buf2 en ⟨o.st,o.pb,o.r,o.k,false,o.w,(p.1,some (c::l1))::C,D,some (c::l1,c::l1)⟩ f->TR buf buf2 false ⟨some [32],none,r,k,true,[61],p::C,D,some rv⟩ f
inductive TA (buf:P1):TS->TF->Prop
 |stop {st pb r k nm C D rv}:TA buf ⟨st,pb,r,k,nm,[],C,D,rv⟩ ⟨C::D,false,nm,rv⟩
 |name (o:GO) (f:TF) {st pb r k nm tok C D rv}:tok≠[]->tok≠[61]->tok≠[59]->tok≠[44]->C.length<=900->tok.length<=900->GA WN [] buf st pb r k o->
   TA buf ⟨o.st,o.pb,o.r,o.k,true,o.w,(tok,none)::C,D,rv⟩ f->TA buf ⟨st,pb,r,k,nm,tok,C,D,rv⟩ f
 |semi (o:GO) (f:TF) {st pb r k nm C D rv}:GA WN [] buf st pb r k o->
   TA buf ⟨o.st,o.pb,o.r,o.k,false,o.w,C,D,rv⟩ f->TA buf ⟨st,pb,r,k,nm,[59],C,D,rv⟩ f
 |eq (o:GO) (f:TF) {st pb r k C D rv}:GA WN [] buf st pb r k o->
   TA buf ⟨o.st,o.pb,o.r,o.k,false,o.w,C,D,rv⟩ f->TA buf ⟨st,pb,r,k,false,[61],C,D,rv⟩ f
 |comma (o:GO) (f:TF) {st pb r k nm C D rv}:D.length<900->GA WN [] buf st pb r k o->
   TA buf ⟨o.st,o.pb,o.r,o.k,false,o.w,[],C::D,rv⟩ f->TA buf ⟨st,pb,r,k,nm,[44],C,D,rv⟩ f
 |sep (p:af) (C:List af) (c:Nat) (r1:P1) (f:TF) {r k D rv}:(c=59\/c=44)->VA buf k r ⟨[c],some [32],r1,none,k⟩->
   TA buf ⟨some [32],none,r1,k,false,[c],(p.1,some [])::C,D,some ([c],[])⟩ f->TA buf ⟨some [32],none,r,k,true,[61],p::C,D,rv⟩ f
 |fin (p:af) (C:List af) (f:TF) {r k D rv}:VA buf k r ⟨[],none,[],none,k⟩->
   TA buf ⟨none,none,[],k,false,[],(p.1,some [])::C,D,some ([],[])⟩ f->TA buf ⟨some [32],none,r,k,true,[61],p::C,D,rv⟩ f
 |word (p:af) (C:List af) (c:Nat) (l1:P1) (st1:P9) (pb1:Option Nat) (r1:P1) (o:GO) (f:TF) {r k D rv}:c≠34->¬f9 (c::l1)->(c::l1).length<=900->dZ st1 pb1->
   VA buf k r ⟨c::l1,st1,r1,pb1,k⟩->GA WN [] buf st1 pb1 r1 k o->
   TA buf ⟨o.st,o.pb,o.r,o.k,false,o.w,(p.1,some (c::l1))::C,D,some (c::l1,c::l1)⟩ f->TA buf ⟨some [32],none,r,k,true,[61],p::C,D,rv⟩ f
 |PR (p:af) (C:List af) (b m r1:P1) (o:GO) (f:TF) {r k D rv}:b.length<=800->bX b m->
   VA buf k r ⟨34::(b++[34]),some [32],r1,none,k⟩->GA WN [] buf (some [32]) none r1 k o->
   TA buf ⟨o.st,o.pb,o.r,o.k,false,o.w,(p.1,some m)::C,D,some (34::(b++[34]),m)⟩ f->TA buf ⟨some [32],none,r,k,true,[61],p::C,D,rv⟩ f
 |refuse (p:af) (C:List af) (full l1:P1) (st1:P9) (pb1:Option Nat) (r1 nx1:P1) (qd1:Bool) (o:GO) (en:Bool) (f:TF) {r k D rv}:(34::l1).length<=900->dZ st1 pb1->
   VX buf r full->aF WR [] full (some [32]) [] full ⟨34::l1,st1,r1,pb1,nx1,qd1⟩->GR WN [] full buf st1 pb1 r1 k o en->
   TR full buf en ⟨o.st,o.pb,o.r,o.k,false,o.w,(p.1,some (34::l1))::C,D,some (34::l1,34::l1)⟩ f->TA buf ⟨some [32],none,r,k,true,[61],p::C,D,rv⟩ f
theorem aM.split {F:aA} {l:P5} {p:af} {C:List af} {G:List Value->Prop} (h:aM F l (p::C)) (H:∀a b c l,F a=some (az [.str (mk p.1) b,cA p.2 c])->aM F l C->G (.ref a::l)):G l:=by
 cases h with
 |cons e f=>
  obtain ⟨a,b,c,rfl,d⟩:=e;exact H a b c _ d f
theorem dZ.split {a:P9} {b:Option Nat} {G:Option P1->Option Nat->Prop} (h:dZ a b) (c:G (some [32]) none) (d:∀p,G (some [32]) (some p)) (e:G none none):G a b:=by
 rcases h with ⟨rfl,rfl⟩|⟨rfl,p,rfl⟩|⟨rfl,rfl⟩
 ·exact c
 ·exact d p
 ·exact e
section
section
variable {w:World} {F:aA} {B:P8} {a:P4} {t u v z:P2} {N:Int} {x L:Tok} {j E q:P1} {y:Array P6} {l I:P5} {J p:Nat}
def BJ (w:World) (t u v z:P2) (x L:Tok) (N:Int) (j E q:P1) (b:Bool) (s:TS) (y:Array P6) (I:P5) (p:Nat) (l:P5) (J:Nat) (a:P4):P7:=
 [ax (a 1),ay w.2 t (rn b a) (a 2) (a 5) WN [] s.st [],cC s.pb s.k x,aj (a 4),d7 w.2 u E (ai E s.r) b,mw b N (a 6),az [.none,.ref (a 7),.int 1 L],aj (a 8),ao w.2 v q (ai q []),
  a8 w.2 z (a 0) (a 10) j s.nm true s.tok s.rv y,aa (.ref (a 11)::I) p,aa l J]
def NB (w:World) (b:P2) (j:P1) (f:TF) (y:Array P6) (a:P4):P7:=
 [av,av,av,av,av,av,av,av,av,a8 w.2 b (a 0) (a 10) j f.nm true [] f.rv y,aa (ar (b 16)) (b 17),av]
noncomputable def zM (t:P2) (n m i:Nat):Tok:=match Nat.beq i 16 with
 |true=>n
 |false=>match Nat.beq i 17 with
  |true=>m
  |false=>t i
def EV (w:World) (F:aA) (B:P8) (a:P4) (c:P7) (j:P1) (f:TF) (y:Array P6):Prop:=
 ah aX w F 150 1500 B none (a9 (ae 12 a 9)) (ab a c) (λY b=>NB w b j f y (ae 12 a)) 0 18 (λY Y=>[]) (λY Y=>.end_ (.ok .next)) (λY b=>[λF=>cq F (ar (b 16)) f.L])
theorem H2 {P:Params} {d e:Addr} {f g:Bool} {b:P1} {c:Option (List Nat×P1)}:∀z:Nat->Tok,a8 P (ae 16 z) d e j f g b c y=a8 P z d e j f g b c y:=λz=>by
 unfold a8;cases c<;>kernel_rfl
theorem ah.Pw {d u Q T:Nat} {C:P8} {H:P6} {c:Code} {U:Qa} {e f:P4->P2->P7} {i:P4->P2->hZ} {b gives':P4->P2->Qb}
  (h:ah aX w F d u C H c U e Q T f i b) (Y:∀ad o k,Le F k->(∀g∈b ad o,g k)->∀g∈gives' ad o,g k):ah aX w F d u C H c U e Q T f i gives':=
 λA s R h0 h1 h2 h3 h4 h5 hR=>h A s R h0 h1 h2 h3 h4 h5 λs' r o k G m D X=>hR s' r o k G m (λg O n V=>Y _ _ n (G.le.trans V) (λg' hm=>D g' hm n V) g O) X
theorem xa {b:P4} {d e:Addr} {f g:Bool} {c:Option (List Nat×P1)} (k:Le (top w.2) F):ah aX w F 150 1500 B none (a9 (ae 1 b 0)) (ab b [a8 w.2 v d e j f g [] c y]) (λY i=>[a8 w.2 i d e j f g [] c y]) 0 16 (λY Y=>[]) (λY Y=>.end_ (.ok .next)) (λY Y=>[]):=by
 exact ah.Pt (λY i=>Bu v i) ((HF w d e j f g y c v B).Pu k cG HG (λY h=>by cases h) b) (λY Y=>by cases c<;>kernel_rfl) (λY Y=>rfl) (λY Y=>rfl) (λY Y=>rfl)
theorem zN {A:Bool} {G:P9} {O:Option Nat} {r:P1} {k:Int} {h:Bool} {C:List af} {D:List (List af)} {f:Option (List Nat×P1)} (hT:Le (top w.2) F) (hl:aM F l C) (i:cq F I D):
  EV w F B a (BJ w t u v z x L N j E q A ⟨G,O,r,k,h,[],C,D,f⟩ y I p l J (ae 12 a)) j ⟨C::D,true,h,f⟩ y:=by
 have h1:=ah.refl (w:=w) (F:=F) (d:=150) (u:=1500) (Pm:=0) (C:=B) (H:=none) (c:=a9 (ae 12 a 9)) (a:=a) (os:=BJ w t u v z x L N j E q A ⟨G,O,r,k,h,[],C,D,f⟩ y I p l J (ae 12 a)) (upd:=λ_ _=>BJ w t u v z x L N j E q A ⟨G,O,r,k,h,[],C,D,f⟩ y I p l J (ae 12 a)) (λ_=>0) (λ_=>rfl);have h2:=ah.PC [.inl 9] [0,0,0,0,0,0,0,0,0,1,100,100] (ntkF:=16) (updF:=λb=>[av,av,av,av,av,av,av,av,av,a8 w.2 b (ae 12 a 0) (ae 12 a 10) j h true [] f y,aa (.ref (ae 12 a 11)::I) p,aa l J]) (gF:=λ_=>[]) (resF:=λ_=>.end_ (.ok .next)) h1 (λ_ _ b=>[a8 w.2 b (ae 12 a 0) (ae 12 a 10) j h true [] f y])
  (λQ T b s _=>xa (hT.trans s))
 have h3:=h2.giveUp 11 (o:=aa l J) (λ_ _=>⟨_,rfl⟩) (λ_ _=>rfl) rfl (by show _<12;decide) (upd':=λ_ b=>[av,av,av,av,av,av,av,av,av,a8 w.2 b (ae 12 a 0) (ae 12 a 10) j h true [] f y,aa (.ref (ae 12 a 11)::I) p,av]) (λ_ _=>rfl) (λ_ _=>Nat.le_refl _)
 obtain ⟨e,V⟩:∃n,ar n= .ref (a 11)::I:=by
  obtain ⟨n,Y⟩:=i6 i;obtain ⟨m,hm⟩:=eX (a 11) _ ⟨n,rfl⟩;exact ⟨m,by unfold ar at Y⊢;rw [hm,List.map_cons,Y]⟩
 have h4:=h3.Pw (gives':=λ_ _=>[λQ=>cq Q (.ref (a 11)::I) (C::D)]) λT b Q s hg g U=>by
  cases List.mem_singleton.mp U;exact .cons ⟨a 11,l,J,rfl,hg _ List.mem_cons_self,hl.le s⟩ (i.le s)
 exact ah.Pt (λ_ b=>zM b e p) h4 (λT b=>by
  show [av,av,av,av,av,av,av,av,av,a8 w.2 (ae 18 (zM b e p)) (a 0) (a 10) j h true [] f y,aa (ar e) p,av]=_;rw [V];cases f<;>kernel_rfl) (λ_ _=>rfl) (λ_ _=>rfl) (λT b=>by
  show [λF=>cq F (ar e) _]=_;rw [V])
end
end
section
section
variable {w:World} {F:aA} {B:P8} {a:P4} {t u v z:P2} {k2:Int} {x x2:Tok} {text buf buf2:P1} {sl:Array P6} {l ll:P5} {nl nll:Nat}
theorem de {l m:P1} (h:l≠m):((mk l).cps.toList==(mk m).cps.toList)=false:=by
 rw [vj];exact beq_false_of_ne h
theorem BK {l:P1} (h:l≠[]):((mk l).cps.toList != (mk []).cps.toList)=true:=by
 unfold bne;rw [de h];rfl
theorem H3 {l:P1} (b:l≠[61]) (c:l≠[59]) (d:l≠[44]):([Qc [61],Qc [59],Qc [44]]).any (aU (mk l))=false:=by
 simp only [List.any_cons,List.any_nil,aU,de b.symm,de c.symm,de d.symm,Bool.or_self]
noncomputable def lH:List (Nat⊕Nat):=[.inl 0,.inl 1,.inl 2,.inl 3,.inl 4,.inl 5,.inl 6,.inl 7,.inl 8,.inl 9,.inl 10,.inl 11]
noncomputable def NC:List (Nat⊕Nat):=[.inl 0,.inl 1,.inl 2,.inl 3,.inl 4,.inl 5,.inl 6,.inl 7,.inl 8,.inl 9,.inl 10,.inr 0]
theorem Kp (b:Le (top w.2) F) {c:P9} {d:Option Nat} {r:P1} {k:Int} {o:GO} {e:Bool}:bH w F (oT [] (aC [([],lr w t x k k2 WN [] c d buf r buf2 o e),([],bg l),([],aV ll),([],cT ll)])):=
 bh (aI ⟨λY f=>qp (b.trans f),λY Y=>bS,λY Y=>cf,λY Y=>lE,trivial⟩)
theorem te {c:Nat} (h:c=59\/c=44):([Qc [59],Qc [44],Qc []]).any (aU (mk [c]))=true:=by
 rcases h with rfl|rfl<;>decide
theorem tf {c:Nat} (h:c=59\/c=44):([Qc [59],Qc [44]]).any (aU (mk [c]))=true:=by
 rcases h with rfl|rfl<;>decide
theorem jK {l:P1} (h:¬f9 l):([Qc [59],Qc [44]]).any (aU (mk l))=false:=by
 have b:l≠[59]:=λe=>h (.inl e);have c:l≠[44]:=λe=>h (.inr e);simp only [List.any_cons,List.any_nil,aU,de b.symm,de c.symm,Bool.or_self]
theorem jL {l:P1} (h:¬f9 l) (b:l≠[]):([Qc [59],Qc [44],Qc []]).any (aU (mk l))=false:=by
 have c:l≠[59]:=λe=>h (.inl e);have d:l≠[44]:=λe=>h (.inr e);simp only [List.any_cons,List.any_nil,aU,de c.symm,de d.symm,de b.symm,Bool.or_self]
theorem bc {F:aA} {b:Addr} {c:Obj} (h:F b=some c):∀j x,cW b c j=some x->F x.1=some x.2:=by
 intro j x e;unfold cW at e;cases j with
 |zero=>cases e;exact h
 |succ j=>injection e
theorem ND (d:Le (top w.2) F) {k:Int} {c:Addr} {r:P1} {o:GO} {e:Bool} {b:List Str}:bH w F (oT b (aC [([],aV ll),([],bj c l),([],bB c l),([],fY w k k2 WN [] buf r buf2 o e)])):=
 bh (aI ⟨λY Y=>cf,λY Y=>cV,λY Y=>dp,λY f=>qq (d.trans f),trivial⟩)
theorem EW (e:Le (top w.2) F) {k:Int} {f:Addr} {r g:P1} {o o2:GO} {h c:Bool} {b:List Str} {i:P9} {j:Option Nat}:bH w F (oT b (aC [([],aV ll),([],bj f l),([],bB f l),([],fY w k k2 WN [] buf r buf2 o h),([],cz w k k2 WN [] i j buf g buf2 o2 c)])):=
 bh (aI ⟨λY Y=>cf,λY Y=>cV,λY Y=>dp,λY d=>qq (e.trans d),λY d=>gK (e.trans d),trivial⟩)
theorem cH (c:Nat) (l:P1):Txt.slice (mk (c::l)) none (some (1:Int))=mk [c]:=by
 rw [iQ (by decide) (by simp;lia)];rfl
def ov (w:World) (B:P8) (k2:Int) (text buf buf2:P1) (sl:Array P6) (b:Bool) (s:TS) (f:TF):Prop:=∀{F:aA} (_:Le (top w.2) F) {a:P4} {t u v z:P2} {x x2:Tok} {l ll:P5} {nl nll:Nat},aM F l s.C->cq F ll s.D->
  EV w F B a (BJ w t u v z x x2 k2 text buf buf2 b s sl ll nll l nl (ae 12 a)) text f sl
section
variable {o:GO} {h:Bool} {f:TF} {n:P9} {q:Option Nat} {r m:P1} {k:Int} {s:Bool} {j:P1} {C:List af} {D:List (List af)} {b:List Nat×P1} {p:af} {c:Nat} {i:P1} {g:P9} {d:Option Nat}
theorem zO (E:GR WN [] buf buf2 n q r k o h) (G:ov w B k2 text buf buf2 sl h ⟨o.st,o.pb,o.r,o.k,false,o.w,C,D,some b⟩ f):ov w B k2 text buf buf2 sl false ⟨n,q,r,k,s,[59],C,D,some b⟩ f:=
 λ{F} e {a t u v z x x2 l ll nl nll} H y=>(HJ w buf r buf2 n q x k k2 x2 text sl l nl ll nll b.1 b.2 s o h t u v z B).turn e (Kp e) HK ⟨rfl,E,by decide,by decide,trivial⟩ a [] lH [0,0,0,0,0,0,0,0,0,10,11,0]
  λI J L A Y=>G (e.trans A) (H.le A) (y.le A)
theorem H4 (E:GR WN [] buf buf2 n q r k o h) (G:ov w B k2 text buf buf2 sl h ⟨o.st,o.pb,o.r,o.k,false,o.w,C,D,some b⟩ f):ov w B k2 text buf buf2 sl false ⟨n,q,r,k,false,[61],C,D,some b⟩ f:=
 λ{F} e {a t u v z x x2 l ll nl nll} H y=>(HL w buf r buf2 n q x k k2 x2 text sl l nl ll nll b.1 b.2 false o h t u v z B).turn e (Kp e) HM ⟨rfl,E,by decide,by decide,trivial⟩ a [] lH [0,0,0,0,0,0,0,0,0,10,11,0]
  λI J L A Y=>G (e.trans A) (H.le A) (y.le A)
theorem zP (J:j≠[]) (E:j≠[61]) (L:j≠[59]) (G:j≠[44]) (N:C.length<=900) (U:j.length<=900) (O:GR WN [] buf buf2 n q r k o h) (Q:ov w B k2 text buf buf2 sl h ⟨o.st,o.pb,o.r,o.k,true,o.w,(j,none)::C,D,some b⟩ f):ov w B k2 text buf buf2 sl false ⟨n,q,r,k,s,j,C,D,some b⟩ f:=
 λ{F} e {a t u v z x x2 l ll nl nll} H y=>(HH w buf r buf2 n q x k k2 x2 text sl l nl ll nll b.1 b.2 s o h j t u v z B).turn e (Kp e) HI ⟨rfl,O,de G,rfl,by rw [H.len];exact Nat.le_trans N (by decide),rfl,rfl,H3 E L G,de E,BK J,trivial⟩ a [] lH [0,0,0,0,0,0,0,0,0,10,11,0]
  λI V Y A T=>Q (e.trans A) (.cons ⟨_,_,0,rfl,T _ (List.mem_singleton.mpr rfl) I (Le.refl I)⟩ (aM.le A H)) (y.le A)
theorem xb (I:D.length<900) (J:GR WN [] buf buf2 n q r k o h) (L:ov w B k2 text buf buf2 sl h ⟨o.st,o.pb,o.r,o.k,false,o.w,[],C::D,some b⟩ f):ov w B k2 text buf buf2 sl false ⟨n,q,r,k,s,[44],C,D,some b⟩ f:=
 λ{F} y {a t u v z x x2 l ll nl nll} N e=>(HN w buf r buf2 n q x k k2 x2 text sl l nl ll nll b.1 b.2 s o h t u v z B).turn y (Kp y) HO ⟨rfl,J,rfl,by rw [e.len];exact Nat.lt_trans I (by decide),by decide,by decide,trivial⟩ a [] NC [0,0,0,0,0,0,0,0,0,10,11,0] (upd2:=λE Y G=>NB w G text f sl (ae 12 (bt a E NC)))
  λH E G A O=>L (y.trans A) .nil (.cons ⟨_,l,nl,rfl,O _ (List.mem_singleton.mpr rfl) H (Le.refl H),N.le A⟩ (e.le A))
theorem DE (I:c=59\/c=44) (L:GR WR [] buf buf2 (some [32]) none r k ⟨[c],some [32],m,none,k⟩ false) (N:ov w B k2 text buf buf2 sl false ⟨some [32],none,m,k,false,[c],(p.1,some [])::C,D,some ([c],[])⟩ f):ov w B k2 text buf buf2 sl false ⟨some [32],none,r,k,true,[61],p::C,D,some b⟩ f:=
 λ{F} e {a t u v z x x2 l ll nl nll} y A=>y.split (G:=λl=>EV w F B a (BJ w t u v z x x2 k2 text buf buf2 false _ sl ll nll l nl (ae 12 a)) text f sl) λO Q T l E y=>(HT w buf r buf2 k k2 x2 text sl l nl ll nll b.1 b.2 O p.1 Q (cA p.2 T) m c t u v z B).turn e (ND e) HU ⟨rfl,te I,rfl,rfl,rfl,rfl,rfl,tf I,rfl,L,trivial⟩ a [] lH [0,0,0,0,0,0,0,0,0,10,11,0] (hfro:=bc E)
  λJ V Y H U=>N (e.trans H) (x:=0) (.cons ⟨_,_,_,rfl,U _ (List.mem_singleton.mpr rfl) J (Le.refl J)⟩ (aM.le H y)) (A.le H)
theorem DF (J:GR WR [] buf buf2 (some [32]) none r k ⟨[],none,[],none,k⟩ true) (L:ov w B k2 text buf buf2 sl true ⟨none,none,[],k,false,[],(p.1,some [])::C,D,some ([],[])⟩ f):ov w B k2 text buf buf2 sl false ⟨some [32],none,r,k,true,[61],p::C,D,some b⟩ f:=
 λ{F} e {a t u v z x x2 l ll nl nll} y A=>y.split (G:=λl=>EV w F B a (BJ w t u v z x x2 k2 text buf buf2 false _ sl ll nll l nl (ae 12 a)) text f sl) λN O Q l E y=>(HZ w buf r buf2 k k2 x2 text sl l nl ll nll b.1 b.2 N p.1 O (cA p.2 Q) t u v z B).turn e (ND e) H0 ⟨rfl,rfl,rfl,rfl,rfl,rfl,rfl,rfl,rfl,J,trivial⟩ a [] lH [0,0,0,0,0,0,0,0,0,10,11,0] (hfro:=bc E)
  λI U V H T=>L (e.trans H) (x:=0) (.cons ⟨_,_,_,rfl,T _ (List.mem_singleton.mpr rfl) I (Le.refl I)⟩ (aM.le H y)) (A.le H)
theorem xc (h7:¬f9 (34::i)) (h8:(34::i).length<=900) (h9:dZ g d) (e:GR WR [] buf buf2 (some [32]) none r k ⟨34::i,g,m,d,k⟩ false) (y:GR WN [] buf buf2 g d m k o h) (O:ov w B k2 text buf buf2 sl h ⟨o.st,o.pb,o.r,o.k,false,o.w,(p.1,some (34::i))::C,D,some (34::i,34::i)⟩ f):ov w B k2 text buf buf2 sl false ⟨some [32],none,r,k,true,[61],p::C,D,some b⟩ f:=
 λ{F} E {a t u v z x x2 l ll nl nll} L I=>L.split (G:=λl=>EV w F B a (BJ w t u v z x x2 k2 text buf buf2 false _ sl ll nll l nl (ae 12 a)) text f sl) λQ T U l J L=>by
  have V:=jL h7 (List.cons_ne_nil _ _);have Y:=jK h7;have ft:=au (l:=34::i) (Nat.le_trans h8 (by decide))
  refine h9.split (G:=λg d=>GR WR [] buf buf2 (some [32]) none r k ⟨34::i,g,m,d,k⟩ false->GR WN [] buf buf2 g d m k o h->_) (λe y=>?_) (λp1 e y=>?_) (λe y=>?_) e y
  ·exact (By w buf r buf2 k k2 x2 text sl l nl ll nll b.1 b.2 Q p.1 T (cA p.2 U) o h m i t u v z B).turn E (EW E) Dt ⟨rfl,y,rfl,V,rfl,rfl,rfl,rfl,ft,trivial,trivial,cH _ _,rfl,Y,rfl,e,trivial⟩ a [] lH [0,0,0,0,0,0,0,0,0,10,11,0] (hfro:=bc J)
    λH ad tk A N=>O (E.trans A) (.cons ⟨_,_,_,rfl,N _ (List.mem_singleton.mpr rfl) H (Le.refl H)⟩ (aM.le A L)) (I.le A)
  ·exact (Bz w buf r buf2 k k2 x2 text sl l nl ll nll b.1 b.2 Q p.1 T (cA p.2 U) o h m p1 i t u v z B).turn E (EW E) Du ⟨rfl,y,rfl,V,rfl,rfl,rfl,rfl,ft,trivial,trivial,cH _ _,rfl,Y,rfl,e,trivial⟩ a [] lH [0,0,0,0,0,0,0,0,0,10,11,0] (hfro:=bc J)
    λH ad tk A N=>O (E.trans A) (.cons ⟨_,_,_,rfl,N _ (List.mem_singleton.mpr rfl) H (Le.refl H)⟩ (aM.le A L)) (I.le A)
  ·exact (BA w buf r buf2 k k2 x2 text sl l nl ll nll b.1 b.2 Q p.1 T (cA p.2 U) o h m i t u v z B).turn E (EW E) Dv ⟨rfl,y,rfl,V,rfl,rfl,rfl,rfl,ft,trivial,trivial,cH _ _,rfl,Y,rfl,e,trivial⟩ a [] lH [0,0,0,0,0,0,0,0,0,10,11,0] (hfro:=bc J)
    λH ad tk A N=>O (E.trans A) (.cons ⟨_,_,_,rfl,N _ (List.mem_singleton.mpr rfl) H (Le.refl H)⟩ (aM.le A L)) (I.le A)
theorem xd (Q:c≠34) (h7:¬f9 (c::i)) (h8:(c::i).length<=900) (h9:dZ g d) (y:GR WR [] buf buf2 (some [32]) none r k ⟨c::i,g,m,d,k⟩ false) (A:GR WN [] buf buf2 g d m k o h) (T:ov w B k2 text buf buf2 sl h ⟨o.st,o.pb,o.r,o.k,false,o.w,(p.1,some (c::i))::C,D,some (c::i,c::i)⟩ f):ov w B k2 text buf buf2 sl false ⟨some [32],none,r,k,true,[61],p::C,D,some b⟩ f:=
 λ{F} H {a t u v z x x2 l ll nl nll} N J=>N.split (G:=λl=>EV w F B a (BJ w t u v z x x2 k2 text buf buf2 false _ sl ll nll l nl (ae 12 a)) text f sl) λU V Y l L N=>by
  have n3:=jL h7 (List.cons_ne_nil _ _);have n2:=jK h7;have ft:=au (l:=c::i) (Nat.le_trans h8 (by decide))
  refine h9.split (G:=λg d=>GR WR [] buf buf2 (some [32]) none r k ⟨c::i,g,m,d,k⟩ false->GR WN [] buf buf2 g d m k o h->_) (λy A=>?_) (λp1 y A=>?_) (λy A=>?_) y A
  ·exact (Bv w buf r buf2 k k2 x2 text sl l nl ll nll b.1 b.2 U p.1 V (cA p.2 Y) o h m c i t u v z B).turn H (EW H) Dq ⟨rfl,A,rfl,n3,rfl,rfl,rfl,rfl,de λe=>Q (List.cons.inj e).1,ft,trivial,trivial,cH _ _,rfl,n2,rfl,y,trivial⟩ a [] lH [0,0,0,0,0,0,0,0,0,10,11,0] (hfro:=bc L)
    λI ad tk E O=>T (H.trans E) (.cons ⟨_,_,_,rfl,O _ (List.mem_singleton.mpr rfl) I (Le.refl I)⟩ (aM.le E N)) (J.le E)
  ·exact (Bw w buf r buf2 k k2 x2 text sl l nl ll nll b.1 b.2 U p.1 V (cA p.2 Y) o h m p1 c i t u v z B).turn H (EW H) Dr ⟨rfl,A,rfl,n3,rfl,rfl,rfl,rfl,de λe=>Q (List.cons.inj e).1,ft,trivial,trivial,cH _ _,rfl,n2,rfl,y,trivial⟩ a [] lH [0,0,0,0,0,0,0,0,0,10,11,0] (hfro:=bc L)
    λI ad tk E O=>T (H.trans E) (.cons ⟨_,_,_,rfl,O _ (List.mem_singleton.mpr rfl) I (Le.refl I)⟩ (aM.le E N)) (J.le E)
  ·exact (Bx w buf r buf2 k k2 x2 text sl l nl ll nll b.1 b.2 U p.1 V (cA p.2 Y) o h m c i t u v z B).turn H (EW H) Ds ⟨rfl,A,rfl,n3,rfl,rfl,rfl,rfl,de λe=>Q (List.cons.inj e).1,ft,trivial,trivial,cH _ _,rfl,n2,rfl,y,trivial⟩ a [] lH [0,0,0,0,0,0,0,0,0,10,11,0] (hfro:=bc L)
    λI ad tk E O=>T (H.trans E) (.cons ⟨_,_,_,rfl,O _ (List.mem_singleton.mpr rfl) I (Le.refl I)⟩ (aM.le E N)) (J.le E)
end
theorem xe {e:Bool} {s:TS} {f:TF} (h:TR buf buf2 e s f):ov w B k2 text buf buf2 sl e s f:=by
 induction h with
 |stop=>exact λy Y Y Y Y Y Y Y Y Y Y Y A k=>zN y A k
 |semi o e f g _ b=>exact zO g b
 |eq o e f g _ b=>exact H4 g b
 |name o e f D g E G H m d _ b=>exact zP D g E G H m d b
 |comma o e f I g _ b=>exact xb I g b
 |sep p C c J f m d _ b=>exact DE m d b
 |fin p C f d _ b=>exact DF d b
 |word p C c O L N J o e f d n q i j _ b=>
  by_cases r:c=34
  ·subst r
   exact xc d n q i j b
  ·exact xd r d n q i j b
end
end
section
theorem BL {b a:P1} {c:Bool} {s:TS} {f:TF} (h:TR b a c s f):f.rf=true:=by
 induction h with
 |stop=>rfl
 |_=>assumption
theorem DG (b:P1):Txt.endswith (mk (b++[34])) (mk [34])=true:=by
 unfold Txt.endswith;simp only [Bool.and_eq_true];refine ⟨decide_eq_true (by rw [bG,bG];simp),?_⟩
 rw [StrLaws.subAt_eq,bG,bG];simp [mk]
theorem xf (b:P1):Txt.startswith (mk (34::b)) (mk [34])=true:=by
 unfold Txt.startswith;simp only [Bool.and_eq_true];refine ⟨decide_eq_true (by rw [bG,bG];simp),?_⟩
 rw [StrLaws.subAt_eq,bG];simp [mk]
theorem rV (b:P1):Txt.slice (mk (b++[34])) none (some (-1:Int))=mk b:=by
 show StrLaws.sliceText _ _ _=_;rw [StrLaws.sliceText_to_neg (by decide) (by rw [bG];simp;lia)]
 have e:((-1:Int)+(mk (b++[34])).length-0).toNat=b.length:=by simp only [bG];simp;lia
 rw [e];simp [mk]
theorem ix (c:Nat) (l:P1):Txt.slice (mk (c::l)) (some (1:Int)) none=mk l:=by
 rw [pN (by decide) (by simp;lia)];rfl
section
variable {w:World} {F:aA} {a:P4} {t u v z:P2} {k2:Int} {x x2:Tok} {text buf buf2:P1} {l ll:P5} {nl nll:Nat} {it:Value} {eg el:Array DictEntry} {ng nlw:Nat} {rd:Bool}
theorem Kq (b:Le (top w.2) F) {c:P9} {d:Option Nat} {r:P1} {k:Int} {o:GO}:bH w F (oT [] (aC [([],ka w t x k k2 WN [] c d buf r o),([],bg l),([],aV ll),([],cT ll)])):=
 bh (aI ⟨λY e=>qo (b.trans e),λY Y=>bS,λY Y=>cf,λY Y=>lE,trivial⟩)
theorem H5 (d:Le (top w.2) F) {k:Int} {c:Addr} {r:P1} {o:GO} {b:List Str}:bH w F (oT b (aC [([],aV ll),([],bj c l),([],bB c l),([],g6 w k k2 WN [] buf r o)])):=
 bh (aI ⟨λY Y=>cf,λY Y=>cV,λY Y=>dp,λY e=>ly (d.trans e),trivial⟩)
theorem DH (d:Le (top w.2) F) {k:Int} {e:Addr} {r f:P1} {o o2:GO} {b:List Str} {g:P9} {h:Option Nat}:bH w F (oT b (aC [([],aV ll),([],bj e l),([],bB e l),([],g6 w k k2 WN [] buf r o),([],fv w k k2 WN [] g h buf f o2)])):=
 bh (aI ⟨λY Y=>cf,λY Y=>cV,λY Y=>dp,λY c=>ly (d.trans c),λY c=>jD (d.trans c),trivial⟩)
theorem Ms (e:Le (top w.2) F) {k:Int} {f:Addr} {r g b m:P1} {o o2:GO} {c:List Str} {h:P9} {i:Option Nat}:bH w F (oT c (aC [([],aV ll),([],bj f l),([],bB f l),([],g6 w k k2 WN [] buf r o),([],fv w k k2 WN [] h i buf g o2),([],w6 w b m)])):=
 bh (aI ⟨λY Y=>cf,λY Y=>cV,λY Y=>dp,λY d=>ly (e.trans d),λY d=>jD (e.trans d),λY d=>w7 (e.trans d),trivial⟩)
theorem DI (g:Le (top w.2) F) {k:Int} {h:Addr} {r i b n d:P1} {e:Bool} {o2:GO} {o:Bool} {c:List Str} {j:P9} {m:Option Nat}:bH w F (oT c (aC [([],aV ll),([],bj h l),([],bB h l),([],lz w k k2 WN [] buf r b it n j i m d e),([],cz w k k2 WN [] j m b i buf o2 o)])):=
 bh (aI ⟨λY Y=>cf,λY Y=>cV,λY Y=>dp,λY f=>tX (g.trans f),λY f=>gK (g.trans f),trivial⟩)
theorem DJ (g:Le (top w.2) F) {k:Int} {h:Addr} {r i b n d:P1} {e:Bool} {o2:GO} {o:Bool} {c:List Str} {j:P9} {m:Option Nat}:bH w F (oT c (aC [([],aV ll),([],bj h l),([],bB h l),([],lA w k k2 WN [] buf r b it n j i m d e),([],cz w k k2 WN [] j m b i buf o2 o)])):=
 bh (aI ⟨λY Y=>cf,λY Y=>cV,λY Y=>dp,λY f=>tY (g.trans f),λY f=>gK (g.trans f),trivial⟩)
def dN (rd:Bool) (g:Addr):Array P6:=match rd with|true=>dI 842 843 (.ref g)|false=>#[]
def dh (rd:Bool):Array P6:=match rd with|true=>nP|false=>#[]
def Mu (b:Bool) (g:Addr):Array P6:=match b with|true=>dI 823 824 (.ref g)|false=>#[]
def rW (it:Value) (a:P4):P8:=[kr (a 6),bO it (a 9),eT (a 9),d5 (a 10),d6]
def t4 (w:World) (t u v:P2) (x:Tok) (k2:Int) (text buf:P1) (eg:Array DictEntry) (ng:Nat) (el:Array DictEntry) (nlw:Nat) (rd:Bool) (s:TS) (ll:P5) (nll:Nat) (l:P5) (nl:Nat) (a:P4):P7:=
 [ax (a 1),ay w.2 t (a 3) (a 2) (a 5) WN [] s.st [],cC s.pb s.k x,aj (a 4),ao w.2 u buf (ai buf s.r),a6 k2,a8 w.2 v (a 0) (a 7) text s.nm false s.tok s.rv #[],aa (.ref (a 8)::ll) nll,aa l nl,aS eg ng (dN rd (a 10)),aS el nlw (dh rd)]
def Mv (w:World) (b:P2) (text:P1) (eg:Array DictEntry) (ng:Nat) (el:Array DictEntry) (nlw:Nat) (rd:Bool) (f:TF) (a:P4):P7:=
 [av,av,av,av,av,av,a8 w.2 b (a 0) (a 7) text f.nm f.rf [] f.rv (Mu f.rf (a 9)),aa (ar (b 16)) (b 17),av,aS eg ng (dN (f.rf||rd) (a 10)),aS el nlw (dh (f.rf||rd))]
def yO (w:World) (F:aA) (it:Value) (a:P4) (c:P7) (text:P1) (eg:Array DictEntry) (ng:Nat) (el:Array DictEntry) (nlw:Nat) (rd:Bool) (f:TF):Prop:=
 ah aX w F 150 1500 (rW it (ae 11 a)) none (a9 (ae 11 a 6)) (ab a c) (λY b=>Mv w b text eg ng el nlw rd f (ae 11 a)) 0 18 (λY Y=>[]) (λY Y=>.end_ (.ok .next)) (λY b=>[λF=>cq F (ar (b 16)) f.L])
noncomputable def zQ:List (Nat⊕Nat):=[.inl 0,.inl 1,.inl 2,.inl 3,.inl 4,.inl 5,.inl 6,.inl 7,.inl 8,.inl 9,.inl 10]
noncomputable def H6:List (Nat⊕Nat):=[.inl 0,.inl 1,.inl 2,.inl 3,.inl 4,.inl 5,.inl 6,.inl 7,.inr 0,.inl 9,.inl 10]
noncomputable def EX:List (Nat⊕Nat):=[.inl 0,.inl 1,.inl 2,.inr 0,.inr 1,.inl 5,.inr 2,.inl 3,.inl 4,.inl 6,.inl 7,.inl 8]
theorem zR {p:P9} {q:Option Nat} {r:P1} {k:Int} {h:Bool} {C:List af} {D:List (List af)} {f:Option (List Nat×P1)} (G:Le (top w.2) F) (I:aM F l C) (i:cq F ll D):
  yO w F it a (t4 w t u v x k2 text buf eg ng el nlw rd ⟨p,q,r,k,h,[],C,D,f⟩ ll nll l nl (ae 11 a)) text eg ng el nlw rd ⟨C::D,false,h,f⟩:=by
 have J:=ah.refl (w:=w) (F:=F) (d:=150) (u:=1500) (Pm:=0) (C:=rW it (ae 11 a)) (H:=none) (c:=a9 (ae 11 a 6)) (a:=a) (os:=t4 w t u v x k2 text buf eg ng el nlw rd ⟨p,q,r,k,h,[],C,D,f⟩ ll nll l nl (ae 11 a)) (upd:=λY Y=>t4 w t u v x k2 text buf eg ng el nlw rd ⟨p,q,r,k,h,[],C,D,f⟩ ll nll l nl (ae 11 a)) (λY=>0) (λY=>rfl);have L:=ah.PC [.inl 6] [0,0,0,0,0,0,1,100,100,100,100] (ntkF:=16) (updF:=λb=>[av,av,av,av,av,av,a8 w.2 b (ae 11 a 0) (ae 11 a 7) text h false [] f #[],aa (.ref (ae 11 a 8)::ll) nll,aa l nl,aS eg ng (dN rd (ae 11 a 10)),aS el nlw (dh rd)]) (gF:=λY=>[]) (resF:=λY=>.end_ (.ok .next)) J (λY Y b=>[a8 w.2 b (ae 11 a 0) (ae 11 a 7) text h false [] f #[]])
  (λs y b j Y=>xa (G.trans j))
 have N:=L.giveUp 8 (o:=aa l nl) (λY Y=>⟨_,rfl⟩) (λY Y=>rfl) rfl (by show _<11;decide) (upd':=λY b=>[av,av,av,av,av,av,a8 w.2 b (ae 11 a 0) (ae 11 a 7) text h false [] f #[],aa (.ref (ae 11 a 8)::ll) nll,av,aS eg ng (dN rd (ae 11 a 10)),aS el nlw (dh rd)]) (λY Y=>rfl) (λY Y=>Nat.le_refl _)
 obtain ⟨e,B⟩:∃n,ar n= .ref (a 8)::ll:=by
  obtain ⟨n,E⟩:=i6 i;obtain ⟨m,O⟩:=eX (a 8) _ ⟨n,rfl⟩;exact ⟨m,by unfold ar at E⊢;rw [O,List.map_cons,E]⟩
 have Q:=N.Pw (gives':=λY Y=>[λs=>cq s (.ref (a 8)::ll) (C::D)]) λy b s j T g A=>by
  cases List.mem_singleton.mp A;exact .cons ⟨a 8,l,nl,rfl,T _ List.mem_cons_self,I.le j⟩ (i.le j)
 exact ah.Pt (λY b=>zM b e nll) Q (λy b=>by
  show [av,av,av,av,av,av,a8 w.2 (ae 18 (zM b e nll)) (a 0) (a 7) text h false [] f #[],aa (ar e) nll,av,aS eg ng (dN rd (a 10)),aS el nlw (dh rd)]=_;simp only [B];cases f<;>kernel_rfl) (λY Y=>rfl) (λY Y=>rfl) (λy b=>by
  show [λF=>cq F (ar e) _]=_;rw [B])
def qu (w:World) (it:Value) (k2:Int) (text buf:P1) (eg:Array DictEntry) (ng:Nat) (el:Array DictEntry) (nlw:Nat) (rd:Bool) (s:TS) (f:TF):Prop:=∀{F:aA} (_:Le (top w.2) F) {a:P4} {t u v:P2} {x:Tok} {l ll:P5} {nl nll:Nat},aM F l s.C->cq F ll s.D->
  yO w F it a (t4 w t u v x k2 text buf eg ng el nlw rd s ll nll l nl (ae 11 a)) text eg ng el nlw rd f
section
variable {o:GO} {z:Bool} {f:TF} {B:P9} {A:Option Nat} {r n q d:P1} {s:Bool} {k:Int} {E:Bool} {y:P1} {C:List af} {D:List (List af)} {j:Option (List Nat×P1)} {p:af} {c:Nat} {b m i:P1} {g:P9} {h:Option Nat}
theorem zS (I:GA WN [] buf B A r k o) (J:qu w it k2 text buf eg ng el nlw rd ⟨o.st,o.pb,o.r,o.k,false,o.w,C,D,j⟩ f):qu w it k2 text buf eg ng el nlw rd ⟨B,A,r,k,E,[59],C,D,j⟩ f:=
 λ{F} e {a t u v x l ll nl nll} L G=>(Ho w buf r B A x k k2 text E #[] l nl ll nll o j t u v (rW it (ae 11 a))).turn e (Kq e) Hp ⟨rfl,I,rfl,rfl,trivial⟩ a [aS eg ng (dN rd (ae 11 a 10)),aS el nlw (dh rd)] zQ [0,0,0,0,0,0,7,8,0,10,11]
  λN O Q H Y=>J (e.trans H) (L.le H) (G.le H)
theorem H7 (I:GA WN [] buf B A r k o) (J:qu w it k2 text buf eg ng el nlw rd ⟨o.st,o.pb,o.r,o.k,false,o.w,C,D,j⟩ f):qu w it k2 text buf eg ng el nlw rd ⟨B,A,r,k,false,[61],C,D,j⟩ f:=
 λ{F} e {a t u v x l ll nl nll} L G=>(Hq w buf r B A x k k2 text false #[] l nl ll nll o j t u v (rW it (ae 11 a))).turn e (Kq e) Hr ⟨rfl,I,rfl,rfl,trivial⟩ a [aS eg ng (dN rd (ae 11 a 10)),aS el nlw (dh rd)] zQ [0,0,0,0,0,0,7,8,0,10,11]
  λN O Q H Y=>J (e.trans H) (L.le H) (G.le H)
theorem zT (O:y≠[]) (I:y≠[61]) (Q:y≠[59]) (J:y≠[44]) (T:C.length<=900) (h6:y.length<=900) (U:GA WN [] buf B A r k o) (V:qu w it k2 text buf eg ng el nlw rd ⟨o.st,o.pb,o.r,o.k,true,o.w,(y,none)::C,D,j⟩ f):qu w it k2 text buf eg ng el nlw rd ⟨B,A,r,k,E,y,C,D,j⟩ f:=
 λ{F} e {a t u v x l ll nl nll} L G=>(Hm w buf r B A x k k2 text E #[] l nl ll nll o y j t u v (rW it (ae 11 a))).turn e (Kq e) Hn ⟨rfl,U,de J,rfl,by rw [L.len];exact Nat.le_trans T (by decide),rfl,rfl,H3 I Q J,de I,BK O,trivial⟩ a [aS eg ng (dN rd (ae 11 a 10)),aS el nlw (dh rd)] zQ [0,0,0,0,0,0,7,8,0,10,11]
  λN ad tk H Y=>V (e.trans H) (.cons ⟨_,_,0,rfl,Y _ (List.mem_singleton.mpr rfl) N (Le.refl N)⟩ (aM.le H L)) (G.le H)
theorem xg (N:D.length<900) (O:GA WN [] buf B A r k o) (Q:qu w it k2 text buf eg ng el nlw rd ⟨o.st,o.pb,o.r,o.k,false,o.w,[],C::D,j⟩ f):qu w it k2 text buf eg ng el nlw rd ⟨B,A,r,k,E,[44],C,D,j⟩ f:=
 λ{F} G {a t u v x l ll nl nll} T e=>(Hs w buf r B A x k k2 text E #[] l nl ll nll o j t u v (rW it (ae 11 a))).turn G (Kq G) Ht ⟨rfl,O,rfl,by rw [e.len];exact Nat.lt_trans N (by decide),rfl,rfl,trivial⟩ a [aS eg ng (dN rd (ae 11 a 10)),aS el nlw (dh rd)] H6 [0,0,0,0,0,0,7,8,0,10,11] (upd2:=λI Y J=>Mv w J text eg ng el nlw rd f (ae 11 (bt a I H6)))
  λL I J H U=>Q (G.trans H) .nil (.cons ⟨_,l,nl,rfl,U _ (List.mem_singleton.mpr rfl) L (Le.refl L),T.le H⟩ (e.le H))
theorem DK (N:c=59\/c=44) (Q:VA buf k r ⟨[c],some [32],n,none,k⟩) (T:qu w it k2 text buf eg ng el nlw rd ⟨some [32],none,n,k,false,[c],(p.1,some [])::C,D,some ([c],[])⟩ f):qu w it k2 text buf eg ng el nlw rd ⟨some [32],none,r,k,true,[61],p::C,D,j⟩ f:=
 λ{F} e {a t u v x l ll nl nll} H I=>H.split (G:=λl=>yO w F it a (t4 w t u v x k2 text buf eg ng el nlw rd _ ll nll l nl (ae 11 a)) text eg ng el nlw rd f) λU V Y l J H=>(Hv w buf r k k2 text #[] l nl ll nll U p.1 V (cA p.2 Y) n c j t u v (rW it (ae 11 a))).turn e (H5 e) Hw ⟨rfl,te N,rfl,rfl,rfl,rfl,rfl,tf N,rfl,Q,trivial⟩ a [aS eg ng (dN rd (ae 11 a 10)),aS el nlw (dh rd)] zQ [0,0,0,0,0,0,7,8,0,10,11] (hfro:=bc J)
  λO ad tk L hg=>T (e.trans L) (x:=0) (.cons ⟨_,_,_,rfl,hg _ (List.mem_singleton.mpr rfl) O (Le.refl O)⟩ (aM.le L H)) (I.le L)
theorem DL (O:VA buf k r ⟨[],none,[],none,k⟩) (Q:qu w it k2 text buf eg ng el nlw rd ⟨none,none,[],k,false,[],(p.1,some [])::C,D,some ([],[])⟩ f):qu w it k2 text buf eg ng el nlw rd ⟨some [32],none,r,k,true,[61],p::C,D,j⟩ f:=
 λ{F} e {a t u v x l ll nl nll} H I=>H.split (G:=λl=>yO w F it a (t4 w t u v x k2 text buf eg ng el nlw rd _ ll nll l nl (ae 11 a)) text eg ng el nlw rd f) λT U V l J H=>(HA w buf r k k2 text #[] l nl ll nll T p.1 U (cA p.2 V) j t u v (rW it (ae 11 a))).turn e (H5 e) HB ⟨rfl,rfl,rfl,rfl,rfl,rfl,rfl,rfl,rfl,O,trivial⟩ a [aS eg ng (dN rd (ae 11 a 10)),aS el nlw (dh rd)] zQ [0,0,0,0,0,0,7,8,0,10,11] (hfro:=bc J)
  λN ad tk L Y=>Q (e.trans L) (x:=0) (.cons ⟨_,_,_,rfl,Y _ (List.mem_singleton.mpr rfl) N (Le.refl N)⟩ (aM.le L H)) (I.le L)
theorem zU (V:c≠34) (h7:¬f9 (c::i)) (h8:(c::i).length<=900) (h9:dZ g h) (H:VA buf k r ⟨c::i,g,n,h,k⟩) (I:GA WN [] buf g h n k o) (Y:qu w it k2 text buf eg ng el nlw rd ⟨o.st,o.pb,o.r,o.k,false,o.w,(p.1,some (c::i))::C,D,some (c::i,c::i)⟩ f):qu w it k2 text buf eg ng el nlw rd ⟨some [32],none,r,k,true,[61],p::C,D,j⟩ f:=
 λ{F} L {a t u v x l ll nl nll} T O=>T.split (G:=λl=>yO w F it a (t4 w t u v x k2 text buf eg ng el nlw rd _ ll nll l nl (ae 11 a)) text eg ng el nlw rd f) λta tt t2 l Q T=>by
  have n3:=jL h7 (List.cons_ne_nil _ _);have n2:=jK h7;have ft:=au (l:=c::i) (Nat.le_trans h8 (by decide))
  refine h9.split (G:=λg h=>VA buf k r ⟨c::i,g,n,h,k⟩->GA WN [] buf g h n k o->_) (λH I=>?_) (λp1 H I=>?_) (λH I=>?_) H I
  ·exact (Br w buf r k k2 text #[] l nl ll nll ta p.1 tt (cA p.2 t2) o n c i j t u v (rW it (ae 11 a))).turn L (DH L) Dj ⟨rfl,I,rfl,n3,rfl,rfl,rfl,rfl,de λe=>V (List.cons.inj e).1,ft,trivial,trivial,cH _ _,rfl,n2,rfl,H,trivial⟩ a [aS eg ng (dN rd (ae 11 a 10)),aS el nlw (dh rd)] zQ [0,0,0,0,0,0,7,8,0,10,11] (hfro:=bc Q)
    λN ad tk J U=>Y (L.trans J) (.cons ⟨_,_,_,rfl,U _ (List.mem_singleton.mpr rfl) N (Le.refl N)⟩ (aM.le J T)) (O.le J)
  ·exact (Bs w buf r k k2 text #[] l nl ll nll ta p.1 tt (cA p.2 t2) o n p1 c i j t u v (rW it (ae 11 a))).turn L (DH L) Dk ⟨rfl,I,rfl,n3,rfl,rfl,rfl,rfl,de λe=>V (List.cons.inj e).1,ft,trivial,trivial,cH _ _,rfl,n2,rfl,H,trivial⟩ a [aS eg ng (dN rd (ae 11 a 10)),aS el nlw (dh rd)] zQ [0,0,0,0,0,0,7,8,0,10,11] (hfro:=bc Q)
    λN ad tk J U=>Y (L.trans J) (.cons ⟨_,_,_,rfl,U _ (List.mem_singleton.mpr rfl) N (Le.refl N)⟩ (aM.le J T)) (O.le J)
  ·exact (Bt w buf r k k2 text #[] l nl ll nll ta p.1 tt (cA p.2 t2) o n c i j t u v (rW it (ae 11 a))).turn L (DH L) Dl ⟨rfl,I,rfl,n3,rfl,rfl,rfl,rfl,de λe=>V (List.cons.inj e).1,ft,trivial,trivial,cH _ _,rfl,n2,rfl,H,trivial⟩ a [aS eg ng (dN rd (ae 11 a 10)),aS el nlw (dh rd)] zQ [0,0,0,0,0,0,7,8,0,10,11] (hfro:=bc Q)
    λN ad tk J U=>Y (L.trans J) (.cons ⟨_,_,_,rfl,U _ (List.mem_singleton.mpr rfl) N (Le.refl N)⟩ (aM.le J T)) (O.le J)
theorem DM (U:b.length<=800) (Y:bX b m) (I:VA buf k r ⟨34::(b++[34]),some [32],n,none,k⟩) (J:GA WN [] buf (some [32]) none n k o) (ih:qu w it k2 text buf eg ng el nlw rd ⟨o.st,o.pb,o.r,o.k,false,o.w,(p.1,some m)::C,D,some (34::(b++[34]),m)⟩ f):qu w it k2 text buf eg ng el nlw rd ⟨some [32],none,r,k,true,[61],p::C,D,j⟩ f:=
 λ{F} L {a t u v x l ll nl nll} N O=>N.split (G:=λl=>yO w F it a (t4 w t u v x k2 text buf eg ng el nlw rd _ ll nll l nl (ae 11 a)) text eg ng el nlw rd f) λta tt t2 l Q N=>by
  have H:¬f9 (34::(b++[34])):=by rintro (e|e)<;>simp at e
  have i:(b++[34]).length<=900:=by rw [List.length_append];exact Nat.le_trans (Nat.add_le_add_right U 1) (by decide)
  exact (HD w buf r k k2 text #[] l nl ll nll ta p.1 tt (cA p.2 t2) o n b m j t u v (rW it (ae 11 a))).turn L (Ms L) HE ⟨rfl,J,rfl,jL H (List.cons_ne_nil _ _),rfl,rfl,rfl,rfl,rfl,⟨Y,Nat.le_trans U (by decide)⟩,au (Nat.le_trans i (by decide)),trivial,trivial,rV b,DG b,au (Nat.le_trans (Nat.succ_le_succ i) (by decide)),trivial,trivial,ix _ _,xf _,au (Nat.le_trans (Nat.succ_le_succ i) (by decide)),trivial,trivial,cH _ _,rfl,jK H,rfl,I,trivial⟩ a [aS eg ng (dN rd (ae 11 a 10)),aS el nlw (dh rd)] zQ [0,0,0,0,0,0,7,8,0,10,11] (hfro:=bc Q)
   λV ad tk T hg=>ih (L.trans T) (.cons ⟨_,_,_,rfl,hg _ (List.mem_singleton.mpr rfl) V (Le.refl V)⟩ (aM.le T N)) (O.le T)
theorem rX (h8:(34::i).length<=900) (h9:dZ g h) (T:VX buf r d) (H:aF WR [] d (some [32]) [] d ⟨34::i,g,n,h,q,s⟩) (I:GR WN [] d buf g h n k o z) (hf:f.rf=true)
  (ih:ov w (rW it (ae 11 a)) k2 text d buf (dI 823 824 (.ref (ae 11 a 9))) z ⟨o.st,o.pb,o.r,o.k,false,o.w,(p.1,some (34::i))::C,D,some (34::i,34::i)⟩ f) (O:Le (top w.2) F) (Y:aM F l (p::C)) (U:cq F ll D):
  yO w F it a (t4 w t u v x k2 text buf eg ng el nlw false ⟨some [32],none,r,k,true,[61],p::C,D,j⟩ ll nll l nl (ae 11 a)) text eg ng el nlw false f:=by
 obtain ⟨L,rf,Pm,Pn⟩:=f;subst hf;refine Y.split (G:=λl=>yO w F it a (t4 w t u v x k2 text buf eg ng el nlw false _ ll nll l nl (ae 11 a)) text eg ng el nlw false ⟨L,true,Pm,Pn⟩) λta tt t2 l V Y=>?_;have J:¬f9 (34::i):=by rintro (e|e)<;>simp at e
 have n3:=jL J (List.cons_ne_nil _ _);have n2:=jK J;have ft:=au (l:=34::i) (Nat.le_trans h8 (by decide))
 refine h9.split (G:=λg h=>aF WR [] d (some [32]) [] d ⟨34::i,g,n,h,q,s⟩->GR WN [] d buf g h n k o z->_) (λH I=>?_) (λp1 H I=>?_) (λH I=>?_) H I
 ·exact (BB w buf r d it k k2 text l nl ll nll ta p.1 tt (cA p.2 t2) i n q s o z eg ng j el nlw t u v).turn O (DI O) Dx ⟨rfl,I,rfl,n3,rfl,rfl,rfl,rfl,ft,trivial,trivial,cH _ _,rfl,n2,rfl,⟨T,H⟩,trivial⟩ a [] EX [0,0,0,0,0,0,10,11,0,100,100] (hfro:=bc V)
   λQ ad tk N hg=>ih (O.trans N) (.cons ⟨_,_,_,rfl,hg _ (List.mem_singleton.mpr rfl) Q (Le.refl Q)⟩ (aM.le N Y)) (U.le N)
 ·exact (BC w buf r d it k k2 text l nl ll nll ta p.1 tt (cA p.2 t2) i n q s o z eg ng p1 j el nlw t u v).turn O (DI O) Dy ⟨rfl,I,rfl,n3,rfl,rfl,rfl,rfl,ft,trivial,trivial,cH _ _,rfl,n2,rfl,⟨T,H⟩,trivial⟩ a [] EX [0,0,0,0,0,0,10,11,0,100,100] (hfro:=bc V)
   λQ ad tk N hg=>ih (O.trans N) (.cons ⟨_,_,_,rfl,hg _ (List.mem_singleton.mpr rfl) Q (Le.refl Q)⟩ (aM.le N Y)) (U.le N)
 ·exact (BD w buf r d it k k2 text l nl ll nll ta p.1 tt (cA p.2 t2) i n q s o z eg ng j el nlw t u v).turn O (DI O) Dz ⟨rfl,I,rfl,n3,rfl,rfl,rfl,rfl,ft,trivial,trivial,cH _ _,rfl,n2,rfl,⟨T,H⟩,trivial⟩ a [] EX [0,0,0,0,0,0,10,11,0,100,100] (hfro:=bc V)
   λQ ad tk N hg=>ih (O.trans N) (.cons ⟨_,_,_,rfl,hg _ (List.mem_singleton.mpr rfl) Q (Le.refl Q)⟩ (aM.le N Y)) (U.le N)
theorem rY (h8:(34::i).length<=900) (h9:dZ g h) (T:VX buf r d) (H:aF WR [] d (some [32]) [] d ⟨34::i,g,n,h,q,s⟩) (I:GR WN [] d buf g h n k o z) (hf:f.rf=true)
  (ih:ov w (rW it (ae 11 a)) k2 text d buf (dI 823 824 (.ref (ae 11 a 9))) z ⟨o.st,o.pb,o.r,o.k,false,o.w,(p.1,some (34::i))::C,D,some (34::i,34::i)⟩ f) (O:Le (top w.2) F) (Y:aM F l (p::C)) (U:cq F ll D):
  yO w F it a (t4 w t u v x k2 text buf eg ng el nlw true ⟨some [32],none,r,k,true,[61],p::C,D,j⟩ ll nll l nl (ae 11 a)) text eg ng el nlw true f:=by
 obtain ⟨L,rf,Pm,Pn⟩:=f;subst hf;refine Y.split (G:=λl=>yO w F it a (t4 w t u v x k2 text buf eg ng el nlw true _ ll nll l nl (ae 11 a)) text eg ng el nlw true ⟨L,true,Pm,Pn⟩) λta tt t2 l V Y=>?_;have J:¬f9 (34::i):=by rintro (e|e)<;>simp at e
 have n3:=jL J (List.cons_ne_nil _ _);have n2:=jK J;have ft:=au (l:=34::i) (Nat.le_trans h8 (by decide))
 refine h9.split (G:=λg h=>aF WR [] d (some [32]) [] d ⟨34::i,g,n,h,q,s⟩->GR WN [] d buf g h n k o z->_) (λH I=>?_) (λp1 H I=>?_) (λH I=>?_) H I
 ·exact (BE w buf r d it k k2 text l nl ll nll ta p.1 tt (cA p.2 t2) i n q s o z eg ng j (ae 11 a 10) t u v).turn O (DJ O) DA ⟨rfl,I,rfl,n3,rfl,rfl,rfl,rfl,ft,trivial,trivial,cH _ _,rfl,n2,rfl,⟨T,H⟩,trivial⟩ a [aS el nlw (dh true)] EX [0,0,0,0,0,0,10,11,0,100,100] (hfro:=bc V)
   λQ ad tk N hg=>ih (O.trans N) (.cons ⟨_,_,_,rfl,hg _ (List.mem_singleton.mpr rfl) Q (Le.refl Q)⟩ (aM.le N Y)) (U.le N)
 ·exact (BG w buf r d it k k2 text l nl ll nll ta p.1 tt (cA p.2 t2) i n q s o z eg ng p1 j (ae 11 a 10) t u v).turn O (DJ O) DB ⟨rfl,I,rfl,n3,rfl,rfl,rfl,rfl,ft,trivial,trivial,cH _ _,rfl,n2,rfl,⟨T,H⟩,trivial⟩ a [aS el nlw (dh true)] EX [0,0,0,0,0,0,10,11,0,100,100] (hfro:=bc V)
   λQ ad tk N hg=>ih (O.trans N) (.cons ⟨_,_,_,rfl,hg _ (List.mem_singleton.mpr rfl) Q (Le.refl Q)⟩ (aM.le N Y)) (U.le N)
 ·exact (BH w buf r d it k k2 text l nl ll nll ta p.1 tt (cA p.2 t2) i n q s o z eg ng j (ae 11 a 10) t u v).turn O (DJ O) DC ⟨rfl,I,rfl,n3,rfl,rfl,rfl,rfl,ft,trivial,trivial,cH _ _,rfl,n2,rfl,⟨T,H⟩,trivial⟩ a [aS el nlw (dh true)] EX [0,0,0,0,0,0,10,11,0,100,100] (hfro:=bc V)
   λQ ad tk N hg=>ih (O.trans N) (.cons ⟨_,_,_,rfl,hg _ (List.mem_singleton.mpr rfl) Q (Le.refl Q)⟩ (aM.le N Y)) (U.le N)
end
theorem DN {s:TS} {f:TF} (h:TA buf s f):qu w it k2 text buf eg ng el nlw rd s f:=by
 induction h with
 |stop=>exact λq z z z z z z z z z r i=>zR q r i
 |semi o f n _ d=>exact zS n d
 |eq o f n _ d=>exact H7 n d
 |name o f J n L N O y j _ d=>exact zT J n L N O y j d
 |comma o f Q n _ d=>exact xg Q n d
 |sep p C c E f y j _ d=>exact DK y j d
 |fin p C f j _ d=>exact DL j d
 |word p C c T G H E o f U j B D e g _ d=>exact zU U j B D e g d
 |PR p C b m E o f y j e g _ d=>exact DM y j e g d
 |refuse p C I T G H E V Y o en f B D e g A k=>
  cases rd
  ·exact λq z z z z z z z z z r i=>rX B D e g A (BL k) (xe k) q r i
  ·exact λq z z z z z z z z z r i=>rY B D e g A (BL k) (xe k) q r i
end
end
section
noncomputable def aL (a b c d e:Addr) (i:Nat):Addr:=match i with
 |1=>a
 |2=>b
 |3=>c
 |4=>d
 |5=>e
 |_=>0
def BM (w:World) (b:Int) (W Q a:P1) (o:GO) (c:P7) (d e f g h:Addr):aA->Prop:=λY=>∃t u x,c=He w t u x o.k b W Q o.st o.pb a o.r (aL d e f g h)
section
variable {w:World} {F:aA} {k i:Int} {W Q d r b:P1} {o:GO} {m:P9} {l:Option Nat} {j:Value} {rd:Bool} {f:TF}
def ox (w:World) (k i:Int) (W Q:P1) (m:P9) (l:Option Nat) (d r:P1) (o:GO):aY:=λc a kn=>
 {fv w k i W Q m l d r o c a kn with gives:=λY e=>[BM w i W Q d o (Mj w e i W Q d o (fA a)) (fA a 1) (fA a 2) (fA a 3) (fA a 4) (fA a 5)]}
theorem t5 (e:Le (top w.2) F) (y:Code) (c:Qa) (kn:Qb):(ox w k i W Q m l d r o y c kn).Ok w F:=by
 intro h n C H p q A s R t u v x z B D;refine jD (w:=w) (F:=F) (k:=k) (k2:=i) (W:=W) (Q:=Q) (st:=m) (pb:=l) (buf:=d) (r:=r) (o:=o) e y c kn h n C H p q A s R t u v x z B λE I J L G a N X=>D E I J L G a (λg O T Y=>?_) X;cases List.mem_singleton.mp O;exact ⟨_,_,_,rfl⟩
def oy (w:World) (b:P1) (o:GO):aY:=λc a kn=>
 {ox w 0 0 WN [] (some [32]) none b b o c a kn with fs:=[(fA a 0,ax (fA a 1)),(fA a 1,ay w.2 (aE (fO a 1)) (fA a 3) (fA a 2) (fA a 5) WN [] (some [32]) []),(fA a 2,a6 0),(fA a 3,aj (fA a 4)),(fA a 4,ao w.2 (aE (fO a 4)) b 0),(fA a 5,a6 0)]}
theorem t6 (c:Le (top w.2) F) (y:Code) (a:Qa) (kn:Qb):(oy w b o y a kn).Ok w F:=by
 have e:(oy w b o y a kn)=ox w 0 0 WN [] (some [32]) none b b o y a kn:=by
  have h:=m5 b;delta oy ox fv ka He;rw [h];rfl
 simp only [e];exact t5 c y a kn
def d8 (o:Obj) (c:List (List af)):aA->Prop:=λF=>∃a n,o=aa a n/\cq F a c
noncomputable def H8 (o:GO):TS:=⟨o.st,o.pb,o.r,o.k,false,o.w,[],[],none⟩
def tg (w:World) (b:P1) (o:GO) (j:Value) (rd:Bool) (f:TF):aY:=λY a Y=>
 {need:=150,Po:=1500,code:=a9 (fA a 6),
  fs:=[(fA a 0,fO a 0),(fA a 1,fO a 1),(fA a 2,fO a 2),(fA a 3,fO a 3),(fA a 4,fO a 4),(fA a 5,fO a 5),(fA a 6,a8 w.2 (aE (fO a 6)) (fA a 0) (fA a 7) b false false o.w none #[]),(fA a 7,aa [.ref (fA a 8)] 0),(fA a 8,aa [] 0),(fA a 9,aS (bE (fO a 9)) (bF (fO a 9)) (dN rd (fA a 10))),(fA a 10,aS (bE (fO a 10)) (bF (fO a 10)) (dh rd))],
  Pq:=[TA b (H8 o) f],wants:=[BM w 0 WN [] b o [fO a 0,fO a 1,fO a 2,fO a 3,fO a 4,fO a 5] (fA a 1) (fA a 2) (fA a 3) (fA a 4) (fA a 5)],
  below:=some (rW j (fA a)),hand:=some none,
  upd:=λY c=>Mv w c b (bE (fO a 9)) (bF (fO a 9)) (bE (fO a 10)) (bF (fO a 10)) rd f (fA a),nn:=0,new:=λY Y=>[],Pm:=18,res:=λY Y=>.end_ (.ok .next),gives:=λY c=>[d8 (aa (ar (c 16)) (c 17)) f.L]}
theorem xh (p:Le (top w.2) F) (y:Code) (c:Qa) (kn:Qb):(tg w b o j rd f y c kn).Ok w F:=by
 intro q s C H v z;have h:TA b (H8 o) f:=q _ (.head _);obtain ⟨t,u,x,e⟩:=s _ (List.mem_singleton.mpr rfl) F (Le.refl F);have A:H=none:=z none rfl;subst A;rw [v _ rfl];have B:(tg w b o j rd f y c kn).fs=ab (fA c) (t4 w t u (aE (fO c 6)) x 0 b b (bE (fO c 9)) (bF (fO c 9)) (bE (fO c 10)) (bF (fO c 10)) rd (H8 o) [] 0 [] 0 (fA c)):=by
  unfold He at e;simp only [List.cons.injEq,and_true] at e;obtain ⟨D,E,G,I,J,L⟩:=e;unfold tg;dsimp only;rw [D,E,G,I,J,L];rfl
 rw [B];exact ah.Pu ((DN (a:=fA c) (it:=j) h p .nil .nil).Pw λO T U Y N g n=>by
  cases List.mem_singleton.mp n;exact ⟨_,_,rfl,N _ List.mem_cons_self⟩)
end
end
section
noncomputable def cN (l:Addr) (i:Nat):Obj:={cls:=.type "list_iterator",data:=.fields #[.ref l,.int (i:Int) 0]}
noncomputable def xi (i:Nat):Obj:={cls:=.type "list_iterator",data:=.fields #[.none,.int (i:Int) 0]}
noncomputable def i7 (a:String) (t:Addr) (m:Value):Obj:={cls:=.type a,data:=.fields #[.ref t,.none,.none,.none,.bool false,m]}
theorem bq {F:aA} {h:Heap} (b:cK F h) {a:Addr} (c:h.1.size<=a):F a=none:=by
 cases q:F a with
 |none=>rfl
 |some o=>exact absurd (Heap.lt_size (b a o q)) (Nat.not_lt.mpr c)
theorem aN (h:Heap) (o:Obj):(h.push o).objs.size=h.1.size+1:=by
 cases h;simp [Heap.push]
theorem fk.push {s f:Shared} {u:Qa} {k:P7} {a:Nat} {d:P7} {l:P4} (X:fk s f u k a d l) (w:d.length=a) (o:Obj) (x:o.isFreed=false) (t:Nat) (c:P4) (g:∀i,i<a->c i=l i) (m:c a=f.1.1.size):
  fk s {f with heap:=f.1.push o,toks:=t} u k (a+1) (d++[o]) c:=by
 have v:=aN f.1 o;refine ⟨λb n e y=>Heap.get?_push_of_some o (X.keep b n e y),λi p n z A B=>Heap.get?_push_of_some o (X.upd i p n z A B),λi n e=>?_,λi r=>?_,λi r=>?_,λi j r C e=>?_,?_,X.life,X.gens,X.drawn,X.os⟩
 ·by_cases r:i<a
  ·rw [List.getElem?_append_left (by lia)] at e
   rw [g i r];exact Heap.get?_push_of_some o (X.new i n e)
  ·rw [List.getElem?_append_right (by lia)] at e
   have:i=a:=by
    have:=(List.getElem?_eq_some_iff.mp e).1;simp at this;lia
   subst this;rw [w,Nat.sub_self] at e;cases e;rw [m];exact Heap.get?_push_size _ x
 ·by_cases h:i<a
  ·rw [g i h];exact X.fresh i h
  ·have:i=a:=by lia
   subst this;rw [m];exact X.size
 ·show c i<(f.1.push o).objs.size
  rw [v];by_cases h:i<a
  ·rw [g i h];exact Nat.lt_succ_of_lt (X.below i h)
  ·have:i=a:=by lia
   subst this;rw [m];exact Nat.lt_succ_self _
 ·by_cases h:i<a
  ·by_cases q:j<a
   ·rw [g i h,g j q] at e;exact X.inj i j h q e
   ·have:j=a:=by lia
    subst this;rw [g i h,m] at e;exact absurd (X.below i h) (by rw [e];exact Nat.lt_irrefl _)
  ·have:i=a:=by lia
   subst this;by_cases q:j<i
   ·rw [m,g j q] at e
    exact absurd (X.below j q) (by rw [<-e];exact Nat.lt_irrefl _)
   ·lia
 ·show _<=(f.1.push o).objs.size
  simp only [v];exact Nat.le_succ_of_le X.size
section
variable {w:World} {F:aA} {s:Shared} {A:Around} {E Q:Value->Shared->Prop} {I L:Addr} {b:P5} {n i:Nat} {v x:Value}
theorem Kr (l:Addr) (i:Nat) (x:Value):Obj.mapFields (·.setIfInBounds 1 (rawInt (((i:Int))+1))) (cN l i)=cN l (i+1):=rfl
theorem DO {b:P5} {i:Nat} {x:Value} (h:b.reverse[i]? =some x):b.reverse.toArray[(((i:Nat):Int)).toNat]? =some x:=by
 simpa using h
theorem oz (a:s.1.get? I=some (cN L i)) (c:s.1.get? L=some (aa b n)) (d:b.reverse[i]? =some x) (h:Q x {s with heap:=s.1.update I (Obj.mapFields (·.setIfInBounds 1 (rawInt (((i:Int))+1))))}):
  wpAny (model aX w) A (call (.builtin "list_iterator.__next__") [.ref I]) Q E s:=by
 refine wpAny_call_entry slot_listiter_next (T:="list_iterator") ⟨_,a,rfl⟩ entry_listiter_next ?_ (args_listiter_next _);show wpAny _ _ (field (.ref I) 0>>=_) _ _ s;refine wpAny_bind (wpAny_field a (vs:=#[.ref L,.int (i:Int) 0]) rfl (x:=.ref L) rfl ?_);show wpAny _ _ (if (Value.ref L==Value.none)=true then _ else _) _ _ s
 rw [if_neg (show ¬((Value.ref L==Value.none)=true) from Bool.false_ne_true)]
 show wpAny _ _ (field (.ref I) 1>>=_) _ _ s;refine wpAny_bind (wpAny_field a (vs:=#[.ref L,.int (i:Int) 0]) rfl (x:=.int (i:Int) 0) rfl ?_);refine wpAny_bind (wpAny_seqItems c (items:=b.reverse.toArray) (n:=n) rfl ?_);have e:=DO d;simp only [e];exact wpAny_bind (wpAny_setField a (vs:=#[.ref L,.int (i:Int) 0]) rfl (by simp) (wpAny_pure ⟨x,rfl,h⟩))
theorem gd (g:A.handled=none) (c:s.1.get? I=some (cN L i)) (j:s.1.get? L=some (aa b n)) (k:i=b.length)
  (h:E (.ref (s.1.1.size+1)) {s with heap:=((s.1.update I (Obj.mapFields (·.setIfInBounds 0 .none))).push (az [])).push (i7 "StopIteration" s.1.1.size .none)}):
  wpAny (model aX w) A (call (.builtin "list_iterator.__next__") [.ref I]) Q E s:=by
 refine wpAny_call_entry slot_listiter_next (T:="list_iterator") ⟨_,c,rfl⟩ entry_listiter_next ?_ (args_listiter_next _);show wpAny _ _ (field (.ref I) 0>>=_) _ _ s;refine wpAny_bind (wpAny_field c (vs:=#[.ref L,.int (i:Int) 0]) rfl (x:=.ref L) rfl ?_);show wpAny _ _ (if (Value.ref L==Value.none)=true then _ else _) _ _ s
 rw [if_neg (show ¬((Value.ref L==Value.none)=true) from Bool.false_ne_true)]
 show wpAny _ _ (field (.ref I) 1>>=_) _ _ s;refine wpAny_bind (wpAny_field c (vs:=#[.ref L,.int (i:Int) 0]) rfl (x:=.int (i:Int) 0) rfl ?_);show wpAny _ _ (seqItems? (.ref L)>>=_) _ _ s;refine wpAny_bind (wpAny_seqItems j (items:=b.reverse.toArray) (n:=n) rfl ?_);have e:b.reverse.toArray[(((i:Nat):Int)).toNat]? =none:=by simp [k]
 simp only [e];refine wpAny_bind (wpAny_rule (wpAny_bind (wpAny_setField c (vs:=#[.ref L,.int (i:Int) 0]) rfl (by simp) ?_)))
 show wpAny _ _ (newExc (.type "StopIteration") []>>=_) _ _ _;refine wpAny_bind ?_;simp only [newExc,newTuple];refine wpAny_bind (wpAny_newObj_type ?_ (by size_fits))
 refine wpAny_bind (m:=firstArgMember _ _) (wpAny_of_eq (a:=Value.none) (by first|rfl|(simp only [firstArgMember];rfl)) ?_)
 refine wpAny_newObj_type ?_ (by size_fits)
 dsimp only [raiseNew];refine wpAny_bind (wpAny_handled ?_);rw [show A.in1.handled=none from g]
 refine wpAny_bind (wpAny_pure (wpAny_throw ?_));have f:(s.1.update I (Obj.mapFields (·.setIfInBounds 0 .none))).objs.size=s.1.1.size:=(Heap.SameBut.update ..).1;have d:((s.1.update I (Obj.mapFields (·.setIfInBounds 0 .none))).push (az [])).objs.size=s.1.1.size+1:=by rw [aN,f]
 have:=h;rw [<-d] at this;rw [<-f] at this;exact this
end
section
variable {w:World} {F:aA} {a:P5} {i:Nat} {x:Value} {L:Addr} {n:Nat}
def hG (a:P5) (i:Nat) (x:Value):aY:=λY b Y=>
 {need:=0,Po:=0,code:=.call (.builtin "list_iterator.__next__") ⟨[.ref (fA b 0)],[]⟩,fs:=[(fA b 0,cN (fA b 1) i),(fA b 1,aa a (Pr (fO b 1)))],Pq:=[a.reverse[i]? =some x],wants:=[],
  upd:=λY Y=>[cN (fA b 1) (i+1),aa a (Pr (fO b 1))],nn:=0,new:=λY Y=>[],Pm:=0,res:=λY Y=>.end_ (.ok (.ret x)),gives:=λY Y=>[]}
theorem lI (c:Code) (b:Qa) (kn:Qb):(hG a i x c b kn).Ok w F:=by
 intro k _ C q _ _ A s R _ _ _ l d e m;have o:a.reverse[i]? =some x:=k _ (by simp [hG])
 have g:=d (fA b 0,cN (fA b 1) i) (by simp [hG])
 have j:=d (fA b 1,aa a (Pr (fO b 1))) (.tail _ (.head _));refine aK.o (aq (oz g.1 j.1 o ?_));have p:=dd (f:=Obj.mapFields (·.setIfInBounds 1 (rawInt (((i:Int))+1)))) g.1 rfl [(fA b 1,aa a (Pr (fO b 1)))] (λY h=>by cases List.mem_singleton.mp h;exact j.1) e s.toks (λY=>0)
 exact m _ (λY=>0) (λY=>0) F (dc l g.2 s.toks) (λY h=>absurd h (Nat.not_lt_zero _)) (λY h=>by cases h) p
def BN (L:Addr) (a:P5) (i:Nat) (x:Value):aY:=λY b Y=>
 {need:=0,Po:=0,code:=.call (.builtin "list_iterator.__next__") ⟨[.ref (fA b 0)],[]⟩,fs:=[(fA b 0,cN L i)],Pq:=[a.reverse[i]? =some x],wants:=[],
  upd:=λY Y=>[cN L (i+1)],nn:=0,new:=λY Y=>[],Pm:=0,res:=λY Y=>.end_ (.ok (.ret x)),gives:=λY Y=>[]}
theorem xj (k:F L=some (aa a n)) (c:Code) (g:Qa) (kn:Qb):(BN L a i x c g kn).Ok w F:=by
 intro l _ C q _ _ A s R _ _ _ j b d m;have o:a.reverse[i]? =some x:=l _ (.head _);have e:=b (fA g 0,cN L i) (.head _);refine aK.o (aq (oz e.1 (j _ _ k) o ?_));have p:=dd (f:=Obj.mapFields (·.setIfInBounds 1 (rawInt (((i:Int))+1)))) e.1 rfl [] (λY h=>by cases h) d s.toks (λY=>0)
 exact m _ (λY=>0) (λY=>0) F (dc j e.2 s.toks) (λY h=>absurd h (Nat.not_lt_zero _)) (λY h=>by cases h) p
noncomputable def lJ (n i:Nat):Nat:=n+i
theorem qv {s:Shared} {I:Addr} {o:Obj} (j:s.1.get? I=some o) (k:(Obj.mapFields (·.setIfInBounds 0 .none) o).isFreed=false) (b:Qa) (d:∀p∈b,s.1.get? p.1=some p.2) (e:(((I,o)::b).map (·.1)).Nodup) (c:String):
  fk s {s with heap:=((s.1.update I (Obj.mapFields (·.setIfInBounds 0 .none))).push (az [])).push (i7 c s.1.1.size .none)} ((I,o)::b) (Obj.mapFields (·.setIfInBounds 0 .none) o::b.map (·.2)) 2 [az [],i7 c s.1.1.size .none] (lJ s.1.1.size):=by
 have g:(s.1.update I (Obj.mapFields (·.setIfInBounds 0 .none))).objs.size=s.1.1.size:=(Heap.SameBut.update ..).1;have p:=dd (f:=Obj.mapFields (·.setIfInBounds 0 .none)) j k b d e s.toks (λY=>0);have l:=p.push rfl (az []) rfl s.toks (λY=>s.1.1.size) (λY h=>absurd h (Nat.not_lt_zero _)) g.symm;exact l.push rfl (i7 c s.1.1.size .none) rfl s.toks (lJ s.1.1.size) (λi m=>by
  have:i=0:=by lia
  subst this;rfl) (by show _=(Heap.push _ _).objs.size;rw [aN,g];rfl)
def m7 (a:P5) (i:Nat):aY:=λY b Y=>
 {need:=0,Po:=0,code:=.call (.builtin "list_iterator.__next__") ⟨[.ref (fA b 0)],[]⟩,fs:=[(fA b 0,cN (fA b 1) i),(fA b 1,aa a (Pr (fO b 1)))],Pq:=[i=a.length],wants:=[],hand:=some none,
  upd:=λY Y=>[xi i,aa a (Pr (fO b 1))],nn:=2,new:=λn Y=>[az [],i7 "StopIteration" (n 0) .none],Pm:=0,res:=λn Y=>.end_ (.error (.ref (n 1))),gives:=λY Y=>[]}
theorem qw {s:Shared} {I:Addr} {f:Obj->Obj} {c o2:Obj} (d:cK F s.1) (h:F I=none) (t:Nat) {S:Addr->Prop}:ie F F s {s with heap:=((s.1.update I f).push c).push o2,toks:=t} S:=by
 have g:=dc (f:=f) d h s.toks (S:=S);exact ⟨g.le,λb o e=>Heap.get?_push_of_some _ (Heap.get?_push_of_some _ (g.base b o e)),g.new⟩
theorem lK (c:Code) (b:Qa) (kn:Qb):(m7 a i c b kn).Ok w F:=by
 intro m _ C o _ p A s R e _ _ k d f q;have r:o=none:=p none rfl;subst r;have t:i=a.length:=m _ (by simp [m7])
 have g:=d (fA b 0,cN (fA b 1) i) (by simp [m7])
 have l:=d (fA b 1,aa a (Pr (fO b 1))) (.tail _ (.head _));refine aK.o (aq (gd e g.1 l.1 t ?_));exact q _ (lJ s.1.1.size) (λY=>0) F (qw k g.2 s.toks) (λj Y=>bq k (Nat.le_add_right _ _)) (λY h=>by cases h)
  (qv g.1 rfl [(fA b 1,aa a (Pr (fO b 1)))] (λY h=>by cases List.mem_singleton.mp h;exact l.1) f "StopIteration")
def BO (L:Addr) (a:P5) (i:Nat):aY:=λY b Y=>
 {need:=0,Po:=0,code:=.call (.builtin "list_iterator.__next__") ⟨[.ref (fA b 0)],[]⟩,fs:=[(fA b 0,cN L i)],Pq:=[i=a.length],wants:=[],hand:=some none,
  upd:=λY Y=>[xi i],nn:=2,new:=λn Y=>[az [],i7 "StopIteration" (n 0) .none],Pm:=0,res:=λn Y=>.end_ (.error (.ref (n 1))),gives:=λY Y=>[]}
theorem xk (l:F L=some (aa a n)) (c:Code) (k:Qa) (kn:Qb):(BO L a i c k kn).Ok w F:=by
 intro m _ C o _ p A s R b _ _ d e f q;have r:o=none:=p none rfl;subst r;have t:i=a.length:=m _ (.head _);have g:=e (fA k 0,cN L i) (.head _);refine aK.o (aq (gd b g.1 (d _ _ l) t ?_));exact q _ (lJ s.1.1.size) (λY=>0) F (qw d g.2 s.toks) (λj Y=>bq d (Nat.le_add_right _ _)) (λY h=>by cases h)
  (qv g.1 rfl [] (λY h=>by cases h) f "StopIteration")
end
end
section
open PySem.Builtin.Re
theorem kd:Slot "re.Pattern" "search" "re.Pattern.search":=
 .of (owner:="re.Pattern") (n:="search") (by rw [typeLookup_type,builtinLookup_eq_fast];kernel_rfl) (by decide+kernel) (by decide+kernel) (by decide+kernel)
  (by first|exact .inl (by decide+kernel)|exact .inr (by decide+kernel)) (by rw [isSubtype_type];kernel_rfl)
theorem i8:entryFor table "re.Pattern.search"=some Builtin.«re.Pattern.search»:=entryFor_of_fast (by kernel_rfl)
theorem ke (a b:Value):argsOk "re.Pattern.search" ⟨[a,b],[]⟩:=by unfold argsOk;kernel_rfl
theorem eY {m:Sre.M} (h:m.outcome.isSome=true):∀n,Sre.M.runFor n m=m
 |0=>rfl
 |n+1=>by
  show (if m.outcome.isSome then m else Sre.M.runFor n m.step)=m
  rw [h];rfl
theorem i9:∀(a b:Nat) (m:Sre.M),Sre.M.runFor (a+b) m=Sre.M.runFor b (Sre.M.runFor a m)
 |0,b,m=>by rw [Nat.zero_add];rfl
 |a+1,b,m=>by
  cases h:m.outcome.isSome with
  |true=>rw [eY h,eY h,eY h]
  |false=>
   have c:Sre.M.runFor (a+1+b) m=Sre.M.runFor (a+b) m.step:=by
    rw [show a+1+b=(a+b)+1 by lia]
    show (if m.outcome.isSome then m else Sre.M.runFor (a+b) m.step)=_
    rw [h];rfl
   have d:Sre.M.runFor (a+1) m=Sre.M.runFor a m.step:=by
    show (if m.outcome.isSome then m else Sre.M.runFor a m.step)=_
    rw [h];rfl
   rw [c,d,i9 a b m.step]
section
variable {M:Model} {A:Around} {E:Value->Shared->Prop} {s:Shared}
theorem qx {Q:Sre.M->Shared->Prop}:∀(a:Nat) {n:Nat} {m:Sre.M},n<=4*a->n≠0->(Sre.M.runFor n m).outcome.isSome=true->Q (Sre.M.runFor n m) s->wpAny M A (reDrive a m) Q E s
 |0,n,m,d,f,_,_=>by lia
 |t+1,n,m,d,f,b,c=>by
  show wpAny M A (if (Sre.M.runFor 4 m).outcome.isSome=true then pure (Sre.M.runFor 4 m) else (do rule "sre.turn";reDrive t (Sre.M.runFor 4 m))) Q E s
  by_cases g:n<=4
  ·have e:Sre.M.runFor 4 m=Sre.M.runFor n m:=by
    rw [show (4:Nat)=n+(4-n) by omega,i9,eY b]
   rw [e,if_pos b];exact wpAny_pure c
  ·cases h:(Sre.M.runFor 4 m).outcome.isSome with
   |true=>
    have e:Sre.M.runFor n m=Sre.M.runFor 4 m:=by
     rw [show n=4+(n-4) by lia,i9,eY h]
    rw [if_pos rfl,<-e];exact wpAny_pure c
   |false=>
    rw [if_neg (by decide)]
    have e:Sre.M.runFor n m=Sre.M.runFor (n-4) (Sre.M.runFor 4 m):=by
     rw [<-i9];congr 1;lia
    refine wpAny_bind (wpAny_rule ?_);exact qx t (n:=n-4) (by lia) (by lia) (by rw [<-e];exact b) (by rw [<-e];exact c)
theorem th {Q:PUnit->Shared->Prop} {f:Nat->PUnit->Sem (ForInStep PUnit)} (a:∀i (Q:ForInStep PUnit->Shared->Prop),Q (.yield ⟨⟩) s->wpAny M A (f i ⟨⟩) Q E s):∀(l:P1),Q ⟨⟩ s->wpAny M A (forIn l PUnit.unit f) Q E s
 |[],h=>wpAny_pure h
 |i::l,h=>by
  rw [List.forIn_cons];exact wpAny_bind (a i _ (th a l h))
theorem jM {Q:Option Sre.M->Shared->Prop} {m:Sre.M} {P:Sre.M->Prop} (j:Go 100000 m P) (h:∀b,P b->(b.outcome=some .matched/\Q (some b) s)\/(b.outcome=some .failed/\Q none s)):wpAny M A (reRunToEnd m) Q E s:=by
 obtain ⟨n,p,k⟩:=j;have d:=h _ k;have f:(Sre.M.runFor n m).outcome.isSome=true:=by rcases d with ⟨x,_⟩|⟨x,_⟩<;>rw [x]<;>rfl
 have c:∃a,a<=100001/\a≠0/\Sre.M.runFor a m=Sre.M.runFor n m:=⟨n+1,by lia,by lia,by rw [i9,eY f]⟩
 obtain ⟨a,l,o,e⟩:=c;unfold reRunToEnd;refine wpAny_bind (qx (2^64) (n:=a) (Nat.le_trans l (by decide)) o (by rw [e];exact f) ?_)
 rw [e];refine wpAny_bind (th (λi Q g=>?_) _ ?_)
 ·split
  ·exact wpAny_bind (wpAny_rule (wpAny_pure g))
  ·exact wpAny_pure g
 rcases d with ⟨x,q⟩|⟨x,q⟩
 ·rw [x];exact wpAny_pure q
 ·rw [x];exact wpAny_pure q
end
end
section
open PySem.Builtin.Re
section
variable {w:World} {A:Around} {E:Value->Shared->Prop} {s:Shared} {Q:Value->Shared->Prop} {p c:Addr} {d v1 v3 v4:Value} {l:P1} {t:Tok} {C:P1}
noncomputable def ky (d v1 v3 v4:Value) (g:Int) (c:Addr):Obj:={cls:=.type "re.Pattern",data:=.fields #[d,v1,.int g 0,v3,v4,.ref c,.int 0 0]}
def iy (C:P1):Obj:=az (C.map λ(k:Nat)=>.int (k:Int) 0)
def cO (l:P1) (t:Tok) (p u:Addr):Obj:={cls:=.type "re.Match",data:=.fields #[.str (mk l) t,.ref p,.int 0 0,.int (l.length:Nat) 0,.int 1 0,.ref u]}
def eZ (h b e:Nat):Obj:=az [.int 0 0,.int (h:Int) 0,.int (b:Int) 0,.int (e:Int) 0]
theorem lL (C:P1):(((C.map λ(k:Nat)=>Value.int (k:Int) 0).toArray.map reRawOf).map (·.toNat))=C.toArray:=by
 apply Array.ext';simp only [Array.toList_map,List.map_map]
 induction C with
 |nil=>rfl
 |cons x C a=>
  rw [List.map_cons,a];rfl
theorem m8 {Q:ReTarget->Shared->Prop} (b:s.1.get? p=some (ky d v1 v3 v4 1 c)) (e:s.1.get? c=some (iy C)) (f:l.length<=1000)
  (h:Q {pattern:=.ref p,string:=.str (mk l) t,code:=C.toArray,text:=(mk l).cps,kind:=0,groups:=1,pos:=0,lim:=l.length} s):
  wpAny (model aX w) A (reTarget "re.Pattern.search" "search" ⟨[.ref p,.str (mk l) t],[]⟩) Q E s:=by
 have g:reNamed "re.Pattern.search" "search" ["string","pos","endpos"] 1 [.str (mk l) t] []=pure [some (.str (mk l) t),none,none]:=by kernel_rfl
 unfold reTarget;show wpAny _ _ (reNamed "re.Pattern.search" "search" ["string","pos","endpos"] 1 [.str (mk l) t] []>>=_) _ _ s;rw [g];refine wpAny_bind (wpAny_pure ?_);refine wpAny_bind (wpAny_pure ?_);refine wpAny_bind (wpAny_pure ?_);show wpAny _ _ (fieldsOf (.ref p)>>=_) _ _ s;refine wpAny_bind ?_;unfold fieldsOf;refine wpAny_bind (wpAny_load b ?_);refine wpAny_pure ?_;show wpAny _ _ (reTextOf (.str (mk l) t)>>=_) _ _ s;refine wpAny_bind (wpAny_of_eq (a:=((mk l).cps,0)) rfl ?_);show wpAny _ _ (reNoCollectionInside (.str (mk l) t) 0>>=_) _ _ s;refine wpAny_bind (wpAny_of_eq (a:=()) rfl ?_);refine wpAny_bind ?_;unfold reRawItems;refine wpAny_bind (wpAny_seqItems e (items:=(C.map λ(k:Nat)=>Value.int (k:Int) 0).toArray) (n:=0) rfl ?_);refine wpAny_pure (wpAny_pure ?_);have i:=lL C;have j:min ((2:Int)^63-1).toNat (mk l).cps.size=l.length:=by
  show min _ l.length=_;exact Nat.min_eq_right (Nat.le_trans f (by decide))
 have m:min (0:Int).toNat (mk l).cps.size=0:=Nat.zero_min _;rw [<-j] at h;rw [<-i] at h;exact h
theorem qy {m:Sre.M} {h b e:Nat} (a:Mt 0 h #[some b,some e] 1 1 m) (i:b<=e)
  (g:Q (.ref (s.1.1.size+1)) {s with heap:=(s.1.push (eZ h b e)).push (cO l t p s.1.1.size)}):
  wpAny (model aX w) A (reNewMatch (.ref p) (.str (mk l) t) 1 0 l.length m) Q E s:=by
 have j:=a.2.1;have k:=a.2.2.1;have n:=a.2.2.2.1;have o:=a.2.2.2.2.1;have q:=a.2.2.2.2.2;unfold reNewMatch;rw [j,k,n,o,q];have f:decide (e<b)=false:=by simp;omega
 show wpAny _ _ (if ((decide (((2*0+1:Nat):Int)<=1)&&decide (e<b))||false)=true then _ else (newTuple [rawInt 0,rawInt (h:Int),rawInt (b:Int),rawInt (e:Int)]>>=λv=>newFields "re.Match" [Value.str (mk l) t,Value.ref p,rawInt 0,rawInt (l.length:Nat),rawInt 1,v])) _ _ s
 rw [f,if_neg (by decide)]
 refine wpAny_bind ?_;refine wpAny_newObj_type ?_ (by size_fits)
 refine wpAny_newObj_type ?_ (by size_fits)
 have r:=aN s.1 (eZ h b e);simp only [<-r] at g;exact g
theorem oA (a:s.1.get? p=some (ky d v1 v3 v4 1 c)) (b:s.1.get? c=some (iy C)) (e:l.length<=1000) (f:Go 100000 (gW C.toArray l 1) Fl) (h:Q .none s):
  wpAny (model aX w) A (call (.builtin "re.Pattern.search") [.ref p,.str (mk l) t]) Q E s:=by
 refine wpAny_call_entry kd (T:="re.Pattern") ⟨_,a,rfl⟩ i8 ?_ (ke _ _);refine wpAny_bind (m8 a b e ?_);refine wpAny_bind (jM f λi g=>.inr ⟨g,?_⟩);exact wpAny_pure ⟨.none,rfl,h⟩
theorem mD {h b e:Nat} (f:s.1.get? p=some (ky d v1 v3 v4 1 c)) (i:s.1.get? c=some (iy C)) (j:l.length<=1000) (k:Go 100000 (gW C.toArray l 1) (Mt 0 h #[some b,some e] 1 1)) (a:b<=e)
  (m:Q (.ref (s.1.1.size+1)) {s with heap:=(s.1.push (eZ h b e)).push (cO l t p s.1.1.size)}):
  wpAny (model aX w) A (call (.builtin "re.Pattern.search") [.ref p,.str (mk l) t]) Q E s:=by
 refine wpAny_call_entry kd (T:="re.Pattern") ⟨_,f,rfl⟩ i8 ?_ (ke _ _);refine wpAny_bind (m8 f i j ?_);refine wpAny_bind (jM k λn g=>.inl ⟨g.1,?_⟩);refine wpAny_bind (qy g a ?_);exact wpAny_pure ⟨_,rfl,m⟩
end
end
section
open PySem.Builtin.Re
noncomputable def lM:P1:=[14,4,0,1,4294967295,6,0,24,9,0,4294967295,13,4,8,12,0,1,17,0,24,19,1,4294967295,13,14,21,9,0,671092736,0,0,0,0,0,0,8,12,0,1,17,1,1]
noncomputable def t7:P1:=[14,4,0,3,4294967295,6,0,24,9,0,4294967295,13,4,8,12,0,1,16,61,24,9,0,4294967295,13,4,8,12,0,1,16,34,17,0,24,12,0,4294967295,13,7,21,16,34,16,92,0,1,23,19,0,4294967295,16,92,2,24,12,0,4294967295,13,7,21,16,34,16,92,0,1,18,17,1,16,34,1]
noncomputable def DP:P1:=[14,4,0,1,4294967295,6,0,24,9,0,4294967295,13,4,8,12,0,1,16,61,24,9,0,4294967295,13,4,8,12,0,1,17,0,24,14,0,4294967295,13,9,21,8,12,16,59,16,44,0,1,17,1,1]
def lN (P:Params) (p:Addr) (C:P1) (g:Int):Prop:=∃a b d e c,top P p=some (ky a b d e g c)/\top P c=some (iy C)
theorem t8 (P:Params):lN P 61 lM 1:=⟨_,_,_,_,60,by (show top P 61=some (ky (.str "^\\s*([^=\\s;,]+)" 371) (.int 32 416) .none .none 1 60);kernel_rfl),by kernel_rfl⟩
theorem DQ (P:Params):lN P 66 t7 1:=⟨_,_,_,_,65,by (show top P 66=some (ky (.str "^\\s*=\\s*\\\"([^\\\"\\\\]*(?:\\\\.[^\\\"\\\\]*)*)\\\"" 419) (.int 32 494) .none .none 1 65);kernel_rfl),by kernel_rfl⟩
theorem H9 (P:Params):lN P 71 DP 1:=⟨_,_,_,_,70,by (show top P 71=some (ky (.str "^\\s*=\\s*([^\\s;,]*)" 497) (.int 32 549) .none .none 1 70);kernel_rfl),by kernel_rfl⟩
section
variable {w:World} {F:aA} {p:Addr} {C l:P1} {h b e:Nat}
def dq (p:Addr) (C l:P1):aY:=λa Y Y=>
 {need:=0,Po:=0,code:=.call (.builtin "re.Pattern.search") ⟨[.ref p,.str (mk l) (aR (bD a 1))],[]⟩,fs:=[],Pq:=[l.length<=900/\Go 100000 (gW C.toArray l 1) Fl],wants:=[],
  upd:=λY Y=>[],nn:=0,new:=λY Y=>[],Pm:=0,res:=λY Y=>.end_ (.ok (.ret .none)),gives:=λY Y=>[]}
theorem dO (d:Le (top w.2) F) (f:lN w.2 p C 1) (y:Code) (g:Qa) (kn:Qb):(dq p C l y g kn).Ok w F:=by
 intro i _ r t _ _ A s R _ _ _ a j k m;obtain ⟨u,n⟩:l.length<=900/\Go 100000 (gW C.toArray l 1) Fl:=i _ (.head _);obtain ⟨v,x,z,B,c,o,q⟩:=f;refine aK.o (aq (oA (a _ _ (d _ _ o)) (a _ _ (d _ _ q)) (by lia) n ?_))
 exact m s (λY=>0) (λY=>0) F (bz a s.toks) (λY h=>absurd h (Nat.not_lt_zero _)) (λY h=>by cases h) (jz s s.toks _)
def cD (p:Addr) (C l:P1) (h b e:Nat):aY:=λa Y Y=>
 {need:=0,Po:=0,code:=.call (.builtin "re.Pattern.search") ⟨[.ref p,.str (mk l) (aR (bD a 1))],[]⟩,fs:=[],Pq:=[l.length<=900/\b<=e/\Go 100000 (gW C.toArray l 1) (Mt 0 h #[some b,some e] 1 1)],wants:=[],
  upd:=λY Y=>[],nn:=2,new:=λn Y=>[eZ h b e,cO l (aR (bD a 1)) p (n 0)],Pm:=0,res:=λn Y=>.end_ (.ok (.ret (.ref (n 1)))),gives:=λY Y=>[]}
theorem xm {s:Shared} (a o2:Obj) (c:a.isFreed=false) (d:o2.isFreed=false):fk s {s with heap:=(s.1.push a).push o2} [] [] 2 [a,o2] (lJ s.1.1.size):=by
 have f:=(jz s s.toks (λY=>0)).push rfl a c s.toks (λY=>s.1.1.size) (λY h=>absurd h (Nat.not_lt_zero _)) rfl;exact f.push rfl o2 d s.toks (lJ s.1.1.size) (λi g=>by
  have:i=0:=by lia
  subst this;rfl) (by show _=(Heap.push _ _).objs.size;simp only [aN];rfl)
theorem xn {s:Shared} {a o2:Obj} (c:cK F s.1) {S:Addr->Prop}:ie F F s {s with heap:=(s.1.push a).push o2} S:=
 ⟨Le.refl F,λb o e=>Heap.get?_push_of_some _ (Heap.get?_push_of_some _ (c b o e)),λY Y e=>.inl e⟩
theorem d0 (d:Le (top w.2) F) (f:lN w.2 p C 1) (y:Code) (g:Qa) (kn:Qb):(cD p C l h b e y g kn).Ok w F:=by
 intro j _ u v _ _ A s R _ _ _ a k m n;obtain ⟨x,o,q⟩:l.length<=900/\b<=e/\Go 100000 (gW C.toArray l 1) (Mt 0 h #[some b,some e] 1 1):=j _ (.head _);obtain ⟨z,B,D,E,c,r,t⟩:=f;refine aK.o (aq (mD (a _ _ (d _ _ r)) (a _ _ (d _ _ t)) (by lia) q o ?_))
 exact n _ (lJ s.1.1.size) (λY=>0) F (xn a) (λi Y=>bq a (Nat.le_add_right _ _)) (λY h=>by cases h) (xm _ _ rfl rfl)
end
end
section
open PySem.Builtin.Re
theorem lO:Slot "re.Match" "group" "re.Match.group":=
 .of (owner:="re.Match") (n:="group") (by rw [typeLookup_type,builtinLookup_eq_fast];kernel_rfl) (by decide+kernel) (by decide+kernel) (by decide+kernel)
  (by first|exact .inl (by decide+kernel)|exact .inr (by decide+kernel)) (by rw [isSubtype_type];kernel_rfl)
theorem kf:entryFor table "re.Match.group"=some Builtin.«re.Match.group»:=entryFor_of_fast (by kernel_rfl)
theorem lP (a b:Value):argsOk "re.Match.group" ⟨[a,b],[]⟩:=by unfold argsOk;kernel_rfl
theorem t9:Slot "re.Match" "span" "re.Match.span":=
 .of (owner:="re.Match") (n:="span") (by rw [typeLookup_type,builtinLookup_eq_fast];kernel_rfl) (by decide+kernel) (by decide+kernel) (by decide+kernel)
  (by first|exact .inl (by decide+kernel)|exact .inr (by decide+kernel)) (by rw [isSubtype_type];kernel_rfl)
theorem rZ:entryFor table "re.Match.span"=some Builtin.«re.Match.span»:=entryFor_of_fast (by kernel_rfl)
theorem ua (a b:Value):argsOk "re.Match.span" ⟨[a,b],[]⟩:=by unfold argsOk;kernel_rfl
section
variable {w:World} {A:Around} {E:Value->Shared->Prop} {s:Shared} {Q:Value->Shared->Prop} {m p u:Addr} {l:P1} {t c:Tok} {h b e:Nat}
theorem qz {Q:ReFound->Shared->Prop} (d:s.1.get? m=some (cO l t p u)) (f:s.1.get? u=some (eZ h b e))
  (a:Q {fields:=#[.str (mk l) t,.ref p,.int 0 0,.int (l.length:Nat) 0,.int 1 0,.ref u],spans:=#[0,(h:Int),(b:Int),(e:Int)]} s):wpAny (model aX w) A (reFound (.ref m)) Q E s:=by
 unfold reFound;refine wpAny_bind ?_;unfold fieldsOf;refine wpAny_bind (wpAny_load d ?_);refine wpAny_pure ?_;refine wpAny_bind ?_;unfold reRawItems;refine wpAny_bind (wpAny_seqItems f (items:=[Value.int 0 0,.int (h:Int) 0,.int (b:Int) 0,.int (e:Int) 0].toArray) (n:=0) rfl ?_);have e:(#[Value.int 0 0,.int (h:Int) 0,.int (b:Int) 0,.int (e:Int) 0].map reRawOf)= #[0,(h:Int),(b:Int),(e:Int)]:=by kernel_rfl
 rw [<-e] at a;exact wpAny_pure (wpAny_pure a)
theorem xo (d:s.1.get? m=some (cO l t p u)) (f:s.1.get? u=some (eZ h b e)) (o:l.length<=1000) (i:∀j k,Q (.str (mk ((l.drop b).take (e-b))) j) {s with toks:=k}):
  wpAny (model aX w) A (call (.builtin "re.Match.group") [.ref m,.int 1 c]) Q E s:=by
 refine wpAny_call_entry lO (T:="re.Match") ⟨_,d,rfl⟩ kf ?_ (lP _ _);show wpAny _ _ (noKeywords "Match.group" ⟨[.ref m,.int 1 c],[]⟩>>=λY=>reFound (.ref m)>>=λx=>reGroupNumber x (.int 1 c)>>=λg=>reGroupText x g .none>>=λv=>ret v) _ _ s;refine wpAny_bind (wpAny_pure ?_);refine wpAny_bind (qz d f ?_);refine wpAny_bind (wpAny_of_eq (a:=1) (by kernel_rfl) ?_)
 show wpAny _ _ ((if (decide ((b:Int)<0)||decide ((e:Int)<0))=true then pure Value.none else (reTextOf (.str (mk l) t)>>=λx=>reSlice x.1 x.2 (b:Int).toNat (e:Int).toNat))>>=_) _ _ s
 rw [if_neg (by simp)]
 refine wpAny_bind (wpAny_bind (wpAny_of_eq (a:=((mk l).cps,0)) rfl ?_));have n:(⟨(mk l).cps.extract b e⟩:Str)=mk ((l.drop b).take (e-b)):=by
  show (⟨(⟨l⟩:Array Nat).extract b e⟩:Str)=⟨⟨_⟩⟩;congr 1;apply Array.ext';simp [List.extract_eq_take_drop]
 show wpAny _ _ (mkStr ⟨(mk l).cps.extract b e⟩) _ _ s;rw [n];unfold mkStr;rw [if_neg (by rw [bG];simp only [List.length_take,List.length_drop];unfold sizeLine;lia)]
 refine wpAny_bind (wpAny_fresh ?_);exact wpAny_pure (wpAny_pure ⟨_,rfl,i _ _⟩)
theorem zV (d:s.1.get? m=some (cO l t p u)) (f:s.1.get? u=some (eZ h b e)) (g:∀i j k,Q (.ref s.1.1.size) {s with heap:=s.1.push (az [.int 0 i,.int (h:Int) j]),toks:=k}):
  wpAny (model aX w) A (call (.builtin "re.Match.span") [.ref m,.int 0 c]) Q E s:=by
 refine wpAny_call_entry t9 (T:="re.Match") ⟨_,d,rfl⟩ rZ ?_ (ua _ _);have n:selfAndSome "Match.span" "span" 0 1 ⟨[.ref m,.int 0 c],[]⟩=pure (.ref m,[.int 0 c]):=by kernel_rfl
 refine wpAny_bind ?_;unfold reOneGroup;rw [n];refine wpAny_bind (wpAny_pure ?_);refine wpAny_bind (qz d f ?_);refine wpAny_bind (wpAny_of_eq (a:=0) (by kernel_rfl) ?_)
 refine wpAny_pure ?_;refine wpAny_bind (wpAny_bind (wpAny_fresh (wpAny_pure ?_)));refine wpAny_bind (wpAny_bind (wpAny_fresh (wpAny_pure ?_)));refine wpAny_bind (wpAny_newObj_type ?_ (by size_fits))
 exact wpAny_pure ⟨_,rfl,g _ _ _⟩
end
section
variable {w:World} {F:aA} {p:Addr} {l c:P1} {h b e:Nat}
def cI (p:Addr) (l c:P1) (h b e:Nat):aY:=λd a Y=>
 {need:=0,Po:=0,code:=.call (.builtin "re.Match.group") ⟨[.ref (fA a 0),.int 1 (aR (bD d 1))],[]⟩,fs:=[(fA a 0,cO l (aE (fO a 0) 0) p (fA a 1)),(fA a 1,eZ h b e)],Pq:=[l.length<=900/\(l.drop b).take (e-b)=c],wants:=[],
  upd:=λY Y=>[cO l (aE (fO a 0) 0) p (fA a 1),eZ h b e],nn:=0,new:=λY Y=>[],Pm:=1,res:=λY f=>.end_ (.ok (.ret (.str (mk c) (f 0)))),gives:=λY Y=>[]}
theorem e9 (y:Code) (d:Qa) (kn:Qb):(cI p l c h b e y d kn).Ok w F:=by
 intro f _ t u _ _ A s R _ _ _ g a i j;obtain ⟨v,rfl⟩:l.length<=900/\(l.drop b).take (e-b)=c:=f _ (by simp [cI])
 have m:=a (fA d 0,cO l (aE (fO d 0) 0) p (fA d 1)) (by simp [cI])
 have n:=a (fA d 1,eZ h b e) (by simp [cI])
 refine aK.o (aq (xo m.1 n.1 (by lia) λo k=>?_))
 exact j {s with toks:=k} (λY=>0) (λY=>o) F (bz g _) (λY h=>absurd h (Nat.not_lt_zero _)) (λY h=>by cases h) (a5 s _ _ (λq r=>(a q r).1) _)
def cg (p:Addr) (l:P1) (h b e:Nat):aY:=λf a Y=>
 {need:=0,Po:=0,code:=.call (.builtin "re.Match.span") ⟨[.ref (fA a 0),.int 0 (aR (bD f 1))],[]⟩,fs:=[(fA a 0,cO l (aE (fO a 0) 0) p (fA a 1)),(fA a 1,eZ h b e)],Pq:=[],wants:=[],
  upd:=λY Y=>[cO l (aE (fO a 0) 0) p (fA a 1),eZ h b e],nn:=1,new:=λY d=>[az [.int 0 (d 0),.int (h:Int) (d 1)]],Pm:=2,res:=λn Y=>.end_ (.ok (.ret (.ref (n 0)))),gives:=λY Y=>[]}
noncomputable def m9 (a b i:Nat):Tok:=match i with
 |0=>a
 |_=>b
theorem d1 (y:Code) (d:Qa) (kn:Qb):(cg p l h b e y d kn).Ok w F:=by
 intro x _ z B _ _ A s R _ _ _ j a m n;have r:=a (fA d 0,cO l (aE (fO d 0) 0) p (fA d 1)) (by simp [cg])
 have t:=a (fA d 1,eZ h b e) (by simp [cg])
 refine aK.o (aq (zV r.1 t.1 λf g k=>?_));have u:=a5 s s.toks _ (λq v=>(a q v).1) (λY=>0);exact n {s with heap:=s.1.push (az [.int 0 f,.int (h:Int) g]),toks:=k} (λY=>s.1.1.size) (m9 f g) F ⟨Le.refl F,λb o e=>Heap.get?_push_of_some _ (j b o e),λY Y e=>.inl e⟩ (λi Y=>bq j (Nat.le_refl _)) (λY h=>by cases h)
  (u.push rfl (az [.int 0 f,.int (h:Int) g]) rfl k (λY=>s.1.1.size) (λY h=>absurd h (Nat.not_lt_zero _)) rfl)
end
end
section
section
variable {w:World} {F:aA} {l:P5} {n:Nat} {b:Addr} {v:Bool}
def lQ (b:Addr) (l:P5) (v:Bool):aY:=λY a Y=>
 {need:=0,Po:=0,code:=.call (.builtin "list.__ne__") ⟨[.ref b,.ref (fA a 0)],[]⟩,fs:=[(fA a 0,aa [] 0)],Pq:=[(!l.isEmpty)=v],wants:=[],
  upd:=λY Y=>[aa [] 0],nn:=0,new:=λY Y=>[],Pm:=0,res:=λY Y=>.end_ (.ok (.ret (.bool v))),gives:=λY Y=>[]}
theorem ub (m:F b=some (aa l n)) (c:Code) (a:Qa) (kn:Qb):(lQ b l v c a kn).Ok w F:=by
 intro o _ C y _ _ A s R _ _ _ g d p r;have i:(!l.isEmpty)=v:=o _ (by simp [lQ])
 have k:=d (fA a 0,aa [] 0) (.head _);have f:=g _ _ m;refine aK.o (aq ?_);have e:R (.ok (.ret (.bool v))) s:=r s (λY=>0) (λY=>0) F (bz g s.toks) (λY h=>absurd h (Nat.not_lt_zero _)) (λY h=>by cases h) (a5 s s.toks [(fA a 0,aa [] 0)] (λq t=>(d q t).1) _)
 cases l with
 |nil=>
  subst i;exact call_meets PySem.F.slot_list_ne ⟨_,f,rfl⟩ PySem.F.entry_list_ne (PySem.F.args_list_ne_2 _ _) (SeqAt.list_neAt b (fA a 0) ([]:P5).reverse.toArray ([]:P5).reverse.toArray n 0 none none #[] #[] rfl λY=>true)
   ⟨f,k.1,λj u Y=>absurd u (Nat.not_lt_zero _),e⟩
 |cons x l=>
  subst i;exact call_meets PySem.F.slot_list_ne ⟨_,f,rfl⟩ PySem.F.entry_list_ne (PySem.F.args_list_ne_2 _ _) (SeqAt.list_ne_lengthsAt b (fA a 0) (x::l).reverse.toArray ([]:P5).reverse.toArray n 0 none none #[] #[] (by simp))
   ⟨f,k.1,e⟩
end
noncomputable def Ia:Stmt->Expr
 | .Return (some e) _=>e
 |_=>.Constant .none 0 ⟨0,0,0,0⟩
noncomputable def Mw:Expr->List Expr
 | .Tuple a _ _=>a
 |_=>[]
noncomputable def ja:Expr->Scope
 | .ListComp _ _ s _=>s
 |_=>default
def Mx:Expr:=(Mw (Ia (nO (bQ (er 38)) 9))).getD 0 (.Constant .none 0 ⟨0,0,0,0⟩)
def NG (a d:Addr):Env:={scope:=ja Mx,locals:=d,globals:=3,cells:=[],qual:="_law_told.<locals>.",func:=none,code:=.ref 823,frame:=some a,builtins:=0}
def zW (b a d c:Addr):Code:=.compLoop Mx 0 (.ref b) (.ref a) (NG c d)
def Ib (b a d c:Addr):Code:=.compStart Mx 0 (.ref b) (.ref a) (NG c d)
def ti (P:Params) (k:Str) (t:Tok) (a:P6):Obj:={cls:=.type "dict",data:=match a with
 |none=>.dict #[] 0
 |some v=>.dict #[dE P k t v] 1}
noncomputable def NH (a:P6) (b t:Tok):Tok:=match a with
 |none=>t
 |some _=>b
end
def BP (a:P2):Nat->Tok:=bl aO [(0,(a 0))]
def Ic (w:World) (i:Nat) (e:P5) (j:Nat) (l:P5) (m:Nat) (o:P6) (p:Tok) (f:Addr) (q:Value) (g r b:Addr) (c:P5) (s:Nat):a7:={
 B:=λa=>[kr f,bO q g,eT g,d5 r,d6],Hd:=none,O:=oT [] (aC [([],hG e i (.ref b)),([],lQ b c true),([],bg l)]),k:=4,nn:=0,Pm:=1,H:=aQ 0x18d66a4e401f005f0bfdeb8b1,N:=35,
 cF:=λa=>zW (a 0) (a 2) (a 3) f,oF:=λa=>[cN (a 1) i,aa e j,aa l m,ti w.2 "pairs" p o],
 uF:=λa n h=>[cN (a 1) (i+1),aa e j,aa (.ref b::l) (m+1),ti w.2 "pairs" (NH o p ((BP h) 0)) (some (.ref b))],nF:=λa n h=>[],rF:=λa n h=>.again (zW (a 0) (a 2) (a 3) f),idx:=[],Pn:=[0],Py:=cW b (aa c s),d:=100,u:=1000,
 facts:=[true=true,l.length<=1000,true=true,(!c.isEmpty)=true,true=true,e.reverse[i]? =some (.ref b)]}
theorem Ie:(Ic w i e f l h a j k m g n b c o).Runs w:=by intro d p q;cases a<;>kernel_rfl
def Ig (w:World) (i:Nat) (e:P5) (j:Nat) (l:P5) (m:Nat) (o:P6) (p:Tok) (f:Addr) (q:Value) (g r b:Addr) (c:P5) (s:Nat):a7:={
 B:=λa=>[kr f,bO q g,eT g,d5 r,d6],Hd:=none,O:=oT [] (aC [([],hG e i (.ref b)),([],lQ b c false),([],bg l)]),k:=4,nn:=0,Pm:=1,H:=0x104016501f005f004040400010002640100,N:=32,
 cF:=λa=>zW (a 0) (a 2) (a 3) f,oF:=λa=>[cN (a 1) i,aa e j,aa l m,ti w.2 "pairs" p o],
 uF:=λa n h=>[cN (a 1) (i+1),aa e j,aa l m,ti w.2 "pairs" (NH o p ((BP h) 0)) (some (.ref b))],nF:=λa n h=>[],rF:=λa n h=>.again (zW (a 0) (a 2) (a 3) f),idx:=[],Pn:=[0],Py:=cW b (aa c s),d:=100,u:=1000,
 facts:=[true=true,(!c.isEmpty)=false,true=true,e.reverse[i]? =some (.ref b)]}
theorem Ih:(Ig w i e f l h a j k m g n b c o).Runs w:=by intro d p q;cases a<;>kernel_rfl
def Ii (w:World) (i:Nat) (b:P5) (c:Nat) (l:P5) (e:Nat) (f:P6) (h:Tok) (j:Addr) (o:Value) (g p:Addr):a7:={
 B:=λa=>[kr j,bO o g,eT g,d5 p,d6],Hd:=none,O:=oT [] (aC [([],m7 b i)]),k:=4,nn:=0,Pm:=0,H:=0x6010002640100,N:=14,
 cF:=λa=>zW (a 0) (a 2) (a 3) j,oF:=λa=>[cN (a 1) i,aa b c,aa l e,ti w.2 "pairs" h f],
 uF:=λa n m=>[xi i,aa b c,aa l e,ti w.2 "pairs" h f],nF:=λa n m=>[],rF:=λa n m=>.end_ (.ok .next),idx:=[],Pn:=[],d:=100,u:=1000,
 facts:=[true=true,i=b.length]}
theorem Ij:(Ii w i c d l e a f h j g k).Runs w:=by intro b m n;cases a<;>kernel_rfl
section
def Ks (a g b:Addr) (c:Value):P8:=[kr a,bO c g,eT g,d5 b,d6]
def EY (w:World) (b:P5) (c i:Nat) (l:P5) (d:Nat) (e:Tok) (f:P6) (a:P4):P7:=[cN (a 1) i,aa b c,aa l d,ti w.2 "pairs" e f]
def Ik (w:World) (a:P2) (b:P5) (c:Nat):P7:=[xi b.length,aa b c,aa (ar (a 0)) (a 1),ti w.2 "pairs" (a 2) (some (.ref (a 3)))]
def NI (w:World) (F:aA) (d g e:Addr) (f:Value) (a:P4) (h:P7) (i:P5) (j:Nat) (b:List (List af)):Prop:=
 ah aX w F 100 1000 (Ks d g e f) none (zW (ae 4 a 0) (ae 4 a 2) (ae 4 a 3) d) (ab a h) (λY c=>Ik w c i j) 0 4 (λY Y=>[]) (λY Y=>.end_ (.ok .next)) (λY c=>[λF=>cq F (ar (c 0)) b])
noncomputable def My:List (Nat⊕Nat):=[.inl 0,.inl 1,.inl 2,.inl 3]
noncomputable def Il (n m x y i:Nat):Tok:=match i with
 |0=>n
 |1=>m
 |2=>x
 |_=>y
noncomputable def iz (c:List af):Bool:=!c.isEmpty
section
variable {w:World} {F:aA} {a:P4} {m g j:Addr} {k:Value} {d:P5} {f:Nat}
theorem aM.empty {F:aA} {l:P5} {c:List af} (h:aM F l c):l.isEmpty=c.isEmpty:=by cases h<;>rfl
theorem r8:∀(o:P5) {F:aA} (_:Le (top w.2) F) {a:P4} {i:Nat} {done l:P5} {u:Nat} {z:Tok} {A:P6} {n q:List (List af)},
  d.reverse=done++o->i=done.length->ck (DD F) o n->cq F l q->l.length+o.length<=900->(o≠[]\/∃b,A=some (.ref b))->
  NI w F m g j k a (EY w d f i l u z A (ae 4 a)) d f ((n.filter iz).reverse++q)
 |[],F,B,a,i,done,l,u,z,A,n,q,O,T,C,G,y,hd=>by
  cases C;obtain ⟨b,rfl⟩:∃b,A=some (.ref b):=by
   rcases hd with h|h
   ·exact absurd rfl h
   ·exact h
  have H:i=d.length:=by
   have:=congrArg List.length O;simp at this;lia
  obtain ⟨e,he⟩:=i6 G;have h1:=((Ii w i d f l u (some (.ref b)) z m k g j).Pu B (bh (aI ⟨λ_ _=>lK,trivial⟩)) Ij (ag ⟨rfl,H,trivial⟩) a);subst H;have h2:=h1.Pw (gives':=λ_ _=>[λI=>cq I l q]) λQ r I D _ g U=>by
   cases List.mem_singleton.mp U;exact G.le D
  exact ah.Pt (λ_ r=>Il e u z b) h2 (λQ r=>by
   show [xi _,aa d f,aa (ar e) u,_]=_;rw [he];kernel_rfl) (λ_ _=>rfl) (λ_ _=>rfl) (λQ r=>by
   show [λF=>cq F (ar e) _]=_;rw [he];rfl)
 |x::o,F,B,a,i,done,l,u,z,A,n,q,O,T,C,G,y,hd=>by
  cases C with
  | @cons _ c _ n hb C=>
  obtain ⟨b,E,V,rfl,D,s⟩:=hb;simp only [List.length_cons] at y;have J:d.reverse[i]? =some (.ref b):=by rw [O,T];simp
  have hO:∀v,bH w F (oT [] (aC [([],hG d i (.ref b)),([],lQ b E v),([],bg l)])):=λv=>bh (aI ⟨λ_ _=>lI,λI p=>ub (p _ _ D),λ_ _=>bS,trivial⟩);have L:d.reverse=(done++[.ref b])++o:=by rw [O];simp
  have N:i+1=(done++[Value.ref b]).length:=by rw [T];simp
  by_cases hc:c=[]
  ·subst hc
   have t:E.isEmpty=true:=s.empty;have e:((([]:List af)::n).filter iz).reverse++q=(n.filter iz).reverse++q:=rfl;rw [e];exact ah.PC My [1,2,3,4] ((Ig w i d f l u A z m k g j b E V).Pu B (hO false) Ih (ag ⟨rfl,by rw [t];rfl,rfl,J,trivial⟩) a (hfro:=(bc D))) (λ_ _ r=>Ik w r d f)
    (λI Q r p _=>r8 o (B.trans p) L N (C.imp λ_ _ h=>h.le p) (G.le p) (by lia) (.inr ⟨b,rfl⟩))
  ·have t:E.isEmpty=false:=by rw [s.empty];cases c with|nil=>exact absurd rfl hc|cons _ _=>rfl
   have Y:iz c=true:=by unfold iz;rw [<-s.empty,t];rfl
   have e:((c::n).filter iz).reverse++q=(n.filter iz).reverse++(c::q):=by
    rw [List.filter_cons_of_pos Y];simp
   rw [e];exact ah.PC My [1,2,3,4] ((Ic w i d f l u A z m k g j b E V).Pu B (hO true) Ie (ag ⟨rfl,by lia,rfl,by rw [t];rfl,rfl,J,trivial⟩) a (hfro:=(bc D))) (λ_ _ r=>Ik w r d f)
    (λI Q r p _=>r8 o (B.trans p) L N (C.imp λ_ _ h=>h.le p) (.cons ⟨b,E,V,rfl,p _ _ D,s.le p⟩ (G.le p)) (by simp;lia) (.inr ⟨b,rfl⟩))
end
end
noncomputable def Mz (b:Bool) (P:Params):Params:={P with followText:=λr=>match Nat.beq (PySem.code r) 0x66646a78752e7366756a2e6f706a746f66696673716e7064 with
 |true=>b
 |false=>P.followText r}
def eK (b:Bool) (w:World):World:={w with params:=Mz b w.2}
theorem gM (w:World):eK (w.2.followText "comprehension-iter-twice") w=w:=by
 have h:(λr=>match Nat.beq (PySem.code r) 0x66646a78752e7366756a2e6f706a746f66696673716e7064 with
   |true=>w.2.followText "comprehension-iter-twice"
   |false=>w.2.followText r)=w.2.followText:=by
  funext r;cases q:Nat.beq (PySem.code r) 0x66646a78752e7366756a2e6f706a746f66696673716e7064 with
  |true=>
   have e:r="comprehension-iter-twice":=code_inj _ _ ((Nat.eq_of_beq_eq_true q).trans (by kernel_rfl))
   simp only [e]
  |false=>rfl
 exact congrArg (λf:String->Bool=>{w with params:={w.2 with followText:=f} }) h
def DR (w:World) (i:Nat) (c:P5) (e:Nat) (l:P5) (f:Nat) (h:P6) (j:Tok) (b:Addr) (o:Value) (g p:Addr):a7:={
 B:=λa=>[kr b,bO o g,eT g,d5 p,d6],Hd:=none,O:=oB [],k:=4,nn:=0,Pm:=0,H:=65536,N:=11,
 cF:=λa=>Ib (a 0) (a 2) (a 3) b,oF:=λa=>[cN (a 1) i,aa c e,aa l f,ti w.2 "pairs" j h],
 uF:=λa n m=>[cN (a 1) i,aa c e,aa l f,ti w.2 "pairs" j h],nF:=λa n m=>[],rF:=λa n m=>.again (zW (a 0) (a 2) (a 3) b),idx:=[],Pn:=[],d:=100,u:=1000,
 facts:=[]}
theorem Im:(DR (eK true w) i xs nx l nl dv dt fr it g la).Runs (eK true w):=by intro a b c;kernel_rfl
def DS (w:World) (i:Nat) (c:P5) (e:Nat) (l:P5) (f:Nat) (h:P6) (j:Tok) (b:Addr) (o:Value) (g p:Addr):a7:={
 B:=λa=>[kr b,bO o g,eT g,d5 p,d6],Hd:=none,O:=oB [],k:=4,nn:=0,Pm:=0,H:=0x1010001000101010000,N:=21,
 cF:=λa=>Ib (a 0) (a 2) (a 3) b,oF:=λa=>[cN (a 1) i,aa c e,aa l f,ti w.2 "pairs" j h],
 uF:=λa n m=>[cN (a 1) i,aa c e,aa l f,ti w.2 "pairs" j h],nF:=λa n m=>[],rF:=λa n m=>.again (zW (a 0) (a 2) (a 3) b),idx:=[],Pn:=[],d:=100,u:=1000,
 facts:=[]}
theorem Io:(DS (eK false w) i xs nx l nl dv dt fr it g la).Runs (eK false w):=by intro a b c;kernel_rfl
section
theorem ah.gone {w:World} {F:aA} {d u t v:Nat} {C:P8} {H:P6} {c:Code} {z:Qa} {g l:P4->P2->P7} {m:P4->P2->hZ} {b:P4->P2->Qb} (j:Nat)
  (h:ah aX w F d u C H c z g t v l m b):ah aX w F d u C H c z (λq r=>(g q r).set j av) t v l m b:=by
 intro A s R J L N O Q T U;refine h A s R J L N O Q T λV q r Y G n y X=>U V q r Y ⟨G.le,G.base,λa o e=>?_⟩ n y ⟨X.keep,λi p o hp k B=>?_,X.new,X.fresh,X.below,X.inj,X.size,X.life,X.gens,X.drawn,X.os⟩
 ·rcases G.new a o e with x|x|⟨i,p,o',D,E,g3,I⟩
  ·exact .inl x
  ·exact .inr (.inl x)
  ·refine .inr (.inr ?_)
   by_cases f:j=i
   ·subst f
    exact ⟨j,p,av,D,List.getElem?_set_self (List.getElem?_eq_some_iff.mp E).1,rfl,I⟩
   ·exact ⟨i,p,o',D,by rw [List.getElem?_set_ne f];exact E,g3,I⟩
 ·by_cases f:j=i
  ·subst f
   by_cases hl:j<(g (ae t q) (ae v r)).length
   ·rw [List.getElem?_set_self hl] at k
    cases k;cases B
   ·rw [List.getElem?_eq_none (by simp;lia)] at k;injection k
  ·rw [List.getElem?_set_ne f] at k
   exact X.upd i p o hp k B
theorem ck.append {α β:Type} {R:α->β->Prop} {l a:List α} {m b:List β} (h:ck R l m) (c:ck R a b):ck R (l++a) (m++b):=by
 induction h with
 |nil=>exact c
 |cons x _ d=>exact .cons x d
theorem ck.reverse {α β:Type} {R:α->β->Prop} {l:List α} {m:List β} (h:ck R l m):ck R l.reverse m.reverse:=by
 induction h with
 |nil=>exact .nil
 |cons x _ a=>rw [List.reverse_cons,List.reverse_cons];exact a.append (.cons x .nil)
section
variable {w:World} {F:aA} {fr g la:Addr} {it:Value} {d:List (List af)}
theorem DT (m:Le (top w.2) F) {a:P4} {c:P5} {f:Nat} (o:cq F c d) (u:d≠[]) (p:d.length<=900):
  ah aX w F 100 1000 (Ks fr g la it) none (Ib (ae 4 a 0) (ae 4 a 2) (ae 4 a 3) fr) (ab a (EY w c f 0 [] 0 0 none (ae 4 a))) (λY j=>Ik w j c f) 0 4 (λY Y=>[]) (λY Y=>.end_ (.ok .next)) (λY j=>[λF=>cq F (ar (j 0)) (d.filter iz)]):=by
 have s:=o.len;have e:(d.reverse.filter iz).reverse++[]=d.filter iz:=by rw [List.append_nil,List.filter_reverse,List.reverse_reverse]
 have n:∀h,Le F h->NI w h fr g la it a (EY w c f 0 [] 0 0 none (ae 4 a)) c f (d.filter iz):=λh k=>by
  simp only [<-e];exact r8 c.reverse (m.trans k) (done:=[]) rfl rfl (o.le k).reverse .nil (by simp;lia) (.inl (by
   intro q;have:c=[]:=by simpa using q
   rw [this] at s;cases d with
   |nil=>exact u rfl
   |cons _ _=>injection s))
 have R:∀b,eK b w=w->ah aX w F 100 1000 (Ks fr g la it) none (Ib (ae 4 a 0) (ae 4 a 2) (ae 4 a 3) fr) (ab a (EY w c f 0 [] 0 0 none (ae 4 a))) (λY Y=>EY w c f 0 [] 0 0 none (ae 4 a)) 0 0 (λY Y=>[]) (λY Y=>.again (zW (ae 4 a 0) (ae 4 a 2) (ae 4 a 3) fr)) (λY Y=>[]):=λb t=>by
  cases b with
  |true=>
   have r:=Im (w:=w) (i:=0) (xs:=c) (nx:=f) (l:=[]) (nl:=0) (dv:=none) (dt:=0) (fr:=fr) (it:=it) (g:=g) (la:=la);rw [t] at r;exact (DR w 0 c f [] 0 none 0 fr it g la).Pu m cG r (ag (by dsimp only [DR,ip])) a
  |false=>
   have r:=Io (w:=w) (i:=0) (xs:=c) (nx:=f) (l:=[]) (nl:=0) (dv:=none) (dt:=0) (fr:=fr) (it:=it) (g:=g) (la:=la);rw [t] at r;exact (DS w 0 c f [] 0 none 0 fr it g la).Pu m cG r (ag (by dsimp only [DS,ip])) a
 exact ah.seq (R _ (gM w)) (λY Y=>rfl) (λY Y=>rfl) λh k v j=>n h k
noncomputable def oC (c:Code):Addr:=match c with
 | .compStart _ _ _ _ a=>a.frame.getD 0
 |_=>0
def nd (w:World) (it:Value) (d:List (List af)):aY:=λc a Y=>
 {need:=100,Po:=1000,code:=Ib (fA a 0) (fA a 2) (fA a 3) (oC c),fs:=[(fA a 0,cN (fA a 1) 0),(fA a 1,fO a 1),(fA a 2,aa [] 0),(fA a 3,ti w.2 "pairs" 0 none),(fA a 4,fO a 4),(fA a 5,fO a 5)],
  Pq:=[d≠[]/\d.length<=900],wants:=[d8 (fO a 1) d],below:=some (Ks (oC c) (fA a 4) (fA a 5) it),hand:=some none,
  upd:=λY b=>[av,fO a 1,aa (ar (b 0)) (b 1),ti w.2 "pairs" (b 2) (some (.ref (b 3))),fO a 4,fO a 5],nn:=0,new:=λY Y=>[],Pm:=4,res:=λY Y=>.end_ (.ok .next),gives:=λY b=>[d8 (aa (ar (b 0)) (b 1)) (d.filter iz)]}
theorem xp (j:Le (top w.2) F) (y:Code) (b:Qa) (kn:Qb):(nd w it d y b kn).Ok w F:=by
 intro k l C H m o;obtain ⟨p,c⟩:d≠[]/\d.length<=900:=k _ (.head _);obtain ⟨h,n,e,q⟩:=l _ (List.mem_singleton.mpr rfl) F (Le.refl F);have r:H=none:=o none rfl;subst r;rw [m _ rfl];have s:(nd w it d y b kn).fs=ab (fA b) (EY w h n 0 [] 0 0 none (fA b)++[fO b 4,fO b 5]):=by
  unfold nd;dsimp only;rw [e];rfl
 have t:(nd w it d y b kn).upd=λY i=>(Ik w i h n++[fO b 4,fO b 5]).set 0 av:=by
  unfold nd;dsimp only;rw [e];rfl
 rw [s,t];exact ah.Pu ((((DT (a:=fA b) (fr:=oC y) (g:=fA b 4) (la:=fA b 5) (it:=it) j q p c).Pw λv i x Y u g f=>by
  cases List.mem_singleton.mp f;exact ⟨_,_,rfl,u _ List.mem_cons_self⟩).frame [fO b 4,fO b 5] (λY Y=>rfl)).gone 0)
end
end
def Ip (w:World) (b:P1) (o:GO) (e:List (List af)) (rf nmf:Bool) (h:Option (List Nat×P1)) (g:Value) (i:Array DictEntry) (j:Nat) (l:Array DictEntry) (f:Nat) (rd:Bool) (m:Tok):a7:={
 B:=λa=>[bO g (a 0),eT (a 0),d5 (a 1),d6],Hd:=none,O:=oT [] (aC [([],oy w b o),([0],tg w b o g rd ⟨e,rf,nmf,h⟩),([0],nd w g e)]),k:=2,nn:=2,Pm:=2,H:=aQ 0x3151515b114131012066613001184ba03b10f10020e090a0d03040b65a0c5090a0d03040664000405d28c058c0503dab9da128212b900b900b99497c6c6c600da03da03a08706da9898a7da06da060facc300ac0087da06da06da06da060eb6c500b60087da06da06da06da06da06da06048e058c05d206da06da06da98da98da98da0698bd0a96ec9e0bc2ec950b0c0d830d83b5b5c900a89e0b950b0db500b594000c0a0b870b9e0b9e0ba90a96ec9e0bc2ec950b0c0a96ec9e0bc2ec950b0c0a96ec9e0bc2ec950ba9870c820c830c83a9870c82eb00a900a98cff870bc29ed6d6090087098c09a100a100a194828795d60682870682bdbdbdbd988cff87be00d6d603c694,N:=1457,
 cF:=λa=>.call (.ref 824) ⟨[.str (mk b) m],[]⟩,oF:=λa=>[aS i j (dN rd (a 1)),aS l f (dh rd)],
 uF:=λa n c=>[aS i j (dN (rf||rd) (a 1)),aS l f (dh (rf||rd))],nF:=λa n c=>[az [.ref (n 1),.bool rf],aa (ar (c 0)) (c 1)],rF:=λa n c=>.end_ (.ok (.ret (.ref (n 0)))),idx:=[21,19],Pn:=[174,175],gF:=λa n c=>[d8 (aa (ar (c 0)) (c 1)) (e.filter iz)],Pz:=[0],d:=200,u:=2000,
 facts:=[true=true,e≠[]/\e.length<=900,true=true,TA b (H8 o) ⟨e,rf,nmf,h⟩,true=true,GA WN [] b (some [32]) none b 0 o]}
theorem Iq {rd:Bool}:(Ip w a o f g b c h i j k d rd l).Runs w:=by intro e m n;cases c<;>kernel_rfl
section
section
variable {w:World} {F:aA} {it:Value} {eg el:Array DictEntry} {ng nlw:Nat} {rd:Bool} {text:P1} {x0:Tok} {o:GO} {f:TF}
def MA (it:Value) (a:P4):P8:=[bO it (a 0),eT (a 0),d5 (a 1),d6]
def Ku (eg:Array DictEntry) (ng:Nat) (el:Array DictEntry) (nlw:Nat) (rd:Bool) (a:P4):P7:=[aS eg ng (dN rd (a 1)),aS el nlw (dh rd)]
structure zX (text:P1) (f:TF):Prop where
 ex:∃o,GA WN [] text (some [32]) none text 0 o/\TA text (H8 o) f
 ne:f.L≠[]
 len:f.L.length<=900
theorem qA (d:Le (top w.2) F) (h:zX text f) {a:P4}:
  ah aX w F 200 2000 (MA it (ae 2 a)) none (.call (.ref 824) ⟨[.str (mk text) x0],[]⟩) (ab a (Ku eg ng el nlw rd (ae 2 a))) (λY Y=>Ku eg ng el nlw (f.rf||rd) (ae 2 a)) 2 2
   (λn b=>[az [.ref (n 1),.bool f.rf],aa (ar (b 0)) (b 1)]) (λn Y=>.end_ (.ok (.ret (.ref (n 0))))) (λY b=>[d8 (aa (ar (b 0)) (b 1)) (f.L.filter iz)]):=by
 obtain ⟨o,e,g⟩:=h.ex;obtain ⟨L,i,j,k⟩:=f;exact (Ip w text o L i j k it eg ng el nlw rd x0).Pu d (bh (aI ⟨λY c=>t6 (d.trans c),λY c=>xh (d.trans c),λY c=>xp (d.trans c),trivial⟩)) Iq (ag ⟨rfl,⟨h.ne,h.len⟩,rfl,g,rfl,e,trivial⟩) a
def zY (w:World) (it:Value) (rd:Bool) (text:P1) (f:TF):aY:=λc a Y=>
 {need:=200,Po:=2000,code:=.call (.ref 824) ⟨[.str (mk text) (aR (bD c 0))],[]⟩,fs:=[(fA a 0,aS (bE (fO a 0)) (bF (fO a 0)) (dN rd (fA a 1))),(fA a 1,aS (bE (fO a 1)) (bF (fO a 1)) (dh rd))],
  Pq:=[zX text f],wants:=[],below:=some (MA it (fA a)),hand:=some none,
  upd:=λY Y=>Ku (bE (fO a 0)) (bF (fO a 0)) (bE (fO a 1)) (bF (fO a 1)) (f.rf||rd) (fA a),nn:=2,new:=λn b=>[az [.ref (n 1),.bool f.rf],aa (ar (b 0)) (b 1)],Pm:=2,res:=λn Y=>.end_ (.ok (.ret (.ref (n 0)))),gives:=λY b=>[d8 (aa (ar (b 0)) (b 1)) (f.L.filter iz)]}
theorem DU (c:Le (top w.2) F) (y:Code) (b:Qa) (kn:Qb):(zY w it rd text f y b kn).Ok w F:=by
 intro d j C H e g;have h:zX text f:=d _ (.head _);have i:H=none:=g none rfl;subst i;rw [e _ rfl];exact ah.Pu (qA (a:=fA b) c h)
end
end
section
noncomputable def tj:Stmt->List Stmt
 | .For _ _ b _ _=>b
 |_=>[]
def MB (a:Addr):Env:=jB (er 10) "split_header_words.<locals>." 83 82 a
def Pg (a:Addr):Code:=.func (bQ (er 10)) (MB a)
def xq:Stmt:=nO (bQ (er 10)) 2
def OQ (b:Value) (a:Addr):Code:=vi xq b (MB a)
def eL (a:Addr):Code:=jA (nO (tj xq) 2) (MB a)
inductive Sh where
 |s0|s1|s2|s3|s4|s5
def EZ (P:Params) (t:P2) (v:Value):List DictEntry:=[dE P "m" (t 10) v]
def Kv (P:Params) (t:P2) (a:P1) (b:Value):List DictEntry:=[dE P "name" (t 12) (.str (mk a) (t 13)),dE P "value" (t 14) b]
def Kw (P:Params) (t:P2) (a:P1):List DictEntry:=[dE P "non_junk" (t 16) (.str (mk a) (t 17)),dE P "nr_junk_chars" (t 18) (.int 1 (t 19))]
def xr (P:Params) (t:P2) (sh:Sh) (m:Value) (a:P1) (b:Value) (c:P1):List DictEntry:=match sh with
 | .s0=>[]
 | .s1=>EZ P t m
 | .s2=>EZ P t m++Kv P t a b
 | .s3=>EZ P t m++Kw P t c
 | .s4=>EZ P t m++(Kv P t a b++Kw P t c)
 | .s5=>EZ P t m++(Kw P t c++Kv P t a b)
def d2 (P:Params) (t:P2) (e c d:Addr) (a b:P1) (sh:Sh) (m:Value) (f:P1) (g:Value) (h:P1):Obj:=
 ik ([dE P "header_values" (t 0) (.ref e),dE P "result" (t 2) (.ref c),dE P "text" (t 4) (.str (mk a) (t 5)),dE P "orig_text" (t 6) (.str (mk b) (t 7)),dE P "pairs" (t 8) (.ref d)]++xr P t sh m f g h)
noncomputable def tl:Sh->Bool
 | .s0=>true
 |_=>false
noncomputable def BQ:Sh->Bool
 | .s0=>true
 | .s1=>true
 | .s3=>true
 |_=>false
noncomputable def Ir:Sh->Bool
 | .s0=>true
 | .s1=>true
 | .s2=>true
 |_=>false
noncomputable def qB:Sh->Sh
 | .s0=>.s1
 |s=>s
noncomputable def jN:Sh->Sh
 | .s0=>.s2
 | .s1=>.s2
 | .s3=>.s5
 |s=>s
noncomputable def zZ:Sh->Sh
 | .s0=>.s3
 | .s1=>.s3
 | .s2=>.s4
 |s=>s
noncomputable def xt (b:Bool) (l:List (Nat×Tok)):List (Nat×Tok):=match b with
 |true=>l
 |false=>[]
section
variable {w:World} {F:aA} {x:Value} {l:P5}
def dK (x:Value) (l:P5):aY:=λY a Y=>
 {need:=0,Po:=0,code:=.builtin "len" ⟨[.ref (fA a 0)],[]⟩,fs:=[(fA a 0,aa (x::l) (Pr (fO a 0)))],Pq:=[l.length<=900],wants:=[],
  upd:=λY Y=>[aa (x::l) (Pr (fO a 0))],nn:=0,new:=λY Y=>[],Pm:=1,res:=λY b=>.end_ (.ok (.ret (.int ((l.length+1:Nat):Int) (b 0)))),gives:=λY Y=>[]}
theorem iA (c:Code) (b:Qa) (kn:Qb):(dK x l c b kn).Ok w F:=by
 intro j _ C u _ _ A s R _ _ _ k a m n;have v:l.length<=900:=j _ (.head _);have g:=a (fA b 0,aa (x::l) (Pr (fO b 0))) (.head _);have o:=c3 g.1;have f:(x::l).reverse.toArray.size=l.length+1:=by simp
 refine aK.o (cc (codeAny_builtin entry_len ?_));rw [Around.under_plainId plain_len _];refine wpAny_mono (wpAny_len_body_list (Q:=λr i=>R (.ok (.ret r)) i) o (by rw [f];lia) ?_) (λp i t=>by obtain ⟨r,rfl,d⟩:=t;exact d) λY Y e=>e
 rw [f];exact n {s with toks:=s.toks+1+1} (λY=>0) (λY=>s.toks+1) F (bz k _) (λY h=>absurd h (Nat.not_lt_zero _)) (λY h=>by cases h) (a5 s _ _ (λq d=>(a q d).1) _)
end
end
section
open PySem.Builtin.Re
theorem df:entryFor table "re.Pattern.sub.loop"=some Builtin.«re.Pattern.sub.loop»:=entryFor_of_fast (by kernel_rfl)
theorem b6:plainId "re.Pattern.sub.loop"=true:=by decide+kernel
section
variable {w:World} {A:Around} {E:Value->Shared->Prop} {s:Shared} {p c:Addr} {i d j m:Value} {l:P1} {t:Tok} {C:P1} {g:Nat}
theorem jb {Q:ReTarget->Shared->Prop} (b:s.1.get? p=some (ky i d j m (g:Int) c)) (e:s.1.get? c=some (iy C)) (q:l.length<=1000)
  (h:Q {pattern:=.ref p,string:=.str (mk l) t,code:=C.toArray,text:=(mk l).cps,kind:=0,groups:=g,pos:=0,lim:=l.length} s):
  wpAny (model aX w) A (reWholeTarget (.ref p) (.str (mk l) t)) Q E s:=by
 unfold reWholeTarget;refine wpAny_bind ?_;unfold fieldsOf;refine wpAny_bind (wpAny_load b ?_);refine wpAny_pure ?_;refine wpAny_bind (wpAny_of_eq (a:=((mk l).cps,0)) rfl ?_);refine wpAny_bind (wpAny_of_eq (a:=()) rfl ?_);refine wpAny_bind ?_;unfold reRawItems;refine wpAny_bind (wpAny_seqItems e (items:=(C.map λ(k:Nat)=>Value.int (k:Int) 0).toArray) (n:=0) rfl ?_);refine wpAny_pure (wpAny_pure ?_);have f:=lL C;have o:reRawNat (.int (g:Int) 0)=g:=rfl;rw [<-f,<-o] at h;exact h
def jc (p:Addr) (l:P1) (t:Tok) (a:Value) (f:Int) (n b start:Nat) (e:Bool) (L:Addr) (h:Bool):Code:=
 .builtin "re.Pattern.sub.loop" ⟨[.ref p,.str (mk l) t,a,rawInt f,rawInt 0,rawInt (n:Int),rawInt (b:Int),rawInt (start:Int),.bool e,.ref L,.bool h],[]⟩
theorem xu {R:Result->Shared->Prop} {L:Addr} {xs:P5} {nx n:Nat} {a:Bool} {tr:Tok} {h:Nat} {b:Array (Option Nat)} {k o:Int} (q:s.1.get? p=some (ky i d j m (g:Int) c)) (r:s.1.get? c=some (iy C)) (u:l.length<=1000)
  (v:s.1.get? L=some (aa xs nx)) (x:xs.length<=900) (y:Go 100000 (tT C.toArray l g 0) (Mt 0 h b k o)) (z:h≠0)
  (B:codeAny (model aX w) A (jc p l t (.str (mk []) tr) 0 (n+1) h h false L a) R {s with heap:=s.1.update L (Obj.mapSeq (·.push (.str (mk []) tr)))}):
  codeAny (model aX w) A (jc p l t (.str (mk []) tr) 0 n 0 0 false L a) R s:=by
 unfold jc;refine codeAny_builtin df ?_;simp only [Around.under_plainId b6 _];unfold Builtin.«re.Pattern.sub.loop»;refine wpAny_bind (jb q r u ?_);show wpAny _ _ (reNextFound _ 0 false>>=_) _ _ s;refine wpAny_bind ?_;show wpAny _ _ (reRunToEnd (tT C.toArray l g 0)) _ _ s;refine jM y λI f=>.inl ⟨f.1,?_⟩;have D:=f.2.1;have G:=f.2.2.1;dsimp only;rw [D,G];show wpAny _ _ (updateSeq L (·.push (.str (mk []) tr))>>=λY=>(again (.builtin "re.Pattern.sub.loop" ⟨[.ref p,.str (mk l) t,.str (mk []) tr,rawInt 0,rawInt 0,rawInt ((n:Int)+1),rawInt (h:Int),rawInt (h:Int),.bool (h==0),.ref L,.bool a],[]⟩):Sem Fin)) _ _ s;refine wpAny_bind ?_;have H:xs.reverse.toArray.size<=sizeLine:=by simp [sizeLine];lia
 refine wpAny_updateSeq (hz:=H) (_hz':=by rw [Array.size_push];simp [sizeLine];lia) v rfl ?_
 refine wpAny_pure ⟨plainId_quiet b6 _,?_⟩;have e:(h==0)=false:=by simpa using z
 rw [e];exact B
theorem qC {Q:Value->Shared->Prop} {b:Nat} (h:l.length<=1000) (a:∀e k,Q (.str (mk (l.drop b)) e) {s with toks:=k}):wpAny (model aX w) A (reSlice (mk l).cps 0 b l.length) Q E s:=by
 have f:(⟨(mk l).cps.extract b l.length⟩:Str)=mk (l.drop b):=by
  show (⟨(⟨l⟩:Array Nat).extract b l.length⟩:Str)=⟨⟨_⟩⟩;congr 1;apply Array.ext';simp [List.extract_eq_take_drop,List.take_of_length_le]
 show wpAny _ _ (mkStr ⟨(mk l).cps.extract b l.length⟩) _ _ s;rw [f];unfold mkStr;rw [if_neg (by rw [bG];simp only [List.length_drop];unfold sizeLine;lia)]
 exact wpAny_bind (wpAny_fresh (wpAny_pure (a _ _)))
theorem qD {Q:Value->Shared->Prop} (a:∀b k,Q (.str (mk []) b) {s with toks:=k}):wpAny (model aX w) A (reSlice (mk l).cps 0 0 0) Q E s:=by
 have e:(⟨(mk l).cps.extract 0 0⟩:Str)=mk []:=by
  congr 1;apply Array.ext';simp
 show wpAny _ _ (mkStr ⟨(mk l).cps.extract 0 0⟩) _ _ s;rw [e];unfold mkStr;rw [if_neg (by decide)]
 exact wpAny_bind (wpAny_fresh (wpAny_pure (a _ _)))
theorem tm {Q:Fin->Shared->Prop} {L:Addr} {ps:List (Str×Tok)} {b:Nat} {F0:Value->Sem Fin} (h:s.1.get? L=some (bA (strValues ps).toArray b)) (e:JoinOk (mk []) (ps.map (·.1))=true)
  (q:∀n k,wpAny (model aX w) A (F0 (.str (Txt.join (mk []) (ps.map (·.1))) n)) Q E {s with toks:=k}) (f:ps≠[]):
  wpAny (model aX w) A (reSlice (mk l).cps 0 0 0>>=λa=>seqItems? (.ref L)>>=λr=>if (r.getD #[]).isEmpty=true then F0 a else (call (.builtin "str.join") [a,.ref L]>>=F0)) Q E s:=by
 refine wpAny_bind (qD λn k=>?_);refine wpAny_bind (wpAny_seqItems (o:=bA (strValues ps).toArray b) h rfl ?_);rw [if_neg (by cases ps with|nil=>exact absurd rfl f|cons _ _=>simp [strValues])]
 refine wpAny_bind (SC.join (s:={s with toks:=k}) (texts:=ps.map (·.1)) ⟨_,h,rfl,b,rfl⟩ rfl e λu v=>?_);exact q u v
theorem xv {x:Str}:Txt.join (mk []) [mk [],x]=x:=by
 show Str.join (mk []) [mk [],x]=x;have e:=StrLaws.glued_eq_join (mk []) [mk [],x];obtain ⟨⟨a⟩⟩:=x;simp only [Str.join]
 first
  |rfl
  |(show mk []++mk []++mk a=mk a;rw [bu,bu];rfl)
  |(simp [mk];rfl)
theorem z0 {a b:P1} (h:a.length+b.length<=1000):JoinOk (mk []) [mk a,mk b]=true:=by
 delta JoinOk Builtin.Str.tooLong;simp [bG,sizeLine];lia
noncomputable def gf (n:Int) (a:Value):Sem Fin:=(holding [a] (do let v <-mkInt n;newTuple [a,v]))>>=λx=>ret x
theorem uc {R:Result->Shared->Prop} {L:Addr} {n h nx:Nat} {tr B:Tok} (U:s.1.get? p=some (ky i d j m (g:Int) c)) (V:s.1.get? c=some (iy C)) (hl:l.length<=900)
  (D:s.1.get? L=some (bA (strValues [(mk [],tr)]).toArray nx)) (Y:Go 100000 (tT C.toArray l g h) Fl)
  (N:∀q b r k,Heap.SameBut L s.1 q->q.life=s.1.life->R (.ok (.ret (.ref s.1.1.size))) {s with heap:=q.push (az [.str (mk (l.drop h)) b,.int (n:Int) r]),toks:=k}):
  codeAny (model aX w) A (jc p l t (.str (mk []) B) 0 n h h false L true) R s:=by
 unfold jc;refine codeAny_builtin df ?_;rw [Around.under_plainId b6 _];unfold Builtin.«re.Pattern.sub.loop»;refine wpAny_bind (jb U V (by lia) ?_)
 show wpAny _ _ (reNextFound _ h false>>=_) _ _ s;refine wpAny_bind ?_;show wpAny _ _ (reRunToEnd (tT C.toArray l g h)) _ _ s;refine jM Y λm' hm=>.inr ⟨hm,?_⟩;have o:∀(u:Shared) (x:Str) (G:Tok) (k:Nat),(∀r k,R (.ok (.ret (.ref u.1.1.size))) {u with heap:=u.1.push (az [.str x G,.int (n:Int) r]),toks:=k})->
   wpAny (model aX w) A.in1 (gf (n:Int) (.str x G)) (λo y=>match o with| .done f=>R (.ok f) y| .again O=>O.quiet=true/\codeAny (model aX w) A O R y) (λe y=>R (.error e) y) {u with toks:=k}:=λu x G k h=>by
  unfold gf;refine wpAny_bind ?_;refine wpAny_bind (wpAny_bind (wpAny_fresh (wpAny_pure ?_)));refine wpAny_newObj_type ?_ (by size_fits)
  exact wpAny_pure (h _ _)
 by_cases Q:h<l.length
 ·show wpAny _ _ (if h<l.length then _ else _) _ _ s
  rw [if_pos Q];show wpAny _ _ (reSlice (mk l).cps 0 h l.length>>=_) _ _ s;refine wpAny_bind (qC (by lia) λb z=>?_)
  show wpAny _ _ (updateSeq L (·.push (.str (mk (l.drop h)) b))>>=_) _ _ _;refine wpAny_bind ?_;refine wpAny_updateSeq (s:={s with toks:=z}) (hz:=by simp [strValues,sizeLine]) (_hz':=by simp [strValues,sizeLine]) D rfl ?_
  have T:Heap.SameBut L s.1 (s.1.update L (Obj.mapSeq (·.push (.str (mk (l.drop h)) b)))):=Heap.SameBut.update ..;have v:(s.1.update L (Obj.mapSeq (·.push (.str (mk (l.drop h)) b)))).get? L=some (bA (strValues [(mk [],tr),(mk (l.drop h),b)]).toArray (nx+1)):=Heap.get?_update_self _ D rfl;show wpAny _ _ (reSlice (mk l).cps 0 0 0>>=λa=>seqItems? (.ref L)>>=λH=>if (H.getD #[]).isEmpty=true then gf (n:Int) a else (call (.builtin "str.join") [a,.ref L]>>=gf (n:Int))) _ _ {s with heap:=s.1.update L (Obj.mapSeq (·.push (.str (mk (l.drop h)) b))),toks:=z}
  refine tm (s:={s with heap:=s.1.update L (Obj.mapSeq (·.push (.str (mk (l.drop h)) b))),toks:=z}) (F0:=gf (n:Int)) (ps:=[(mk [],tr),(mk (l.drop h),b)]) v (z0 (by simp;lia)) (λI k=>?_) (by simp)
  have e:Txt.join (mk []) ([(mk [],tr),(mk (l.drop h),b)].map (·.1))=mk (l.drop h):=xv;rw [e];refine o {s with heap:=s.1.update L (Obj.mapSeq (·.push (.str (mk (l.drop h)) b))),toks:=z} _ _ _ λr J=>?_;have:=N _ I r J T rfl;simp only [<-T.1] at this;exact this
 ·show wpAny _ _ (if h<l.length then _ else _) _ _ s
  rw [if_neg Q];show wpAny _ _ (reSlice (mk l).cps 0 0 0>>=λa=>seqItems? (.ref L)>>=λH=>if (H.getD #[]).isEmpty=true then gf (n:Int) a else (call (.builtin "str.join") [a,.ref L]>>=gf (n:Int))) _ _ s
  refine tm (F0:=gf (n:Int)) (ps:=[(mk [],tr)]) D rfl (λI k=>?_) (by simp)
  have e:Txt.join (mk []) ([(mk [],tr)].map (·.1))=mk (l.drop h):=by
   rw [List.drop_eq_nil_of_le (by lia)];rfl
  rw [e];refine o s _ _ _ λr J=>?_;exact N s.1 I r J ⟨rfl,λE E=>rfl⟩ rfl
end
end
def It (w:World) (l:P1) (b c:Tok) (B:P8) (f:P6):a7:={
 B:=λa=>B,Hd:=f,O:=oB [],k:=0,nn:=1,Pm:=0,H:=1099511627776,N:=15,
 cF:=λa=>.call (.builtin "re.Pattern.subn") ⟨[.ref 49,.str (mk []) b,.str (mk l) c],[]⟩,oF:=λa=>[],
 uF:=λa n e=>[],nF:=λa n e=>[aa [] 0],rF:=λa n e=>.again (jc 49 l c (.str (mk []) b) 0 0 0 0 false (n 0) true),idx:=[0],Pn:=[],d:=50,u:=500,
 facts:=[]}
theorem Iu:(It w l b c B d).Runs w:=by intro a e f;kernel_rfl
section
open PySem.Builtin.Re
noncomputable def MC:P1:=[14,4,0,0,4294967295,6,0,24,13,0,4294967295,13,8,16,61,8,12,16,59,0,1,1]
theorem MD (P:Params):lN P 49 MC 0:=⟨_,_,_,_,48,by (show top P 49=some (ky (.str "^[=\\s;]*" 334) (.int 32 359) .none .none 0 48);kernel_rfl),by kernel_rfl⟩
section
variable {w:World} {F:aA} {l d:P1} {h:Nat}
def jd (l d:P1) (h:Nat):aY:=λa Y Y=>
 {need:=50,Po:=500,code:=.call (.builtin "re.Pattern.subn") ⟨[.ref 49,.str (mk []) (aR (bD a 1)),.str (mk l) (aR (bD a 2))],[]⟩,fs:=[],Pq:=[bw l/\l.length<=900/\tw pJ l 0=h/\h≠0/\l.drop h=d],wants:=[],
  upd:=λY Y=>[],nn:=1,new:=λY b=>[az [.str (mk d) (b 0),.int 1 (b 1)]],Pm:=2,res:=λn Y=>.end_ (.ok (.ret (.ref (n 0)))),gives:=λY Y=>[]}
theorem r9 (H:Le (top w.2) F) (y:Code) (Y:Qa) (kn:Qb):(jd l d h y Y kn).Ok w F:=by
 intro hf _ Cs Hd _ _ A s R I hd hu hB Pm Pn hR;obtain ⟨h1,J,h3,h4,rfl⟩:bw l/\l.length<=900/\tw pJ l 0=h/\h≠0/\l.drop h=d:=hf _ (by simp [jd])
 have Po:=dJ (p:=pJ) (l:=l) (i:=0);have T:=ah.Pu ((It w l (aR (bD y 1)) (aR (bD y 2)) Cs Hd).Pu (F:=F) H cG Iu (λ_ h=>by cases h) λ_=>0)
 refine T A s R I hd hu hB (λp hp=>by cases hp) List.nodup_nil λr f tk F' G D Pp X=>?_
 obtain ⟨v0,v1,v3,v4,c,g1,g2⟩:=MD w.2;have t:=X.new 0 (aa [] 0) rfl;have u:=G.base _ _ (G.le _ _ (H _ _ g1));have v:=G.base _ _ (G.le _ _ (H _ _ g2));have L:s.1.1.size<=f 0:=X.fresh 0 (show 0<1 by decide)
 have Pq:=Heap.lt_size t;refine u5 ?_;have m:Heap.SameBut (f 0) r.1 (r.1.update (f 0) (Obj.mapSeq (·.push (.str (mk []) (aR (bD y 1)))))):=Heap.SameBut.update ..;have N:(49:Nat)≠f 0:=λe=>by
  rw [<-e,u] at t;exact absurd (Value.type.inj (congrArg Obj.cls (Option.some.inj t))) (by decide)
 have O:c≠f 0:=λe=>by
  rw [<-e,v] at t;exact absurd (Value.type.inj (congrArg Obj.cls (Option.some.inj t))) (by decide)
 refine xu (g:=0) (C:=MC) (xs:=[]) (nx:=0) u v (by lia) t (by simp) (h:=h) (by rw [<-h3];exact CG h1 J) h4 ?_
 refine uc (g:=0) (C:=MC) (s:={r with heap:=r.1.update (f 0) (Obj.mapSeq (·.push (.str (mk []) (aR (bD y 1)))))}) (nx:=1) (tr:=aR (bD y 1)) ((m.2 _ N).trans u) ((m.2 _ O).trans v) J (Heap.get?_update_self _ t rfl) (zd J (by lia) (by lia)) λn U V k Q z=>?_
 have B:n.1.size=r.1.1.size:=Q.1.trans m.1;rw [m.1];refine hR {r with heap:=n.push (az [.str (mk (l.drop h)) U,.int 1 V]),toks:=k} (λ_=>r.1.1.size) (m9 U V) F' ⟨G.le,λb o e=>?_,λa o e=>?_⟩ (λi _=>bq G.base (Nat.le_refl _)) (λ_ h=>by cases h) ⟨λb o e _=>?_,λ_ _ _ h=>(by cases h),λi o e=>?_,λ_ _=>X.size,λ_ _=>?_,λi j (hi:i<1) (hj:j<1) _=>by lia,?_,z.trans X.life,X.gens,X.drawn,X.os⟩
 ·have E:b≠f 0:=λq=>by
   have:=D 0 (show 0<1 by decide)
   rw [q] at e;exact absurd (e.symm.trans this) (by simp)
  exact Heap.get?_push_of_some _ ((Q.2 b E).trans ((m.2 b E).trans (G.base b o e)))
 ·rcases G.new a o e with x|x|⟨i,p,o',q1,_⟩
  ·exact .inl x
  ·exact .inr (.inl x)
  ·cases i<;>injection q1
 ·have lt:=Heap.lt_size e
  have E:b≠f 0:=λq=>absurd lt (by rw [q];exact Nat.not_lt.mpr L)
  exact Heap.get?_push_of_some _ ((Q.2 b E).trans ((m.2 b E).trans (X.keep b o e (by intro q;cases q))))
 ·have:i=0:=by
   have:=(List.getElem?_eq_some_iff.mp e).1;simpa [jd] using this
  subst this;cases e;rw [<-B];exact Heap.get?_push_size _ rfl
 ·show r.1.1.size<(n.push _).objs.size
  rw [aN,B];lia
 ·show s.1.1.size<=(n.push _).objs.size
  rw [aN,B];have:=X.size;lia
end
end
section
open PySem.Builtin.Re
def cP (a h b e:Nat):Obj:=az [.int (a:Int) 0,.int (h:Int) 0,.int (b:Int) 0,.int (e:Int) 0]
section
variable {w:World} {A:Around} {E:Value->Shared->Prop} {s:Shared} {Q:Value->Shared->Prop} {m p u:Addr} {l:P1} {t o:Tok} {j h b e:Nat}
theorem oD {m:Sre.M} (a:Mt j h #[some b,some e] 1 1 m) (f:b<=e)
  (d:Q (.ref (s.1.1.size+1)) {s with heap:=(s.1.push (cP j h b e)).push (cO l t p s.1.1.size)}):
  wpAny (model aX w) A (reNewMatch (.ref p) (.str (mk l) t) 1 0 l.length m) Q E s:=by
 have g:=a.2.1;have i:=a.2.2.1;have k:=a.2.2.2.1;have n:=a.2.2.2.2.1;have q:=a.2.2.2.2.2;unfold reNewMatch;rw [g,i,k,n,q];have c:decide (e<b)=false:=by simp;omega
 show wpAny _ _ (if ((decide (((2*0+1:Nat):Int)<=1)&&decide (e<b))||false)=true then _ else (newTuple [rawInt (j:Int),rawInt (h:Int),rawInt (b:Int),rawInt (e:Int)]>>=λv=>newFields "re.Match" [Value.str (mk l) t,Value.ref p,rawInt 0,rawInt (l.length:Nat),rawInt 1,v])) _ _ s
 rw [c,if_neg (by decide)]
 refine wpAny_bind ?_;refine wpAny_newObj_type ?_ (by size_fits)
 refine wpAny_newObj_type ?_ (by size_fits)
 have r:=aN s.1 (cP j h b e);simp only [<-r] at d;exact d
theorem ud {Q:ReFound->Shared->Prop} (c:s.1.get? m=some (cO l t p u)) (d:s.1.get? u=some (cP j h b e))
  (a:Q {fields:=#[.str (mk l) t,.ref p,.int 0 0,.int (l.length:Nat) 0,.int 1 0,.ref u],spans:=#[(j:Int),(h:Int),(b:Int),(e:Int)]} s):wpAny (model aX w) A (reFound (.ref m)) Q E s:=by
 unfold reFound;refine wpAny_bind ?_;unfold fieldsOf;refine wpAny_bind (wpAny_load c ?_);refine wpAny_pure ?_;refine wpAny_bind ?_;unfold reRawItems;refine wpAny_bind (wpAny_seqItems d (items:=[Value.int (j:Int) 0,.int (h:Int) 0,.int (b:Int) 0,.int (e:Int) 0].toArray) (n:=0) rfl ?_);have e:(#[Value.int (j:Int) 0,.int (h:Int) 0,.int (b:Int) 0,.int (e:Int) 0].map reRawOf)= #[(j:Int),(h:Int),(b:Int),(e:Int)]:=by kernel_rfl
 rw [<-e] at a;exact wpAny_pure (wpAny_pure a)
theorem ue (c:s.1.get? m=some (cO l t p u)) (d:s.1.get? u=some (cP j h b e)) (q:l.length<=1000) (f:∀i k,Q (.str (mk ((l.drop b).take (e-b))) i) {s with toks:=k}):
  wpAny (model aX w) A (call (.builtin "re.Match.group") [.ref m,.int 1 o]) Q E s:=by
 refine wpAny_call_entry lO (T:="re.Match") ⟨_,c,rfl⟩ kf ?_ (lP _ _);show wpAny _ _ (noKeywords "Match.group" ⟨[.ref m,.int 1 o],[]⟩>>=λY=>reFound (.ref m)>>=λx=>reGroupNumber x (.int 1 o)>>=λg=>reGroupText x g .none>>=λv=>ret v) _ _ s;refine wpAny_bind (wpAny_pure ?_);refine wpAny_bind (ud c d ?_);refine wpAny_bind (wpAny_of_eq (a:=1) (by kernel_rfl) ?_)
 show wpAny _ _ ((if (decide ((b:Int)<0)||decide ((e:Int)<0))=true then pure Value.none else (reTextOf (.str (mk l) t)>>=λx=>reSlice x.1 x.2 (b:Int).toNat (e:Int).toNat))>>=_) _ _ s
 rw [if_neg (by simp)]
 refine wpAny_bind (wpAny_bind (wpAny_of_eq (a:=((mk l).cps,0)) rfl ?_));have n:(⟨(mk l).cps.extract b e⟩:Str)=mk ((l.drop b).take (e-b)):=by
  show (⟨(⟨l⟩:Array Nat).extract b e⟩:Str)=⟨⟨_⟩⟩;congr 1;apply Array.ext';simp [List.extract_eq_take_drop]
 show wpAny _ _ (mkStr ⟨(mk l).cps.extract b e⟩) _ _ s;rw [n];unfold mkStr;rw [if_neg (by rw [bG];simp only [List.length_take,List.length_drop];unfold sizeLine;lia)]
 refine wpAny_bind (wpAny_fresh ?_);exact wpAny_pure (wpAny_pure ⟨_,rfl,f _ _⟩)
theorem uf {Q:Value->Shared->Prop} {k b:Nat} (f:l.length<=1000) (a:∀c n,Q (.str (mk ((l.drop k).take (b-k))) c) {s with toks:=n}):wpAny (model aX w) A (reSlice (mk l).cps 0 k b) Q E s:=by
 have d:(⟨(mk l).cps.extract k b⟩:Str)=mk ((l.drop k).take (b-k)):=by
  show (⟨(⟨l⟩:Array Nat).extract k b⟩:Str)=⟨⟨_⟩⟩;congr 1;apply Array.ext';simp [List.extract_eq_take_drop]
 show wpAny _ _ (mkStr ⟨(mk l).cps.extract k b⟩) _ _ s;rw [d];unfold mkStr;rw [if_neg (by rw [bG];simp only [List.length_take,List.length_drop];unfold sizeLine;omega)]
 exact wpAny_bind (wpAny_fresh (wpAny_pure (a _ _)))
theorem oG {M:Model} {f:Value} {a:P5} (h:aK M A (.call f ⟨a,[]⟩) (λr c=>match r with
 | .ok (.ret v)=>Q v c
 | .ok _=>False
 | .error x=>E x c) s):wpAny M A (call f a) Q E s:=by
 intro Γ p d;unfold call;simp only [Sem.wp_runValue];exact wpCode_mono (λr c q=>q) (h Γ p d)
theorem sa {F:aA} {d J:Nat} {H:P6} {c:Code} {x:Qa} {q:P4->P2->P7} {k r:Nat} {v:P4->P2->P7} {L:P4->P2->Result} {f:P4->P2->Qb} {R:Result->Shared->Prop}
  (h:∀C,Fe aX w F d J C H c x q k r v (λN n=>.end_ (L N n)) f) (O:A.handled=H) (T:A.depth+d<recursionLimit) (U:A.units+J<cLine) (V:cK F s.1) (z:∀p∈x,s.1.get? p.1=some p.2/\F p.1=none) (B:(x.map (·.1)).Nodup)
  (Y:∀D a n G,ie F G s D (fN x (q (ae k a) (ae r n)))->(∀i,i<(v (ae k a) (ae r n)).length->G (a i)=none)->(∀g∈f (ae k a) (ae r n),∀y,Le G y->g y)->
   fk s D x (q (ae k a) (ae r n)) k (v (ae k a) (ae r n)) a->R (L (ae k a) (ae r n)) D):aK (model aX w) A c R s:=
 λΓ p I=>h _ A s R O T U V z B Y Γ p I rfl
end
end
section
noncomputable def xw:Stmt->List Stmt
 | .If _ b _ _=>b
 |_=>[]
noncomputable def DV:Stmt->List Stmt
 | .While _ b _ _=>b
 |_=>[]
noncomputable def Iv:Stmt->Expr
 | .Assign _ v _=>match v with
  | .Call _ a _ _=>match a with
   |x::_=>x
   |[]=>v
  |_=>v
 |_=>default
def Iw:Expr:=Iv (nO (xw (nO (xw (nO (DV (nO (tj xq) 2)) 1)) 3)) 2)
def dr (c:Addr):Obj:=match Iw with
 | .Lambda a b d _=>{cls:=.type "function",data:=.func {name:="<lambda>",qualname:="split_header_words.<locals>.<lambda>",params:=a,body:=.expr b,scope:=d,globals:=3,closure:=[],defaults:=.none,kwdefaults:=.none,pyModule:=.str "law_om0152_01" 1465,code:=.ref c} }
 |_=>default
noncomputable def lR (a:P4) (b:P2):Obj:={cls:=.type "code",data:=.fields #[.str "<lambda>" (b 0),.str "split_header_words.<locals>.<lambda>" (b 1),.str "/claim/cut.py" (b 2),.int 30 0,.int 1 0,.int 0 0,.int 0 0,.int 19 0,.ref (a 0),.bool true,.int 318 0,.ref (a 1),.none,.ref (a 2),.ref (a 3),.ref (a 4),.int (b 3) 0,.int 30 0,.str "/claim/cut.py" (b 4)]}
noncomputable def BR (o:Option Addr):Obj:={cls:=.none,data:=.fields (match o with
 |none=>#[]
 |some c=>#[.int 30 0,.int 49 0,.ref c])}
section
variable {w:World} {F:aA} {l a:P1} {c h b e:Nat}
def oH (l a:P1) (c h b e:Nat):aY:=λf d Y=>
 {need:=0,Po:=0,code:=.call (.builtin "re.Match.group") ⟨[.ref (fA d 0),.int 1 (aR (bD f 1))],[]⟩,fs:=[(fA d 0,cO l (aE (fO d 0) 0) 76 (fA d 1)),(fA d 1,cP c h b e)],Pq:=[l.length<=900/\(l.drop b).take (e-b)=a],wants:=[],
  upd:=λY Y=>[cO l (aE (fO d 0) 0) 76 (fA d 1),cP c h b e],nn:=0,new:=λY Y=>[],Pm:=1,res:=λY g=>.end_ (.ok (.ret (.str (mk a) (g 0)))),gives:=λY Y=>[]}
theorem sb (y:Code) (f:Qa) (kn:Qb):(oH l a c h b e y f kn).Ok w F:=by
 intro g _ t u _ _ A s R _ _ _ i d j m;obtain ⟨v,rfl⟩:l.length<=900/\(l.drop b).take (e-b)=a:=g _ (by simp [oH])
 have n:=d (fA f 0,cO l (aE (fO f 0) 0) 76 (fA f 1)) (.head _);have o:=d (fA f 1,cP c h b e) (.tail _ (.head _));refine aK.o (aq (ue n.1 o.1 (by lia) λp k=>?_))
 exact m {s with toks:=k} (λY=>0) (λY=>p) F (bz i _) (λY h=>absurd h (Nat.not_lt_zero _)) (λY h=>by cases h) (a5 s _ _ (λq r=>(d q r).1) _)
end
end
def DW (w:World) (l:P1) (c f h b e:Nat) (o:Tok) (g:Addr) (i:P4) (j:P2) (B:P8) (p:P6):a7:={
 B:=λa=>B,Hd:=p,O:=oT [mk [c]] (aC [([],oH l [c] f h b e)]),k:=3,nn:=0,Pm:=1,H:=0x100001010002640101010104040400f002fe,N:=36,
 cF:=λa=>.call (.ref (a 2)) ⟨[.ref (a 0)],[]⟩,oF:=λa=>[cO l o 76 (a 1),cP f h b e,dr g],
 uF:=λa n m=>[cO l o 76 (a 1),cP f h b e,dr g],nF:=λa n m=>[],rF:=λa n m=>.end_ (.ok (.ret (.str (mk [c]) (m 0)))),idx:=[],Pn:=[5],Py:=cW g (lR i j),d:=40,u:=400,
 facts:=[aD ((mk [])++(mk [c])),(mk [])++(mk [c])=(mk [c]),aD (mk [c]),true=true,l.length<=900/\(l.drop b).take (e-b)=[c]]}
theorem Iy {a:Nat}:(DW w l c a h b g i j d e B k).Runs w:=by intro f m n;(delta a7.lhs a7.rhs;dsimp only [a7.lhs,DW];kernel_rfl)
def Iz (w:World) (l:P1) (b:Addr) (c:Tok) (B:P8) (f:P6):a7:={
 B:=λa=>B,Hd:=f,O:=oB [],k:=1,nn:=1,Pm:=0,H:=281474993487872,N:=16,
 cF:=λa=>.call (.builtin "re.Pattern.sub") ⟨[.ref 76,.ref (a 0),.str (mk l) c],[]⟩,oF:=λa=>[dr b],
 uF:=λa n e=>[dr b],nF:=λa n e=>[aa [] 0],rF:=λa n e=>.again (jc 76 l c (.ref (a 0)) 1 0 0 0 false (n 0) false),idx:=[1],Pn:=[],d:=50,u:=500,
 facts:=[]}
theorem IA:(Iz w l b c B d).Runs w:=by intro a e f;kernel_rfl
section
open PySem.Builtin.Re
noncomputable def Kx:P1:=[14,8,1,2,2,1,1,92,0,16,92,17,0,2,17,1,1]
theorem IB (P:Params):lN P 76 Kx 1:=⟨_,_,_,_,75,by (show top P 76=some (ky (.str "\\\\(.)" 552) (.int 32 572) .none .none 1 75);kernel_rfl),by kernel_rfl⟩
def uU (a:List (List Nat×Tok)):Obj:=bA (strValues (a.map λp=>(mk p.1,p.2))).toArray a.length
theorem lS (a:List (List Nat×Tok)) (x:P1) (t:Tok):Obj.mapSeq (·.push (.str (mk x) t)) (uU a)=uU (a++[(x,t)]):=by
 delta uU bA Obj.mapSeq;simp [strValues]
noncomputable def xx (l:P1) (k b:Nat) (t:Tok):List (List Nat×Tok):=if k<b then [((l.drop k).take (b-k),t)] else []
section
variable {w:World} {F:aA} {d u:Nat} {C:P8} {H:P6} {a:P4} {f:Addr} {g:P4} {j:P2} {l m:P1} {t:Tok} {n k b c h st e:Nat} {ps:List (List Nat×Tok)}
theorem z3 (i:Le (top w.2) F) (o:F f=some (lR g j)) (p:l.length<=900) (q:(l.drop b).take (e-b)=[c]):
  ah aX w F 40 400 C H (.call (.ref (a 2)) ⟨[.ref (a 0)],[]⟩) (ab a [cO l t 76 (a 1),cP st h b e,dr f]) (λY Y=>[cO l t 76 (a 1),cP st h b e,dr f]) 0 1 (λY Y=>[]) (λY r=>.end_ (.ok (.ret (.str (mk [c]) (r 0))))) (λY Y=>[]):=
 (DW w l c st h b e t f g j C H).Pu i (bh (aI ⟨λY Y=>sb,trivial⟩)) Iy (ag ⟨au (l:=[c]) (by simp),rfl,au (by simp),rfl,⟨p,q⟩,trivial⟩) a (hfro:=(bc o))
noncomputable def IC (x y z:Addr) (i:Nat):Addr:=match i with
 |0=>x
 |1=>y
 |_=>z
def BS (l:P1) (t:Tok) (i L:Addr) (n b:Nat):Sem Fin:=again (.builtin "re.Pattern.sub.loop" ⟨[.ref 76,.str (mk l) t,.ref i,rawInt 1,rawInt 0,rawInt ((n:Int)+1),rawInt ((b+2:Nat):Int),rawInt ((b+2:Nat):Int),.bool (b+2==b),.ref L,.bool false],[]⟩)
def BU (l:P1) (t:Tok) (p L:Addr) (n b:Nat) (q:Sre.M):Sem Fin:=reNewMatch (.ref 76) (.str (mk l) t) 1 0 l.length q>>=λi=>holding [i] (call (.ref p) [i])>>=λo=>
 if (o != Value.none)=true then (updateSeq L (·.push o)>>=λY=>BS l t p L n b) else BS l t p L n b
theorem tn {l:P1} {k b:Nat} {t:Tok}:(xx l k b t).length<=b-k:=by
 unfold xx;split
 ·simp;lia
 ·simp
theorem hJ {A:Around} {R:Result->Shared->Prop} {s:Shared} {o:String} {i:Args} {b:Builtin} (p:entryFor table o=some b) (h:wpAny (model aX w) (A.under (.builtin o i)) (b i) (eH aX w A C R) (postE R) s):gT (model aX w) A C (.builtin o i) R s:=by
 refine ic ?_;show eM _ A C _ (match entryFor table o with|some b=>b i|none=>unsupported ((withoutEnding? o "#data").getD o)) _ _ s
 rw [p];exact bU h
theorem ug (hT:Le (top w.2) F) (hC:F f=some (lR g j)) (hl:l.length<=900) (PC:ps.length<=k) (PD:k<=b) (hb:b+1<l.length) (hx:(l.drop (b+1)).take 1=[c])
  (go:Go 100000 (tT Kx.toArray l 1 k) (Mt b (b+2) #[some (b+1),some (b+2)] 1 1)):
  ah aX w F 100 1000 C H (jc 76 l t (.ref (a 1)) 1 n k k false (a 0) false) (ab a [uU ps,dr f]) (λu L=>[uU (ps++xx l k b (L 0)++[([c],L 1)]),dr f]) 0 2 (λu u=>[])
   (λu u=>.again (jc 76 l t (.ref (a 1)) 1 (n+1) (b+2) (b+2) false (a 0) false)) (λu u=>[]):=by
 intro A s R hH hd hu hB Y Pt hR;obtain ⟨v0,v1,v3,v4,pc,g1,g2⟩:=IB w.2;have hp:=hB _ _ (hT _ _ g1);have hc:=hB _ _ (hT _ _ g2);obtain ⟨hL,Pm⟩:=Y (a 0,uU ps) (by simp [ab])
 obtain ⟨hM,Pu⟩:=Y (a 1,dr f) (by simp [ab])
 have Pn:a 0≠a 1:=by simpa [ab] using Pt
 unfold jc;refine hJ df ?_;rw [Around.under_plainId b6 _];unfold Builtin.«re.Pattern.sub.loop»;refine wpAny_bind (jb hp hc (by lia) ?_)
 refine wpAny_bind ?_;refine jM go λm' U=>.inl ⟨U.1,?_⟩;have Pw:=U;obtain ⟨_,h1,h2,_⟩:=U;dsimp only;rw [h1,h2];have E:∀(r:Heap) (t0:Tok) (k1:Nat),Heap.SameBut (a 0) s.1 r->r.life=s.1.life->r.get? (a 0)=some (uU (ps++xx l k b t0))->
   wpAny (model aX w) A.in1 (BU l t (a 1) (a 0) n b m') (eH aX w A C R) (postE R) {s with heap:=r,toks:=k1}:=by
  intro r t0 k1 z N Po;have O:cK F r:=λq o e=>by
   have nq:q≠a 0:=λx=>by rw [x,Pm] at e;cases e
   rw [z.2 q nq];exact hB q o e
  unfold BU;refine wpAny_bind (oD Pw (by lia) ?_)
  have Px:cK F ((r.push (cP b (b+2) (b+1) (b+2))).push (cO l t 76 r.1.size)):=λq o e=>Heap.get?_push_of_some _ (Heap.get?_push_of_some _ (O q o e));have e0:((r.push (cP b (b+2) (b+1) (b+2))).push (cO l t 76 r.1.size)).get? (r.1.size+1)=some (cO l t 76 r.1.size):=by
   have:=Heap.get?_push_size (r.push (cP b (b+2) (b+1) (b+2))) (o:=cO l t 76 r.1.size) rfl;rw [aN] at this;exact this
  have e1:((r.push (cP b (b+2) (b+1) (b+2))).push (cO l t 76 r.1.size)).get? r.1.size=some (cP b (b+2) (b+1) (b+2)):=Heap.get?_push_of_some _ (Heap.get?_push_size _ rfl);have Py:=Heap.lt_size Po;have B:r.get? (a 1)=some (dr f):=by rw [z.2 _ (Ne.symm Pn)];exact hM
  have Pp:=Heap.lt_size B;have f0:F (r.1.size+1)=none:=bq O (Nat.le_succ _);have f1:F r.1.size=none:=bq O (Nat.le_refl _);have x1:((l.drop (b+1)).take (b+2-(b+1)))=[c]:=by rw [show b+2-(b+1)=1 by lia];exact hx
  refine wpAny_bind (wpAny_holding (oG (sa (F:=F) (H:=H) (λC'=>ah.Pu (z3 (t:=t) (C:=C') (H:=H) (a:=IC (r.1.size+1) r.1.size (a 1)) hT hC hl (h:=b+2) (st:=b) x1)) hH (by show A.depth+40<_;lia) (by show A.units+1+400<_;lia) Px ?_ ?_ ?_)))
  ·intro q I
   simp only [ab,List.zipIdx_cons,List.zipIdx_nil,List.map_cons,List.map_nil,List.mem_cons,List.not_mem_nil,or_false] at I;rcases I with rfl|rfl|rfl
   ·exact ⟨e0,f0⟩
   ·exact ⟨e1,f1⟩
   ·exact ⟨Heap.get?_push_of_some _ (Heap.get?_push_of_some _ B),Pu⟩
  ·simp only [ab,List.zipIdx_cons,List.zipIdx_nil,List.map_cons,List.map_nil,IC]
   simp;exact ⟨Nat.ne_of_gt (Nat.lt_succ_of_lt Pp),Nat.ne_of_gt Pp⟩
  ·intro J ad L F' G PB PE X
   have k0:∀q,(q:Nat)<r.1.size->q≠a 1->q∉(ab (IC (r.1.size+1) r.1.size (a 1)) [cO l t 76 (IC (r.1.size+1) r.1.size (a 1) 1),cP b (b+2) (b+1) (b+2),dr f]).map (·.1):=λq I hn U=>by
    simp only [ab,List.zipIdx_cons,List.zipIdx_nil,List.map_cons,List.map_nil,IC,List.mem_cons,List.not_mem_nil,or_false] at U;rcases U with h|h|h
    ·have:(q:Nat)=r.1.size+1:=h
     lia
    ·have:(q:Nat)=r.1.size:=h
     lia
    ·exact hn h
   have hk:∀q o,r.get? q=some o->J.heap.get? q=some o:=λq o e=>by
    by_cases I:q=a 1
    ·subst I
     rw [B] at e;cases e;exact X.upd 2 (a 1,dr f) (dr f) rfl rfl rfl
    ·exact X.keep q o (Heap.get?_push_of_some _ (Heap.get?_push_of_some _ e)) (k0 q (Heap.lt_size e) I)
   have Pq:=hk _ _ Po;have hz:(ps++xx l k b t0).length<=900:=by
    have:=tn (l:=l) (k:=k) (b:=b) (t:=t0);rw [List.length_append];lia
   refine wpAny_bind (wpAny_updateSeq Pq rfl ?_ (hz:=by simp [strValues,sizeLine] at hz⊢;lia) (_hz':=by simp [strValues,sizeLine] at hz⊢;lia))
   have D:Heap.SameBut (a 0) J.heap (J.heap.update (a 0) (Obj.mapSeq (·.push (.str (mk [c]) (ae 1 L 0))))):=Heap.SameBut.update ..;refine wpAny_pure ⟨plainId_quiet b6 _,?_⟩;have eb:(b+2==b)=false:=by simp
   rw [eb];have Pz:J.heap.objs.size≥s.1.1.size:=by
    have h1:=X.size;have h2:((r.push (cP b (b+2) (b+1) (b+2))).push (cO l t 76 r.1.size)).objs.size=r.1.size+2:=by rw [aN,aN]
    have h3:=z.1;have V:((r.push (cP b (b+2) (b+1) (b+2))).push (cO l t 76 r.1.size)).objs.size<=J.heap.objs.size:=h1;lia
   have PA:F' (a 0)=none:=by
    cases q:F' (a 0) with
    |none=>rfl
    |some o=>
     rcases G.new (a 0) o q with x|x|⟨i,p,o',q1,v,Q,_⟩
     ·rw [Pm] at x;cases x
     ·have V:((r.push (cP b (b+2) (b+1) (b+2))).push (cO l t 76 r.1.size)).objs.size<=a 0:=x
      rw [aN,aN] at V;exact absurd Py (Nat.not_lt.mpr (Nat.le_trans (Nat.le_add_right _ 2) V))
     ·match i,v with
      |0,v=>cases v;cases Q
      |1,v=>cases v;cases Q
      |2,v=>cases v;cases Q
   refine hR {J with heap:=J.heap.update (a 0) (Obj.mapSeq (·.push (.str (mk [c]) (ae 1 L 0))))} (λu=>0) (m9 t0 (ae 1 L 0)) F' ⟨G.le,λq o e=>?_,λq o e=>?_⟩ (λi T=>absurd T (Nat.not_lt_zero _)) (λu h=>by cases h) ⟨λq o e I=>?_,λi p o T ho u=>?_,λi o e=>(by cases e),λu h=>absurd h (Nat.not_lt_zero _),λu h=>absurd h (Nat.not_lt_zero _),λu u h=>absurd h (Nat.not_lt_zero _),?_,?_,X.gens,X.drawn,X.os⟩
   ·have nq:q≠a 0:=λx=>by rw [x,PA] at e;cases e
    exact (D.2 q nq).trans (G.base q o e)
   ·rcases G.new q o e with x|x|⟨i,p,o',q1,v,Q,_⟩
    ·exact .inl x
    ·refine .inr (.inl ?_)
     have V:((r.push (cP b (b+2) (b+1) (b+2))).push (cO l t 76 r.1.size)).objs.size<=q:=x;rw [aN,aN,z.1] at V;exact Nat.le_trans (Nat.le_add_right _ 2) V
    ·match i,v with
     |0,v=>cases v;cases Q
     |1,v=>cases v;cases Q
     |2,v=>cases v;cases Q
   ·have n0:q≠a 0:=λx=>I (by simp [ab,x])
    exact (D.2 q n0).trans (hk q o ((z.2 q n0).trans e))
   ·match i,T,ho with
    |0,T,ho=>
     cases T;cases ho;have:=Heap.get?_update_self (Obj.mapSeq (·.push (.str (mk [c]) (ae 1 L 0)))) Pq rfl;rw [lS] at this;exact this
    |1,T,ho=>
     cases T;cases ho;exact (D.2 _ (Ne.symm Pn)).trans (hk _ _ B)
   ·show s.1.1.size<=(J.heap.update _ _).objs.size
    rw [D.1];exact Pz
   ·exact X.life.trans N
 by_cases y:k<b
 ·rw [if_pos (show (k:Int).toNat<b from y)]
  refine wpAny_bind (uf (k:=k) (by lia) λt1 k1=>?_)
  refine wpAny_bind (wpAny_updateSeq (s:={s with toks:=k1}) hL rfl ?_ (hz:=by simp [strValues,sizeLine];lia) (_hz':=by simp [strValues,sizeLine];lia))
  refine E (s.1.update (a 0) (Obj.mapSeq (·.push (.str (mk ((l.drop k).take (b-k))) t1)))) t1 k1 (Heap.SameBut.update ..) rfl ?_;have:=Heap.get?_update_self (Obj.mapSeq (·.push (.str (mk ((l.drop k).take (b-k))) t1))) hL rfl;simp only [lS] at this;unfold xx;rw [if_pos y];exact this
 ·rw [if_neg (show ¬(k:Int).toNat<b from y)]
  refine E s.1 0 s.toks ⟨rfl,λu u=>rfl⟩ rfl ?_;unfold xx;rw [if_neg y,List.append_nil];exact hL
end
end
section
open PySem.Builtin.Re
noncomputable def d9 (a:List (List Nat×Tok)):P1:=a.flatMap (·.1)
theorem jO:∀b:List P1,Txt.join (mk []) (b.map mk)=mk b.flatten
 |[]=>rfl
 |[x]=>by show mk x=mk (x++[]);simp only [List.append_nil]
 |x::y::r=>by
  have a:=jO (y::r);unfold Txt.join at a⊢;simp only [StrLaws.glued_eq_join] at a⊢;show mk x++mk []++Str.join (mk []) (mk y::r.map mk)=_;simp only [show Str.join (mk []) (mk y::r.map mk)=mk (y::r).flatten from a,bu,bu,List.append_nil]
  rfl
theorem je (a:List P1) (h:a.flatten.length<=1000):JoinOk (mk []) (a.map mk)=true:=by
 have b:∀(a:List P1) (n:Nat),((a.map mk).toArray.foldl (· + ·.length+(mk []).length) n)=n+a.flatten.length:=by
  intro a
  induction a with
  |nil=>intro n;simp
  |cons x a c=>
   intro n;have e:=c (n+x.length+0);simp only [List.size_toArray,List.foldl_toArray',List.map_cons,List.foldl_cons,List.flatten_cons,List.length_append] at e⊢;have d:n+(mk x).length+(mk []).length=n+x.length+0:=rfl;rw [d,e];lia
 unfold JoinOk;rw [b];unfold Builtin.Str.tooLong;have:=h;rw [Bool.not_eq_true',decide_eq_false_iff_not];show ¬(0+a.flatten.length>16777216);lia
section
variable {w:World} {F:aA} {d u:Nat} {C:P8} {H:P6} {a:P4} {g:Addr} {m:P4} {r:P2} {l j:P1} {t:Tok} {n k b c h y e:Nat} {f:List (List Nat×Tok)}
theorem xy (hT:Le (top w.2) F) (hl:l.length<=900) (Pu:f.length<=k) (hk:k<=l.length) (Pw:(d9 f).length<=k) (go:Go 100000 (tT Kx.toArray l 1 k) Fl):
  ah aX w F 100 1000 C H (jc 76 l t (.ref (a 1)) 1 n k k false (a 0) false) (ab a [uU f,dr g]) (λy y=>[av,dr g]) 0 1 (λy y=>[])
   (λy tk=>.end_ (.ok (.ret (.str (mk (d9 f++l.drop k)) (tk 0))))) (λy y=>[]):=by
 intro A s R hH hd hu hB Q Pp hR;obtain ⟨v0,v1,v3,v4,pc,g1,g2⟩:=IB w.2;have hp:=hB _ _ (hT _ _ g1);have hc:=hB _ _ (hT _ _ g2);obtain ⟨hL,Pq⟩:=Q (a 0,uU f) (by simp [ab])
 obtain ⟨hM,Px⟩:=Q (a 1,dr g) (by simp [ab])
 have Pt:a 0≠a 1:=by simpa [ab] using Pp
 unfold jc;refine hJ df ?_;rw [Around.under_plainId b6 _];unfold Builtin.«re.Pattern.sub.loop»;refine wpAny_bind (jb hp hc (by lia) ?_)
 show wpAny _ _ (reNextFound _ k false>>=_) _ _ s;refine wpAny_bind ?_;show wpAny _ _ (reRunToEnd (tT Kx.toArray l 1 k)) _ _ s;refine jM go λm' hm=>.inr ⟨hm,?_⟩;have T:∀(B:List (List Nat×Tok)) (D:Heap) (N:Nat),(d9 B).length<=1000->d9 B=d9 f++l.drop k->Heap.SameBut (a 0) s.1 D->D.life=s.1.life->D.get? (a 0)=some (uU B)->
   wpAny (model aX w) A.in1 (reSlice (mk l).cps 0 0 0>>=λz=>seqItems? (.ref (a 0))>>=λU=>if (U.getD #[]).isEmpty=true then (ret z:Sem Fin) else (call (.builtin "str.join") [z,.ref (a 0)]>>=λx=>ret x)) (eH aX w A C R) (postE R) {s with heap:=D,toks:=N}:=by
  intro B D N V E G J Y;have I:∀(tt:Tok) (L:Nat),R (.ok (.ret (.str (mk (d9 f++l.drop k)) tt))) {s with heap:=D,toks:=L}:=λtt L=>by
   refine hR {s with heap:=D,toks:=L} (λy=>0) (λy=>tt) F ⟨Le.refl F,λq o e=>?_,λq o e=>.inl e⟩ (λi O=>absurd O (Nat.not_lt_zero _)) (λy h=>by cases h) ⟨λq o e hq=>?_,λi p o O ho hf=>?_,λi o e=>(by cases e),λy h=>absurd h (Nat.not_lt_zero _),λy h=>absurd h (Nat.not_lt_zero _),λy y h=>absurd h (Nat.not_lt_zero _),?_,J,rfl,rfl,rfl⟩
   ·have nq:q≠a 0:=λx=>by rw [x,Pq] at e;cases e
    exact (G.2 q nq).trans (hB q o e)
   ·have n0:q≠a 0:=λx=>hq (by simp [ab,x])
    exact (G.2 q n0).trans e
   ·match i,O,ho with
    |0,O,ho=>cases ho;cases hf
    |1,O,ho=>
     cases O;cases ho;exact (G.2 _ (Ne.symm Pt)).trans hM
   ·show s.1.1.size<=D.objs.size
    rw [G.1];exact Nat.le_refl _
  refine wpAny_bind (qD (s:={s with heap:=D,toks:=N}) λt' L=>?_);refine wpAny_bind (wpAny_seqItems (s:={s with heap:=D,toks:=L}) (o:=uU B) Y rfl ?_);cases Pm:B with
  |nil=>
   rw [if_pos (by rfl)]
   have e:d9 f++l.drop k=[]:=by rw [<-E,Pm];rfl
   have:=I t' L;rw [e] at this;exact wpAny_pure this
  |cons p0 pr=>
   rw [if_neg (by simp [strValues])]
   have e1:((B.map λp=>(mk p.1,p.2)).map (·.1))=(B.map (·.1)).map mk:=by simp
   have e2:(B.map (·.1)).flatten=d9 B:=rfl;refine wpAny_bind (SC.join (s:={s with heap:=D,toks:=L}) (texts:=(B.map (·.1)).map mk) ⟨_,Y,rfl,_,rfl⟩ e1 (je _ (by rw [e2];exact V)) λt2 k3=>?_)
   rw [jO,e2,E];exact wpAny_pure (I t2 k3)
 show wpAny (model aX w) A.in1 (if (k:Int).toNat<l.length then (reSlice (mk l).cps 0 (k:Int).toNat l.length>>=λv=>updateSeq (a 0) (·.push v)>>=λy=>reSlice (mk l).cps 0 0 0>>=λz=>seqItems? (.ref (a 0))>>=λU=>if (U.getD #[]).isEmpty=true then (ret z:Sem Fin) else (call (.builtin "str.join") [z,.ref (a 0)]>>=λx=>ret x))
  else (reSlice (mk l).cps 0 0 0>>=λz=>seqItems? (.ref (a 0))>>=λU=>if (U.getD #[]).isEmpty=true then (ret z:Sem Fin) else (call (.builtin "str.join") [z,.ref (a 0)]>>=λx=>ret x))) (eH aX w A C R) (postE R) s
 by_cases Pn:k<l.length
 ·rw [if_pos (show (k:Int).toNat<l.length from Pn)]
  refine wpAny_bind (qC (by lia) λt1 N=>?_)
  refine wpAny_bind (wpAny_updateSeq (s:={s with toks:=N}) hL rfl ?_ (hz:=by simp [strValues,sizeLine];lia) (_hz':=by simp [strValues,sizeLine];lia))
  have Po:=Heap.get?_update_self (Obj.mapSeq (·.push (.str (mk (l.drop k)) t1))) hL rfl;simp only [lS] at Po;have ef:d9 (f++[(l.drop k,t1)])=d9 f++l.drop k:=by simp [d9]
  exact T (f++[(l.drop k,t1)]) (s.1.update (a 0) (Obj.mapSeq (·.push (.str (mk (l.drop k)) t1)))) N (by rw [ef,List.length_append,List.length_drop];lia) ef (Heap.SameBut.update ..) rfl Po
 ·rw [if_neg (show ¬(k:Int).toNat<l.length from Pn)]
  exact T f s.1 s.toks (by lia) (by rw [List.drop_eq_nil_of_le (by lia),List.append_nil]) ⟨rfl,λy y=>rfl⟩ rfl hL
end
end
section
open PySem.Builtin.Re
set_option tactic.hygienic true in
theorem qF {r m:P1} (h:bX r m):(92∉r/\m=r)\/∃a c b e,r=a++92::c::b/\92∉a/\m=a++c::e/\bX b e:=by
 induction h with
 |nil=>exact .inl ⟨by simp,rfl⟩
 |PQ c h _=>exact .inr ⟨[],c,_,_,rfl,by simp,rfl,h⟩
 |chr i h j=>
  rename_i c r m;rcases j with ⟨f,g⟩|⟨a,d,b,e,f,g,k,l⟩
  ·exact .inl ⟨by simp [Ne.symm i,f],by rw [g]⟩
  ·exact .inr ⟨c::a,d,b,e,by rw [f];rfl,by simp [Ne.symm i,g],by rw [k];rfl,l⟩
theorem qG (p q:List (List Nat×Tok)):d9 (p++q)=d9 p++d9 q:=by simp [d9]
section
variable {w:World} {F:aA} {C:P8} {H:P6} {a:P4} {f:Addr} {B:P4} {v:P2} {l D:P1} {t:Tok}
theorem qH (Y:bw l) (y:l.length<=900):∀(N:Nat) {r m:P1},r.length<=N->bX r m->∀{F:aA} {n k:Nat} {ps:List (List Nat×Tok)},Le (top w.2) F->F f=some (lR B v)->l.drop k=r->k<=l.length->ps.length<=k->(d9 ps).length<=k->
  ah aX w F 100 1000 C H (jc 76 l t (.ref (a 1)) 1 n k k false (a 0) false) (ab a [uU ps,dr f]) (λD D=>[av,dr f]) 0 1 (λD D=>[])
   (λD s=>.end_ (.ok (.ret (.str (mk (d9 ps++m)) (s 0))))) (λD D=>[])
 |N,r,m,u,hm,F,n,k,ps,L,hC,x,hk,z,O=>by
  rcases qF hm with ⟨h1,h2⟩|⟨d,c,J,Q,q,e2,e3,h4⟩
  ·subst h2
   rw [<-x];refine xy L y z hk O (ze y hk λj hj A e=>h1 ?_);rw [<-x,<-e];have:l.getD j 0=(l.drop k)[j-k]'(by rw [List.length_drop];lia):=by
    rw [List.getElem_drop,List.getD_eq_getElem?_getD,List.getElem?_eq_getElem A];simp [Nat.add_sub_cancel' hj]
   rw [this];exact List.getElem_mem _
  ·have E:(l.drop k).length=d.length+2+J.length:=by rw [x,q];simp;lia
   rw [List.length_drop] at E;have get:∀i,l.getD (k+i) 0=r.getD i 0:=λi=>by
    rw [<-x,List.getD_eq_getElem?_getD,List.getD_eq_getElem?_getD,List.getElem?_drop]
   have T:l.getD (k+d.length) 0=92:=by
    rw [get,q,List.getD_eq_getElem?_getD,List.getElem?_append_right (Nat.le_refl _)];simp
   have gc:l.getD (k+d.length+1) 0=c:=by
    rw [show k+d.length+1=k+(d.length+1) by lia,get,q,List.getD_eq_getElem?_getD,List.getElem?_append_right (by lia)];simp
   have U:k+d.length+1<l.length:=by lia
   have V:c∈l:=by
    rw [<-gc,List.getD_eq_getElem?_getD,List.getElem?_eq_getElem U];exact List.getElem_mem _
   have G:c≠10:=by
    rcases Y c V with h|h|h|h|h|h|h|h|h<;>lia
   have o:l.drop (k+d.length+1)=c::J:=by
    rw [show k+d.length+1=k+(d.length+1) by lia,<-List.drop_drop,x,q,List.drop_append]
    simp
   have p:l.drop (k+d.length+2)=J:=by
    rw [show k+d.length+2=k+d.length+1+1 by lia,<-List.drop_drop,o];rfl
   have pf:∀t0,d9 (xx l k (k+d.length) t0)=d:=λt0=>by
    unfold xx;split
    ·show (l.drop k).take (k+d.length-k)++[]=d
     rw [List.append_nil,x,Nat.add_sub_cancel_left,q,List.take_left'];rfl
    ·have:d.length=0:=by lia
     rw [List.length_eq_zero_iff.mp this];rfl
   have I:=ug (a:=a) (C:=C) (H:=H) (t:=t) (n:=n) (ps:=ps) L hC y z (Nat.le_add_right k d.length) U (c:=c) (by rw [o];rfl)
    (CH y (Nat.le_add_right ..) U T (by rw [gc];exact G) (λj hj A e=>e2 (by
     have g:=get (j-k);rw [show k+(j-k)=j by lia,e,q,List.getD_eq_getElem?_getD,List.getElem?_append_left (by lia),List.getElem?_eq_getElem (by lia)] at g
     simp only [Option.getD_some] at g;rw [g];exact List.getElem_mem _)))
   match N,u with
   |0,u=>rw [q] at u;simp at u
   |N+1,u=>
   refine ah.seq I (λD D=>rfl) (λD D=>rfl) λF' hF ad s=>?_;have pl:=tn (l:=l) (k:=k) (b:=k+d.length) (t:=ae 2 s 0);have ff:d9 (ps++xx l k (k+d.length) (ae 2 s 0)++[([c],ae 2 s 1)])=d9 ps++d++[c]:=by
    rw [qG,qG,pf];rfl
   have ih:=qH Y y N (r:=J) (m:=Q) (by rw [q] at u;simp at u;lia) h4 (F:=F') (n:=n+1) (k:=k+d.length+2) (ps:=ps++xx l k (k+d.length) (ae 2 s 0)++[([c],ae 2 s 1)]) (L.trans hF) (hF _ _ hC) p (by lia) (by simp only [List.length_append,List.length_singleton];lia) (by rw [ff];simp;lia)
   rw [ff] at ih;rw [e3,show d9 ps++(d++c::Q)=d9 ps++d++[c]++Q by simp]
   exact ih
theorem tp (d:Le (top w.2) F) (g:F f=some (lR B v)) (i:bw l) (j:l.length<=900) {m:P1} (o:bX l m):
  ah aX w F 100 1000 C H (.call (.builtin "re.Pattern.sub") ⟨[.ref 76,.ref (ae 1 a 0),.str (mk l) t],[]⟩) (ab a [dr f]) (λY Y=>[dr f]) 0 1 (λY Y=>[]) (λY b=>.end_ (.ok (.ret (.str (mk m) (b 0))))) (λY Y=>[]):=by
 have J:=((Iz w l f t C H).Pu (F:=F) d cG IA (λY h=>by cases h) a).mono (d':=100) (u':=1000) (show 50<=100 by decide) (show 500<=1000 by decide)
 exact ah.PC [.inr 0,.inl 0] [2] (updF:=λY=>[dr f]) (resF:=λb=>.end_ (.ok (.ret (.str (mk m) (b 0))))) (gF:=λY=>[]) (c':=λc=>jc 76 l t (.ref (ae 1 a 0)) 1 0 0 0 false (c 0) false) J (λY Y Y=>[av,dr f])
  (λp c b e Y=>qH (a:=bt a c [.inr 0,.inl 0]) (C:=C) (H:=H) (t:=t) i j l.length (r:=l) (m:=m) (Nat.le_refl _) o (F:=p) (n:=0) (k:=0) (ps:=[]) (d.trans e) (e _ _ g) rfl (Nat.zero_le _) (Nat.le_refl _) (Nat.le_refl _))
theorem ah.freeze {d u Y Pm:Nat} {c:Code} {os:P7} {o:Obj} {m Pn:P4->P2->P7} {Po:P4->P2->hZ} {n:P4->P2->Qb} (hl:∀E I,(m E I).length=os.length)
  (h:∀F',Le F F'->F' (a os.length)=some o->ah aX w F' d u C H c (ab a os) m Y Pm Pn Po n):
  ah aX w F d u C H c (ab a (os++[o])) (λE I=>m E I++[av]) Y Pm Pn Po (λE I=>n E I++[λF=>F (a os.length)=some o]):=by
 intro A s R hH hd hu hB Pp J hR;have hn:(ab a (os++[o]))[os.length]? =some (a os.length,o):=by rw [aw];simp
 have y:=Pp _ (List.mem_of_getElem? hn);have sub:∀i j,os[i]? =some j->(ab a (os++[o]))[i]? =some (a i,j):=λi j e=>by
  rw [aw,List.getElem?_append_left (List.getElem?_eq_some_iff.mp e).1,e];rfl
 have ne:∀i j,os[i]? =some j->a i≠a os.length:=λi j e q=>by
  have N:=(List.getElem?_eq_some_iff.mp e).1;have k:((ab a (os++[o])).map (·.1))=(List.range (os.length+1)).map a:=by rw [bp];simp
  rw [k] at J;have p:=List.pairwise_iff_getElem.mp J i os.length (by simp;lia) (by simp) N
  simp only [List.getElem_map,List.getElem_range] at p;exact p q
 have le:Le F (λb=>if b=a os.length then some o else F b):=λb j e=>by
  dsimp only;by_cases r:b=a os.length
  ·rw [r,y.2] at e;cases e
  ·rw [if_neg r];exact e
 have Pq:∀p∈ab a os,∃i j,os[i]? =some j/\p=(a i,j):=λp O=>by
  obtain ⟨i,N⟩:=List.getElem?_of_mem O;rw [aw] at N;obtain ⟨j,L,rfl⟩:=Option.map_eq_some_iff.mp N;exact ⟨i,j,L,rfl⟩
 refine h _ le (if_pos rfl) A s R hH hd hu (λb j e=>?_) (λp O=>?_) ?_ λs' E I F' G Pt Pu X=>?_
 ·dsimp only at e
  by_cases r:b=a os.length
  ·rw [if_pos r] at e;cases e;rw [r];exact y.1
  ·rw [if_neg r] at e;exact hB b j e
 ·obtain ⟨i,j,L,rfl⟩:=Pq p O
  have z:=Pp _ (List.mem_of_getElem? (sub i j L));refine ⟨z.1,?_⟩;show (if a i=a os.length then some o else F (a i))=none
  rw [if_neg (ne i j L)];exact z.2
 ·have k:((ab a (os++[o])).map (·.1))=(ab a os).map (·.1)++[a os.length]:=by rw [bp,bp];simp [List.range_succ]
  rw [k] at J;exact (List.nodup_append.mp J).1
 ·have T:=hl (ae Y E) (ae Pm I)
  have gA:∀b,fN (ab a os) (m (ae Y E) (ae Pm I)) b->fN (ab a (os++[o])) (m (ae Y E) (ae Pm I)++[av]) b:=by
   rintro b ⟨i,p,j,q1,q2,q3,q4⟩;obtain ⟨o2,U,rfl⟩:=Option.map_eq_some_iff.mp (aw▸q1);exact ⟨i,_,j,sub i o2 U,by rw [List.getElem?_append_left (List.getElem?_eq_some_iff.mp q2).1];exact q2,q3,q4⟩
  refine hR s' E I F' ⟨le.trans G.le,G.base,λb j e=>?_⟩ Pt (λg hg Pw Q=>?_) ⟨λb j e r=>?_,λi p j O V hf=>?_,X.new,X.fresh,X.below,X.inj,X.size,X.life,X.gens,X.drawn,X.os⟩
  ·rcases G.new b j e with x|x|x
   ·by_cases r:b=a os.length
    ·exact .inr (.inr ⟨os.length,_,av,hn,by rw [<-T];simp,rfl,r⟩)
    ·rw [if_neg r] at x;exact .inl x
   ·exact .inr (.inl x)
   ·exact .inr (.inr (gA b x))
  ·rcases List.mem_append.mp hg with hg|hg
   ·exact Pu g hg Pw Q
   ·cases List.mem_singleton.mp hg
    exact Q _ _ (G.le _ _ (if_pos rfl))
  ·refine X.keep b j e λhm=>r ?_
   obtain ⟨p,O,rfl⟩:=List.mem_map.mp hm;obtain ⟨i,o2,U,rfl⟩:=Pq p O;exact List.mem_map.mpr ⟨_,List.mem_of_getElem? (sub i o2 U),rfl⟩
  ·by_cases N:i<os.length
   ·rw [List.getElem?_append_left (by rw [T];exact N)] at V
    have e1:=sub i os[i] (List.getElem?_eq_getElem N);rw [e1] at O;cases O;exact X.upd i (a i,os[i]) j (by rw [aw,List.getElem?_eq_getElem N];rfl) V hf
   ·have:i=os.length:=by
     have:=(List.getElem?_eq_some_iff.mp V).1;simp at this;lia
    subst this;rw [<-T] at V;simp at V;subst V;cases hf
def oI (f:Addr) (l m:P1):aY:=λc b Y=>
 {need:=100,Po:=1000,code:=.call (.builtin "re.Pattern.sub") ⟨[.ref 76,.ref (fA b 0),.str (mk l) (aR (bD c 2))],[]⟩,fs:=[(fA b 0,dr f)],Pq:=[bw l/\l.length<=900/\bX l m],wants:=[],
  upd:=λY Y=>[dr f],nn:=0,new:=λY Y=>[],Pm:=1,res:=λY d=>.end_ (.ok (.ret (.str (mk m) (d 0)))),gives:=λY Y=>[]}
theorem sd (c:Le (top w.2) F) (d:F f=some (lR B v)) {m:P1} (y:Code) (b:Qa) (kn:Qb):(oI f l m y b kn).Ok w F:=by
 intro e j C H k n;obtain ⟨g,h,i⟩:bw l/\l.length<=900/\bX l m:=e _ (by simp [oI])
 exact ah.Pu (tp (a:=fA b) (C:=C) (H:=H) c d g h i)
noncomputable def ID:Value->Addr
 | .ref a=>a
 |_=>0
noncomputable def ME:Value->Nat
 | .int i _=>i.toNat
 |_=>0
noncomputable def DX (o:Obj) (i:Nat):Value:=match o.data with
 | .fields b=>b.toList.getD i .none
 |_=>.none
def NJ (o:Obj) (i:Nat):Addr:=ID (DX o ([8,11,13,14,15].getD i 0))
def NK (o:Obj) (i:Nat):Tok:=match Nat.beq i 3 with
 |true=>ME (DX o 16)
 |false=>aR (DX o ([0,1,2,0,18].getD i 0))
def oJ (l m:P1):aY:=λc b Y=>
 {need:=100,Po:=1000,code:=.call (.builtin "re.Pattern.sub") ⟨[.ref 76,.ref (fA b 0),.str (mk l) (aR (bD c 2))],[]⟩,fs:=[(fA b 0,dr (fA b 1)),(fA b 1,lR (NJ (fO b 1)) (NK (fO b 1)))],Pq:=[bw l/\l.length<=900/\bX l m],wants:=[],
  upd:=λY Y=>[dr (fA b 1),av],nn:=0,new:=λY Y=>[],Pm:=1,res:=λY d=>.end_ (.ok (.ret (.str (mk m) (d 0)))),gives:=λY Y=>[λF=>F (fA b 1)=some (lR (NJ (fO b 1)) (NK (fO b 1)))]}
theorem se (c:Le (top w.2) F) {m:P1} (y:Code) (b:Qa) (kn:Qb):(oJ l m y b kn).Ok w F:=by
 intro d k C H n o;obtain ⟨e,g,h⟩:bw l/\l.length<=900/\bX l m:=d _ (by simp [oJ])
 exact ah.Pu (ah.freeze (a:=fA b) (os:=[dr (fA b 1)]) (λY Y=>rfl) λp i j=>tp (a:=fA b) (C:=C) (H:=H) (c.trans i) j e g h)
end
end
noncomputable def NL (l:P1) (i:Nat):Nat:=l.getD i 0
def xA (sh:Sh) (t a:P2):Nat->Tok:=bl t ([(5,(a 1)),(13,(a 4)),(15,(a 0))]++xt (tl sh) [(10,(a 2))]++xt (BQ sh) [(12,(a 3)),(14,(a 5))])
def jP (t a:P2):Nat->Tok:=bl aO [(0,(a 4)),(1,(a 0))]
def DY (w:World) (c:Nat) (f i:P1) (sh:Sh) (D:Value) (E:P1) (G:Value) (y:P1) (z:Addr) (l:P5) (A:Nat) (C:P5) (x o j p:Nat) (b e:P1) (q m r:Nat) (s v h:P1) (t:P2) (B:P8):a7:={
 B:=λa=>B,Hd:=none,O:=oT [mk [],mk b,mk s] (aC [([],cD 61 lM (c::f) o j p),([],cg 61 (c::f) o j p),([],cI 61 (c::f) e o j p),([],cD 66 t7 b q m r),([],bg l),([],bg l),([],cg 66 b q m r),([],cI 66 b v q m r),([],oJ v h)]),k:=4,nn:=8,Pm:=11,H:=aQ 0x18d691dfd9da0a0ad001b1c026c018ca4a48285b10d0e026bacacad8212150132100fc3820fc3c31014c8100fc3820fc3c310ab00ab0014b911b900120012b911b900120012b911b9001200b900118411ba0d0e026aacac10ab94deacad8267b185b1040502669898ad82110c01310706a78206a7a7070bc80706a78206a7a7e1a60ba108a1b4b4a108a1b4b4a108a1b400a1c18408b0040502659898e694de98ad8264018285b1,N:=461,
 cF:=λa=>eL (a 0),oF:=λa=>[d2 w.2 t z (a 1) (a 2) (c::f) i sh D E G y,aa C x,aa l A,BR none],
 uF:=λa n g=>[d2 w.2 (xA sh t g) z (a 1) (a 2) s i (jN sh) (.ref (n 1)) e (.str (mk h) (g 0)) y,aa C x,aa (.ref (n 0)::l) (A+1),BR (some (n 2))],nF:=λa n g=>[],rF:=λa n g=>.again (eL (a 0)),idx:=[],Pn:=[39,28,1,16,15,32,33,34,35,37,38],Px:=[29,14,27,22,23,24,25,26],gF:=λa n g=>[λF=>F (n 0)=some (az [.str (mk e) ((jP t g) 0),.str (mk h) ((jP t g) 1)]),λF=>F (n 2)=some (lR (NL [n 3,n 4,n 5,n 6,n 7]) (NL [(g 6),(g 7),(g 8),(g 9),(g 10)]))],Pz:=[0,1],d:=100,u:=1000,
 facts:=[true=true,l.length<=1000,true=true,bw v/\v.length<=900/\bX v h,true=true,b.length<=900/\(b.drop m).take (r-m)=v,aD ((mk [])++(mk s)),(mk [])++(mk s)=(mk s),aD (mk b),ak (.int ((q:Int):Int) 0),ak .none,Txt.slice (mk b) (some ((q:Int):Int)) none=(mk s),aD (mk b),ak .none,ak (.int (0:Int) 0),Txt.slice (mk b) none (some (0:Int))=(mk []),true=true,true=true,b.length<=900/\m<=r/\Go 100000 (gW t7.toArray b 1) (Mt 0 q #[some m,some r] 1 1),true=true,(c::f).length<=900/\((c::f).drop j).take (p-j)=e,aD ((mk [])++(mk b)),(mk [])++(mk b)=(mk b),aD (mk (c::f)),ak (.int ((o:Int):Int) 0),ak .none,Txt.slice (mk (c::f)) (some ((o:Int):Int)) none=(mk b),aD (mk (c::f)),ak .none,ak (.int (0:Int) 0),Txt.slice (mk (c::f)) none (some (0:Int))=(mk []),true=true,true=true,(c::f).length<=900/\j<=p/\Go 100000 (gW lM.toArray (c::f) 1) (Mt 0 o #[some j,some p] 1 1),aD (mk (c::f))]}
theorem IE {sh:Sh}:(DY w c g a sh h i j k m l n o d p q r s b u v x y z e t B).PB 3 78 w:=by intro f A C;cases sh<;>kernel_rfl
def IF (w:World) (c:Nat) (f h:P1) (sh:Sh) (I:Value) (J:P1) (L:Value) (C:P1) (D:Addr) (l:P5) (E:Nat) (G:P5) (x o i p:Nat) (b e:P1) (q j r:Nat) (s v g:P1) (y:Addr) (z:P4) (A t:P2) (B:P8):a7:={
 B:=λa=>B,Hd:=none,O:=oT [mk [],mk b,mk s] (aC [([],cD 61 lM (c::f) o i p),([],cg 61 (c::f) o i p),([],cI 61 (c::f) e o i p),([],cD 66 t7 b q j r),([],bg l),([],bg l),([],cg 66 b q j r),([],cI 66 b v q j r),([],oI y v g)]),k:=4,nn:=2,Pm:=6,H:=aQ 0x18d6917fd9da0a0ad0016016c018c048285b10d0e026bacacad8212150132100fc3820fc3c31014c8100fc3820fc3c310ab00ab0014b911b900120012b911b900120012b911b9001200b900118411ba0d0e026aacac10ab94deacad8267b185b1040502669898ad82110c01310706a78206a7a7070bc80706a78206a7a7e1a60ba108a1b4b4a108a1b4b4a108a1b400a1c18408b0040502659898e694de98ad8264018285b1,N:=446,
 cF:=λa=>eL (a 0),oF:=λa=>[d2 w.2 t D (a 1) (a 2) (c::f) h sh I J L C,aa G x,aa l E,BR (some y)],
 uF:=λa n m=>[d2 w.2 (xA sh t m) D (a 1) (a 2) s h (jN sh) (.ref (n 1)) e (.str (mk g) (m 0)) C,aa G x,aa (.ref (n 0)::l) (E+1),BR (some y)],nF:=λa n m=>[],rF:=λa n m=>.again (eL (a 0)),idx:=[],Pn:=[33,28,1,16,15,32],Py:=cW y (lR z A),Px:=[23,14],gF:=λa n m=>[λF=>F (n 0)=some (az [.str (mk e) ((jP t m) 0),.str (mk g) ((jP t m) 1)])],Pz:=[0],d:=100,u:=1000,
 facts:=[true=true,l.length<=1000,true=true,bw v/\v.length<=900/\bX v g,true=true,b.length<=900/\(b.drop j).take (r-j)=v,aD ((mk [])++(mk s)),(mk [])++(mk s)=(mk s),aD (mk b),ak (.int ((q:Int):Int) 0),ak .none,Txt.slice (mk b) (some ((q:Int):Int)) none=(mk s),aD (mk b),ak .none,ak (.int (0:Int) 0),Txt.slice (mk b) none (some (0:Int))=(mk []),true=true,true=true,b.length<=900/\j<=r/\Go 100000 (gW t7.toArray b 1) (Mt 0 q #[some j,some r] 1 1),true=true,(c::f).length<=900/\((c::f).drop i).take (p-i)=e,aD ((mk [])++(mk b)),(mk [])++(mk b)=(mk b),aD (mk (c::f)),ak (.int ((o:Int):Int) 0),ak .none,Txt.slice (mk (c::f)) (some ((o:Int):Int)) none=(mk b),aD (mk (c::f)),ak .none,ak (.int (0:Int) 0),Txt.slice (mk (c::f)) none (some (0:Int))=(mk []),true=true,true=true,(c::f).length<=900/\i<=p/\Go 100000 (gW lM.toArray (c::f) 1) (Mt 0 o #[some i,some p] 1 1),aD (mk (c::f))]}
theorem IG {sh:Sh}:(IF w c i a sh j k m n o l p q d r s u v b x y z A C e D f g t B).PB 3 78 w:=by intro h E G;cases sh<;>kernel_rfl
section
theorem BV {c:Nat} (h:Al c):Unicode.isSpace c=aW c:=by
 rcases h with rfl|rfl|rfl|rfl|rfl|rfl|rfl|rfl|rfl<;>kernel_rfl
theorem bw.drop {l:P1} (h:bw l) (n:Nat):bw (l.drop n):=λc a=>h c (List.mem_of_mem_drop a)
theorem bw.take {l:P1} (h:bw l) (n:Nat):bw (l.take n):=λc a=>h c (List.mem_of_mem_take a)
theorem II {l:P1} (h:bw l):(l.takeWhile Unicode.isSpace)=l.takeWhile aW:=by
 induction l with
 |nil=>rfl
 |cons c l a=>
  have b:=BV (h c (.head _));simp only [List.takeWhile_cons,b];rw [a (λd e=>h d (by simp [e]))]
theorem nf {l:P1} (h:bw l):Txt.lstrip (mk l)=mk (l.drop (tw aW l 0)):=by
 unfold Txt.lstrip;rw [PyProof.Rows.stripBy_eq];have a:stripLo Unicode.isSpace true (mk l)=tw aW l 0:=by
  unfold stripLo;rw [if_pos rfl];show (l.takeWhile Unicode.isSpace).length=_;rw [II h];rfl
 have b:∀n,stripHi Unicode.isSpace false (mk l) n=l.length:=λn=>by
  unfold stripHi;rw [if_neg (by decide)]
  rfl
 rw [a,b,strSub_mk];simp [mk];exact List.take_of_length_le (by simp)
theorem uh {l:P1} (h:bw l) (a:32∉l):Txt.rstrip (mk l)=mk l:=by
 unfold Txt.rstrip;rw [PyProof.Rows.stripBy_eq];have d:stripLo Unicode.isSpace false (mk l)=0:=rfl;have f:stripHi Unicode.isSpace true (mk l) 0=l.length:=by
  unfold stripHi;rw [if_pos rfl];have g:(l.reverse.takeWhile Unicode.isSpace)=[]:=by
   cases i:l.reverse with
   |nil=>rfl
   |cons c r=>
    have b:c∈l:=by rw [<-List.mem_reverse,i];simp
    rw [List.takeWhile_cons,BV (h c b)];have:aW c=false:=by
     unfold aW;have:c≠32:=λe=>a (e▸b);simpa using this
    rw [this];rfl
  show l.length-_=_;rw [show ((mk l).cps.toList.drop 0).reverse.takeWhile Unicode.isSpace=[] from g]
  rfl
 rw [d,f,strSub_mk];simp [mk]
theorem iB {l:P1} {h:Nat} (a:h<=l.length):Txt.slice (mk l) (some ((h:Nat):Int)) none=mk (l.drop h):=by
 rw [pN (by lia) (by lia)];simp
theorem iC {l:P1}:Txt.slice (mk l) none (some (0:Int))=mk []:=by
 rw [iQ (by decide) (by lia)];simp
def kz (x:P1):Nat:=tw aW x 0
def kE (x:P1):Nat:=tw aW x 0+tw aT x (tw aW x 0)
def du (x a b:P1):Prop:=tw aT x (kz x)≠0/\(x.drop (kz x)).take (kE x-kz x)=a/\x.drop (kE x)=b
def qP (x:P1):Nat:=vB x+1+tw pQ x (vB x+1)
def xB (x:P1):Prop:=¬ku x
def xC (x a b:P1):Prop:=ku x/\(¬yM x\/QE x (qP x) none)/\(x.drop (vB x)).take (tw aG x (vB x))=a/\x.drop (vB x+tw aG x (vB x))=b
def xD (x a b:P1):Prop:=∃e,yM x/\QE x (qP x) (some e)/\bX ((x.drop (vB x+1)).take (e-(vB x+1))) a/\x.drop (e+1)=b
def ew (x a:P1):Prop:=tw aT x (kz x)=0/\x.drop (kz x)=44::a
def oK (x a:P1):Prop:=tw aT x (kz x)=0/\(x.drop (kz x)).head?≠some 44/\tw pJ x 0≠0/\x.drop (tw pJ x 0)=a
theorem lT {l m:P1} (h:l.length<=1000) (a:m=[]):aD (mk m++mk l):=by rw [a,bu];exact au h
section
variable {x c d f e:P1}
theorem xE (k:bw x) (g:x.length<=900) (h:du x c d):ip [x.length<=900/\(x.drop (kz x)).take (kE x-kz x)=c,aD ((mk [])++(mk d)),(mk [])++(mk d)=(mk d),aD (mk x),ak (.int ((kE x:Int):Int) 0),ak .none,Txt.slice (mk x) (some ((kE x:Int):Int)) none=(mk d),aD (mk x),ak .none,ak (.int (0:Int) 0),Txt.slice (mk x) none (some (0:Int))=(mk []),true=true,true=true,x.length<=900/\kz x<=kE x/\Go 100000 (gW lM.toArray x 1) (Mt 0 (kE x) #[some (kz x),some (kE x)] 1 1),aD (mk x)]:=by
 obtain ⟨m,n,rfl⟩:=h;have j:kE x<=x.length:=by
  unfold kE;have a:=dJ (p:=aW) (l:=x) (i:=0);have b:=dJ (p:=aT) (l:=x) (i:=tw aW x 0);lia
 exact ⟨⟨g,n⟩,lT (by rw [List.length_drop];lia) rfl,by rw [bu];rfl,au (by lia),trivial,trivial,iB j,au (by lia),trivial,trivial,iC,rfl,rfl,⟨g,Nat.le_add_right _ _,(vJ k g).2 m⟩,au (by lia),trivial⟩
theorem sf (a:bw x) (b:x.length<=900) (h:tw aT x (kz x)=0):Go 100000 (gW lM.toArray x 1) Fl:=(vJ a b).1 h
theorem BW (b:bw x) (g:x.length<=900) (h:¬yM x\/QE x (qP x) none):Go 100000 (gW t7.toArray x 1) Fl:=by
 by_cases a:yM x
 ·exact (rH b g).2.1 a (h.resolve_left (λn=>n a))
 ·exact (rH b g).1 a
theorem qI (h:xB x):¬yM x:=λq=>h q.1
theorem lU (h:du x c d):d.length<=x.length/\c.length<=x.length:=by
 obtain ⟨_,rfl,rfl⟩:=h;refine ⟨by simp,by simp;lia⟩
theorem oL (a:bw x) (h:du x c d):bw d:=by
 obtain ⟨_,_,rfl⟩:=h;exact a.drop _
end
end
def IJ (sh:Sh) (t a:P2):Nat->Tok:=bl t ([(5,(a 0)),(13,(a 3))]++xt (tl sh) [(10,(a 1))]++xt (BQ sh) [(12,(a 2)),(14,(a 4))])
def DZ (t a:P2):Nat->Tok:=bl aO [(0,(a 3))]
def IK (w:World) (c:Nat) (e g:P1) (sh:Sh) (v:Value) (x:P1) (y:Value) (p:P1) (q:Addr) (l:P5) (r:Nat) (s:P5) (m i h j:Nat) (f b:P1) (t:P2) (B:P8):a7:={
 B:=λa=>B,Hd:=none,O:=oT [mk [],mk f] (aC [([],cD 61 lM (c::e) i h j),([],cg 61 (c::e) i h j),([],cI 61 (c::e) b i h j),([],dq 66 t7 f),([],dq 71 DP f),([],bg l)]),k:=3,nn:=1,Pm:=5,H:=aQ 0x18d690cfd9da0a0ad88018268b1859d8267b1850197040266aaaaad82110b013106ccd3060ac806ccd306bdbd0ab007b0c1c1b007b0c1c1b007b0c100b0000784e603040265aaaa069894848e05ad8264018285b1,N:=284,
 cF:=λa=>eL (a 0),oF:=λa=>[d2 w.2 t q (a 1) (a 2) (c::e) g sh v x y p,aa s m,aa l r],
 uF:=λa n o=>[d2 w.2 (IJ sh t o) q (a 1) (a 2) f g (jN sh) .none b .none p,aa s m,aa (.ref (n 0)::l) (r+1)],nF:=λa n o=>[],rF:=λa n o=>.again (eL (a 0)),idx:=[],Pn:=[12,1,16,15,19],Px:=[12],gF:=λa n o=>[λF=>F (n 0)=some (az [.str (mk b) ((DZ t o) 0),.none])],Pz:=[0],d:=100,u:=1000,
 facts:=[true=true,l.length<=1000,true=true,f.length<=900/\Go 100000 (gW DP.toArray f 1) Fl,true=true,f.length<=900/\Go 100000 (gW t7.toArray f 1) Fl,true=true,(c::e).length<=900/\((c::e).drop h).take (j-h)=b,aD ((mk [])++(mk f)),(mk [])++(mk f)=(mk f),aD (mk (c::e)),ak (.int ((i:Int):Int) 0),ak .none,Txt.slice (mk (c::e)) (some ((i:Int):Int)) none=(mk f),aD (mk (c::e)),ak .none,ak (.int (0:Int) 0),Txt.slice (mk (c::e)) none (some (0:Int))=(mk []),true=true,true=true,(c::e).length<=900/\h<=j/\Go 100000 (gW lM.toArray (c::e) 1) (Mt 0 i #[some h,some j] 1 1),aD (mk (c::e))]}
theorem IL {sh:Sh}:(IK w c f a sh g h i j k l m n d o p q r b t B).Runs w:=by intro e s u;cases sh<;>kernel_rfl
def IM (w:World) (c:Nat) (f h:P1) (sh:Sh) (D:Value) (E:P1) (G:Value) (y:P1) (z:Addr) (l:P5) (A:Nat) (C:P5) (v o i p:Nat) (b e:P1) (q j r:Nat) (s x g:P1) (t:P2) (B:P8):a7:={
 B:=λa=>B,Hd:=none,O:=oT [mk [],mk b,mk s,mk g] (aC [([],cD 61 lM (c::f) o i p),([],cg 61 (c::f) o i p),([],cI 61 (c::f) e o i p),([],dq 66 t7 b),([],cD 71 DP b q j r),([],bg l),([],cg 71 b q j r),([],cI 71 b x q j r)]),k:=3,nn:=2,Pm:=6,H:=aQ 0x18d6915fd9da0a0ad8213ad000c0d026bb6b6ad82121401320f0ec5820ec5c50f13c80f0ec5820ec5c50fac00ac0013ba10ba00110011ba10ba00110011ba10ba001100bac48410ab0c0d026ab6b60fac94deb6ad8268b1859d8267b1850197040266aaaaad82110b013106ccd3060ac806ccd306bdbd0ab007b0c1c1b007b0c1c1b007b0c100b0000784e603040265aaaa069894848e05ad8264018285b1,N:=459,
 cF:=λa=>eL (a 0),oF:=λa=>[d2 w.2 t z (a 1) (a 2) (c::f) h sh D E G y,aa C v,aa l A],
 uF:=λa n m=>[d2 w.2 (xA sh t m) z (a 1) (a 2) s h (jN sh) (.ref (n 1)) e (.str (mk g) (m 0)) y,aa C v,aa (.ref (n 0)::l) (A+1)],nF:=λa n m=>[],rF:=λa n m=>.again (eL (a 0)),idx:=[],Pn:=[34,29,1,16,15,33],Px:=[21,13],gF:=λa n m=>[λF=>F (n 0)=some (az [.str (mk e) ((jP t m) 0),.str (mk g) ((jP t m) 1)])],Pz:=[0],d:=100,u:=1000,
 facts:=[true=true,l.length<=1000,aD (mk x),Txt.rstrip (mk x)=(mk g),true=true,b.length<=900/\(b.drop j).take (r-j)=x,aD ((mk [])++(mk s)),(mk [])++(mk s)=(mk s),aD (mk b),ak (.int ((q:Int):Int) 0),ak .none,Txt.slice (mk b) (some ((q:Int):Int)) none=(mk s),aD (mk b),ak .none,ak (.int (0:Int) 0),Txt.slice (mk b) none (some (0:Int))=(mk []),true=true,true=true,b.length<=900/\j<=r/\Go 100000 (gW DP.toArray b 1) (Mt 0 q #[some j,some r] 1 1),true=true,b.length<=900/\Go 100000 (gW t7.toArray b 1) Fl,true=true,(c::f).length<=900/\((c::f).drop i).take (p-i)=e,aD ((mk [])++(mk b)),(mk [])++(mk b)=(mk b),aD (mk (c::f)),ak (.int ((o:Int):Int) 0),ak .none,Txt.slice (mk (c::f)) (some ((o:Int):Int)) none=(mk b),aD (mk (c::f)),ak .none,ak (.int (0:Int) 0),Txt.slice (mk (c::f)) none (some (0:Int))=(mk []),true=true,true=true,(c::f).length<=900/\i<=p/\Go 100000 (gW lM.toArray (c::f) 1) (Mt 0 o #[some i,some p] 1 1),aD (mk (c::f))]}
theorem IP {sh:Sh}:(IM w c g a sh h i j k m l n o d p q r s b u v x y z e t B).Runs w:=by intro f A C;cases sh<;>kernel_rfl
def BX (sh:Sh) (t a:P2):Nat->Tok:=bl t ([(5,(a 0))]++xt (tl sh) [(10,(a 1))])
def IQ (w:World) (c:Nat) (b e:P1) (sh:Sh) (v:Value) (o:P1) (p:Value) (q:P1) (r:Addr) (l:P5) (s:Nat) (h:P5) (g:Nat) (f j:P1) (m:Value) (t:P2) (B:P8):a7:={
 B:=λa=>B,Hd:=none,O:=oT [mk f,mk j] (aC [([],dq 61 lM (c::b)),([],dK m l),([],bg h)]),k:=3,nn:=1,Pm:=2,H:=aQ 0xad886602fd01918d8d65a0addf31c4b102c49d9d8264018285b1,N:=105,
 cF:=λa=>eL (a 0),oF:=λa=>[d2 w.2 t r (a 1) (a 2) (c::b) e sh v o p q,aa h g,aa (m::l) s],
 uF:=λa n i=>[d2 w.2 (BX sh t i) r (a 1) (n 0) j e (qB sh) .none o p q,aa (.ref (a 2)::h) (g+1),av],nF:=λa n i=>[aa [] 0],rF:=λa n i=>.again (eL (a 0)),idx:=[4],Pn:=[6,1],gF:=λa n i=>[λF=>F (a 2)=some (aa (m::l) s)],Pz:=[0],d:=100,u:=1000,
 facts:=[true=true,h.length<=1000,true=true,l.length<=900,aD (mk f),ak (.int (1:Int) 0),ak .none,Txt.slice (mk f) (some (1:Int)) none=(mk j),aD (mk (c::b)),Txt.lstrip (mk (c::b))=(mk f),Txt.startswith (mk f) (mk [44])=true,aD (mk (c::b)),Txt.lstrip (mk (c::b))=(mk f),true=true,(c::b).length<=900/\Go 100000 (gW lM.toArray (c::b) 1) Fl,aD (mk (c::b))]}
theorem IR {sh:Sh}:(IQ w c e a sh f g h i j l k m b n o p t B).Runs w:=by intro d q r;cases sh<;>kernel_rfl
def IS (w:World) (c:Nat) (b e:P1) (sh:Sh) (r:Value) (l:P1) (m:Value) (o:P1) (p:Addr) (h:Nat) (q:P5) (g:Nat) (f i:P1) (t:P2) (B:P8):a7:={
 B:=λa=>B,Hd:=none,O:=oT [mk f,mk i] (aC [([],dq 61 lM (c::b))]),k:=3,nn:=1,Pm:=2,H:=aQ 0xada501a0addf31c4b102c49d9d8264018285b1,N:=90,
 cF:=λa=>eL (a 0),oF:=λa=>[d2 w.2 t p (a 1) (a 2) (c::b) e sh r l m o,aa q g,aa [] h],
 uF:=λa n j=>[d2 w.2 (BX sh t j) p (a 1) (n 0) i e (qB sh) .none l m o,aa q g,aa [] h],nF:=λa n j=>[aa [] 0],rF:=λa n j=>.again (eL (a 0)),idx:=[4],Pn:=[6,1],d:=100,u:=1000,
 facts:=[(CA (aa [] h)).length<=1000,aD (mk f),ak (.int (1:Int) 0),ak .none,Txt.slice (mk f) (some (1:Int)) none=(mk i),aD (mk (c::b)),Txt.lstrip (mk (c::b))=(mk f),Txt.startswith (mk f) (mk [44])=true,aD (mk (c::b)),Txt.lstrip (mk (c::b))=(mk f),true=true,(c::b).length<=900/\Go 100000 (gW lM.toArray (c::b) 1) Fl,aD (mk (c::b))]}
theorem IT {sh:Sh}:(IS w c e a sh f g h i j k l b m n t B).Runs w:=by intro d o p;cases sh<;>kernel_rfl
def IU (w:World) (b:P1) (sh:Sh) (e:Value) (f:P1) (g:Value) (h:P1) (i:Addr) (l:P5) (j:Nat) (m:P5) (c:Nat) (t:P2) (B:P8):a7:={
 B:=λa=>B,Hd:=none,O:=oB [],k:=3,nn:=0,Pm:=0,H:=256,N:=21,
 cF:=λa=>eL (a 0),oF:=λa=>[d2 w.2 t i (a 1) (a 2) [] b sh e f g h,aa m c,aa l j],
 uF:=λa n o=>[d2 w.2 t i (a 1) (a 2) [] b sh e f g h,aa m c,aa l j],nF:=λa n o=>[],rF:=λa n o=>.end_ (.ok .next),idx:=[],Pn:=[],d:=100,u:=1000,
 facts:=[]}
theorem IV {sh:Sh}:(IU w a sh d e f g h l i j b t B).Runs w:=by intro c k m;cases sh<;>kernel_rfl
def IW (sh:Sh) (t a:P2):Nat->Tok:=bl t ([(5,(a 0)),(17,(a 0)),(19,(a 4))]++xt (tl sh) [(10,(a 1))]++xt (Ir sh) [(16,(a 2)),(18,(a 3))])
def IX (w:World) (c:Nat) (b e:P1) (sh:Sh) (s:Value) (m:P1) (o:Value) (v:P1) (p:Addr) (l:P5) (q:Nat) (r:P5) (f:Nat) (i g:P1) (h:Nat) (t:P2) (B:P8):a7:={
 B:=λa=>B,Hd:=none,O:=oT [mk i] (aC [([],dq 61 lM (c::b)),([],jd (c::b) g h)]),k:=3,nn:=0,Pm:=5,H:=aQ 0xad92ad880007aa04aad3aa04aad3aa04aad305000484bf006501828703c49d9d8264018285b1,N:=148,
 cF:=λa=>eL (a 0),oF:=λa=>[d2 w.2 t p (a 1) (a 2) (c::b) e sh s m o v,aa r f,aa l q],
 uF:=λa n j=>[d2 w.2 (IW sh t j) p (a 1) (a 2) g e (zZ sh) .none m o g,aa r f,aa l q],nF:=λa n j=>[],rF:=λa n j=>.again (eL (a 0)),idx:=[],Pn:=[5,1,7,8,6],d:=100,u:=1000,
 facts:=[true=true,bw (c::b)/\(c::b).length<=900/\tw pJ (c::b) 0=h/\h≠0/\(c::b).drop h=g,Txt.startswith (mk i) (mk [44])=false,aD (mk (c::b)),Txt.lstrip (mk (c::b))=(mk i),true=true,(c::b).length<=900/\Go 100000 (gW lM.toArray (c::b) 1) Fl,aD (mk (c::b))]}
theorem IY {sh:Sh}:(IX w c e a sh f g h i j l k m b n o p t B).Runs w:=by intro d q r;cases sh<;>kernel_rfl
section
def BY (d a:List (Nat⊕Nat)) (e:Nat) (b c:P7):Bool:=a.all λx=>match x with
 | .inl p=>(match d.drop p with
  | .inr _::_=>true
  |_=>false)&& !(b.getD p av).isFreed
 | .inr j=>Nat.blt j c.length&&Nat.blt j e
set_option tactic.hygienic true in
theorem ah.P0 {w:World} {F:aA} {d u:Nat} {C:P8} {H:P6} {c:Code} {U:P4->Code} {a:P4} {A:P7} {V Pm:Nat} {t z:P4->P2->P7} {v:P4->P2->Qb}
  (m:List (Nat⊕Nat)) (B:P1) (i:List (Nat⊕Nat)) {D y:Nat} {updF newF:P4->P2->P7} {gF:P4->P2->Qb} {resF:P4->P2->hZ}
  (h1:ah aX w F d u C H c (ab a A) t V Pm z (λk _=>.again (U k)) v)
  (n s:P4->P2->P4->P2->P7)
  (h2:∀I k l,Le F I->(∀g∈v k l,∀E,Le I E->g E)->ah aX w I d u C H (U k) (ab (bt a k m) (iu (t k l) (z k l) m)) (λb f=>n k l b f) D y (λb f=>s k l b f) (λb f=>resF (ae i.length (fK a k b m i)) f) (λb f=>gF (ae i.length (fK a k b m i)) f))
  (hF:∀k l b f,rU (t k l) (n k l b f) B 0=updF (ae i.length (fK a k b m i)) f:=by intros;kernel_rfl)
  (hN:∀k l b f,newF (ae i.length (fK a k b m i)) f=rT (n k l b f) (s k l b f) i:=by intros;kernel_rfl)
  (hO:∀k l b f,lF m (t k l).length (n k l b f).length B 0=true:=by intros;kernel_rfl)
  (J:∀k l b f,BY m i D (n k l b f) (s k l b f)=true:=by intros;kernel_rfl)
  (hl:∀k l,(t k l).length=A.length:=by intros;kernel_rfl) (L:∀k l,(updF k l).length=A.length:=by intros;kernel_rfl)
  (G:m.Nodup:=by decide) (N:i.Nodup:=by decide) (O:∀k l,qs m A.length V (t k l) (z k l)=true:=by intros;kernel_rfl) (Q:∀k l b f,(n k l b f).length=m.length:=by intros;kernel_rfl):
  ah aX w F d u C H c (ab a A) updF i.length y newF resF gF:=
 ah.Pr m i h1 hl L G (λk l x T=>by
  have:=List.all_eq_true.mp (O k l) x T;cases x with
  |inl j=>
   obtain ⟨p,q⟩:=Bool.and_eq_true_iff.mp this;exact ⟨Nat.le_of_ble_eq_true p,by simpa using q⟩
  |inr j=>
   obtain ⟨p,q⟩:=Bool.and_eq_true_iff.mp this;exact ⟨Nat.le_of_ble_eq_true p,Nat.le_of_ble_eq_true q⟩) n s Q (λk l b f j o h hf=>by
  rw [<-hF k l b f] at h;have:=jH (iw (hO k l b f)) h hf;rw [Nat.zero_add] at this;exact this) N hN (λk l b f x T=>by
  have:=List.all_eq_true.mp (J k l b f) x T;cases x with
  |inl p=>
   obtain ⟨Y,q2⟩:=Bool.and_eq_true_iff.mp this;refine ⟨?_,by simpa using q2⟩
   split at Y
   ·rename_i q r e
    have e2:=congrArg (·[0]?) e;simp only [List.getElem?_drop,Nat.add_zero,List.getElem?_cons_zero] at e2;exact ⟨q,e2⟩
   ·cases Y
  |inr j=>
   obtain ⟨p,q⟩:=Bool.and_eq_true_iff.mp this;exact ⟨Nat.le_of_ble_eq_true p,Nat.le_of_ble_eq_true q⟩) h2
structure SS where
 x:P1
 sh:Sh
 nm:P1
 vv:P9
 nj:P1
 C:List af
 D:List (List af)
inductive SP:Bool->SS->SS->Prop
 |stop (s:SS):s.x=[]->SP false s s
 |name (name t2:P1) (cm:Bool) (f:SS) {x sh nm vv nj C D}:x≠[]->du x name t2->xB t2->C.length<=900->
   SP cm ⟨t2,jN sh,name,none,nj,(name,none)::C,D⟩ f->SP cm ⟨x,sh,nm,vv,nj,C,D⟩ f
 |val (name t2 val t3:P1) (cm:Bool) (f:SS) {x sh nm vv nj C D}:x≠[]->du x name t2->xC t2 val t3->C.length<=900->
   SP cm ⟨t3,jN sh,name,some val,nj,(name,some val)::C,D⟩ f->SP cm ⟨x,sh,nm,vv,nj,C,D⟩ f
 |PR (name t2 val t3:P1) (cm:Bool) (f:SS) {x sh nm vv nj C D}:x≠[]->du x name t2->xD t2 val t3->C.length<=900->
   SP cm ⟨t3,jN sh,name,some val,nj,(name,some val)::C,D⟩ f->SP cm ⟨x,sh,nm,vv,nj,C,D⟩ f
 |comma (t2:P1) (cm:Bool) (f:SS) {x sh nm vv nj p C D}:x≠[]->ew x t2->(p::C).length<=900->D.length<=900->
   SP cm ⟨t2,qB sh,nm,vv,nj,[],(p::C)::D⟩ f->SP true ⟨x,sh,nm,vv,nj,p::C,D⟩ f
 |PM (t2:P1) (cm:Bool) (f:SS) {x sh nm vv nj D}:x≠[]->ew x t2->
   SP cm ⟨t2,qB sh,nm,vv,nj,[],D⟩ f->SP true ⟨x,sh,nm,vv,nj,[],D⟩ f
 |PN (t2:P1) (cm:Bool) (f:SS) {x sh nm vv nj C D}:x≠[]->oK x t2->
   SP cm ⟨t2,zZ sh,nm,vv,t2,C,D⟩ f->SP cm ⟨x,sh,nm,vv,nj,C,D⟩ f
noncomputable def mV (n:Nat):Value:=match n with
 |0=>.none
 |n+1=>.ref n
noncomputable def MF (n:Nat):Option Addr:=match n with
 |0=>none
 |n+1=>some n
def dk (n:Nat):Obj:=BR (MF n)
def dD (n:Nat):aA->Prop:=λF=>∀c,MF n=some c->∃ad a,F c=some (lR ad a)
theorem dD.le {n:Nat} {F a:aA} (h:dD n F) (b:Le F a):dD n a:=λc d=>by
 obtain ⟨ad,f,e⟩:=h c d;exact ⟨ad,f,b _ _ e⟩
def NM (w:World) (t:P2) (d:Addr) (b:P1) (s:SS) (e:Nat) (f:Tok) (g:P5) (c:Nat) (l:P5) (h i:Nat) (a:P4):P7:=
 [d2 w.2 t d (a 1) (a 2) s.x b s.sh (mV e) s.nm (cA s.vv f) s.nj,aa g c,aa l h,dk i]
noncomputable def MG (b:Bool) (a c:P4):Addr:=match b with
 |true=>c 0
 |false=>a 2
def MH (b:Bool) (a:P2):Obj:=match b with
 |true=>av
 |false=>aa (ar (a 24)) (a 25)
def sg (b:Bool) (a:P2):P7:=match b with
 |true=>[aa (ar (a 24)) (a 25)]
 |false=>[]
noncomputable def E0 (a:Bool):List (Nat⊕Nat):=match a with
 |true=>[.inr 0]
 |false=>[]
def BZ (w:World) (d:Bool) (e:Addr) (c:P1) (f:SS) (a g:P4) (b:P2):P7:=
 [d2 w.2 b e (a 1) (MG d a g) [] c f.sh (mV (b 20)) f.nm (cA f.vv (b 21)) f.nj,aa (ar (b 22)) (b 23),MH d b,dk (b 26)]
def NO (f:SS) (a:P2):Qb:=[λF=>cq F (ar (a 22)) f.D,λF=>aM F (ar (a 24)) f.C,dD (a 26)]
def D0 (w:World) (F:aA) (B:P8) (d:Bool) (e:Addr) (b:P1) (f:SS) (a:P4) (g:P7):Prop:=
 ah aX w F 100 1000 B none (eL (ae 4 a 0)) (ab a g) (λh c=>BZ w d e b f (ae 4 a) h c) (E0 d).length 27 (λY c=>sg d c) (λY Y=>.end_ (.ok .next)) (λY c=>NO f c)
noncomputable def mE:List (Nat⊕Nat):=[.inl 0,.inl 1,.inl 2,.inl 3]
noncomputable def z4:List (Nat⊕Nat):=[.inl 0,.inl 1,.inr 0,.inl 3]
section
variable {w:World} {F:aA} {B:P8} {a:P4} {t:P2} {c:Addr} {b:P1}
theorem xF {P:Params} {d f:Addr} {sh:Sh} {g:Value} {h x j:P1} {k:Value} {l:List (Nat×Tok)} (m:∀i,i<20->bl t l i=t i):d2 P (ae 27 (bl t l)) c d f x b sh g h k j=d2 P t c d f x b sh g h k j:=by
 have e:∀i,i<20->ae 27 (bl t l) i=t i:=λi n=>by
  unfold ae;rw [show Nat.blt i 27=true from by simp [Nat.blt_eq];lia]
  exact m i n
 cases sh<;>simp only [d2,xr,EZ,Kv,Kw,e 0 (by decide),e 2 (by decide),e 4 (by decide),e 5 (by decide),e 6 (by decide),e 7 (by decide),e 8 (by decide),e 10 (by decide),e 12 (by decide),e 13 (by decide),e 14 (by decide),e 16 (by decide),e 17 (by decide),e 18 (by decide),e 19 (by decide)]
theorem z5 (T:Le (top w.2) F) {s:SS} {j:Nat} {m:Tok} {r l:P5} {d n e:Nat} (E:s.x=[]) (G:aM F l s.C) (o:cq F r s.D) (y:dD e F):
  D0 w F B false c b s a (NM w t c b s j m r d l n e (ae 4 a)):=by
 obtain ⟨x,sh,H,I,L,C,D⟩:=s;dsimp only at E;subst E;obtain ⟨u,N⟩:=i6 o;obtain ⟨v,O⟩:=cX G;have J:=(((IU w b sh (mV j) H (cA I m) L c l n r d t B).Pu (F:=F) T cG IV (λ_ h=>by cases h) a).frame [dk e] (λ_ _=>rfl)).Pw (gives':=λ_ _=>[λF=>cq F r D,λF=>aM F l C,dD e])
  λQ z U A V g p=>by
   simp only [List.mem_cons,List.not_mem_nil,or_false] at p;rcases p with rfl|rfl|rfl
   ·exact o.le A
   ·exact G.le A
   ·exact y.le A
 refine ah.Pt (λ_ z=>bl t [(20,j),(21,m),(22,u),(23,d),(24,v),(25,n),(26,e)]) J (λQ z=>?_) (λ_ _=>rfl) (λ_ _=>rfl) (λQ z=>?_)
 ·show [d2 w.2 (ae 27 (bl t [(20,j),(21,m),(22,u),(23,d),(24,v),(25,n),(26,e)])) c (ae 4 a 1) (ae 4 a 2) [] b sh (mV j) H (cA I m) L,aa (ar u) d,aa (ar v) n,dk e]=_
  rw [xF (λi Y=>by
   have f:∀k,20<=k->Nat.beq i k=false:=λk hk=>by
    cases q:Nat.beq i k with
    |false=>rfl
    |true=>have:=Nat.eq_of_beq_eq_true q;lia
   simp only [bl,f 20 (by decide),f 21 (by decide),f 22 (by decide),f 23 (by decide),f 24 (by decide),f 25 (by decide),f 26 (by decide)]),N,O]
  rfl
 ·show [λF=>cq F (ar u) D,λF=>aM F (ar v) C,dD e]=_
  rw [N,O]
end
end
theorem si {o:Obj} (h:(alive o).isSome=true):alive o=some o:=by
 obtain ⟨c,d,a,b⟩:=o;cases a<;>first|rfl|injection h
theorem lV {T:BT} {n:Nat} {life:Life}:∀(K:List (Nat×Obj)),(K.map λp=>T.get p.1)=(K.map λp=>some p.2)->(K.all λp=>Nat.blt p.1 n&&(alive p.2).isSome)=true->AllIn (absHeap T n life) K
 |[],_,_=>trivial
 |p::K,e,a=>by
  simp only [List.map_cons,List.map_cons] at e;injection e with c d;simp only [List.all_cons] at a;obtain ⟨b,f⟩:=Bool.and_eq_true_iff.mp a;obtain ⟨b,g⟩:=Bool.and_eq_true_iff.mp b;exact ⟨(abs_get (Nat.le_of_ble_eq_true b) c).trans (si g),lV K d f⟩
theorem z6 (P:Params):((kR P).all λp=>Nat.blt p.1 849&&(alive p.2).isSome)=true:=by kernel_rfl
theorem D1 {h:Heap} (K:Frag) (T:PySem.W.X.KT) (e:T=PySem.W.X.KT.of K) (A:AllIn h K) (a:Nat) (o:Obj) (g:T.get a=some o):h.get? a=some o:=by
 subst e;exact kt_at (holds_of A) g
theorem xG (P:Params):tQ P=PySem.W.X.KT.of (kR P):=by delta tQ;exact Eq.refl _
theorem D2 {P:Params} {a:Addr}:top P a=(tQ P).get a:=by unfold top;rfl
theorem z7 {P:Params} {S:SharedT} (c:((kR P).map λp=>S.tree.get p.1)=(kR P).map (λp=>some p.2)) (h:S.n=849):cK (top P) S.abs.heap:=by
 intro b o a;rw [D2] at a;refine D1 (kR P) (tQ P) (xG P) (lV (T:=S.tree) (n:=S.n) (life:=S.life) (kR P) c ?_) b o a;rw [h];exact z6 P
theorem IZ {A B C D E F G H:Type} {a i:A} {b j:B} {c k:C} {d l:D} {e m:E} {f n:F} {g o:G} {h p:H} (x:(a,b,c,d,e,f,g,h)=(i,j,k,l,m,n,o,p)):
  a=i/\b=j/\c=k/\d=l/\e=m/\f=n/\g=o/\h=p:=by
 cases x;exact ⟨rfl,rfl,rfl,rfl,rfl,rfl,rfl,rfl⟩
theorem D3 (w:World):∃a S,sQ w=some (a,S)/\((kR w.2).map λp=>S.tree.get p.1)=(kR w.2).map (λp=>some p.2)/\Nat.beq S.n 849=true/\S.tree.get 78=some {cls:=.none,data:=.fields #[]}/\
  (a.1.isNs mainGlobals&&a.gens.size==0)=true/\a.1.nsMap mainGlobals "__annotations__"=some (.ref 6)/\
  (staticsOk mW a.1 S.abs.heap&&namesBound pw S.abs.heap&&gensDone S.abs&&laidKept a.1 S.abs.heap)=true/\S.abs.heap.bltView=bltViewBooted/\
  (S.abs.heap.accountedOkI mW&&S.abs.heap.isNs mainGlobals&&S.abs.heap.isNs builtinsNs&&S.abs.heap.bmainOk&&S.gens.size==0)=true:=by
 obtain ⟨⟨a,S⟩,h,e⟩:=Option.map_eq_some_iff.mp (Cx w);exact ⟨a,S,h,IZ e⟩
theorem qJ (w:World):(∃s,AfterRun (opening pw) w s)/\∀s,AfterRun (opening pw) w s->∃c,fenceModules? pw s=some c/\c.gens= #[]/\∃d,TopRan pw w c d/\d.asleep/\d.gens= #[]/\
  d.1.isNs mainGlobals=true/\d.1.1.size=849/\cK (top w.2) d.1/\d.1.get? 78=some (dk 0):=by
 obtain ⟨c,S,h,G,H,I,J,L,N,O,Q⟩:=D3 w;obtain ⟨⟨s,B,C⟩,D,n⟩:=rB h;rw [<-table_eq_tree] at B D;have A:=AfterImport.of_importEnds B;refine ⟨⟨s,A⟩,λU p=>?_⟩;obtain rfl:U=s:=AfterImport.unique p A;have z:c.asleep:=Shared.asleep_of_life (fence_lifeW C) A.life;obtain ⟨V,g⟩:=Bool.and_eq_true_iff.mp J;obtain ⟨i,r⟩:=Bool.and_eq_true_iff.mp N;obtain ⟨i,t⟩:=Bool.and_eq_true_iff.mp i;obtain ⟨i,u⟩:=Bool.and_eq_true_iff.mp i;obtain ⟨j,Y⟩:=Bool.and_eq_true_iff.mp Q;obtain ⟨j,kb⟩:=Bool.and_eq_true_iff.mp j;obtain ⟨j,k⟩:=Bool.and_eq_true_iff.mp j;obtain ⟨m,f⟩:=Bool.and_eq_true_iff.mp j;obtain ⟨a,l,os,fr⟩:=topRun_spec _ _ _ _ z D;have e:S.n=849:=Nat.eq_of_beq_eq_true H;have v:builtinsGlobalAsBooted S.abs.heap:=by
  obtain ⟨bm,ob,b1,_,b3,b4,b5,_⟩:=Heap.bmainOk_spec kb;exact ⟨bm,ob,(Pin.globalOf_eq f _).trans b1,b3,b4,b5⟩
 have p1:staticsAccountedI S.abs.heap (importedModules pw.main.body):=by
  have:=Heap.accountedI_of_ok m;unfold mW at this;exact this
 have p2:staticsBehindTheTop (importedModules pw.main.body) c.1 S.abs.heap:=by
  have:=statics_of_ok i;unfold mW at this;exact this
 have p3:keysAreStrs S.abs.heap mainNs:=Pin.keysAreStrs_of f;have p4:builtinsAsBooted S.abs.heap:=λx hx=>(Pin.builtinOf_eq k x).trans (Heap.of_bltView k O x hx);have p5:=gens_of_done t;have p6:=names_of_bound u;have p7:=laid_of_kept r;have p8:∀b o,c.1.get? b=some o->¬theTopsOwn c.1 b->S.abs.heap.get? b=some o:=λb o E g=>fr b o (by have:=Heap.lt_size E;rw [n] at this;exact this) (λq=>g (.inl q)) (λq=>g (.inr (.inl q)))
   (λq=>g (.inr (.inr ((Pin.globalOf_eq V _).trans (L.trans q))))) E
 have p9:S.abs.heap.get? 78=some (dk 0):=by
  refine (abs_get (by rw [e];decide) I).trans ?_
  delta dk BR;rfl
 have y:cK (top w.2) S.abs.heap:=z7 G e;have T:TopRan pw w c S.abs:=⟨a,l,Shared.rest_eq os,p8,p1,p2,p3,p4,v,p5,p6,p7⟩;exact ⟨c,C,Array.eq_empty_of_size_eq_zero (beq_iff_eq.mp g),S.abs,T,Shared.asleep_of_life l z,Array.eq_empty_of_size_eq_zero (beq_iff_eq.mp Y),f,(absHeap_size ..).trans e,y,p9⟩
section
theorem lW (c:Nat) (b:P1):Txt.startswith (mk (c::b)) (mk [c])=true:=by
 unfold Txt.startswith;simp only [Bool.and_eq_true];refine ⟨decide_eq_true (by rw [bG,bG];simp),?_⟩
 rw [StrLaws.subAt_eq,bG];simp [mk]
theorem ui {c:Nat} {l:P1} (h:l.head?≠some c):Txt.startswith (mk l) (mk [c])=false:=by
 unfold Txt.startswith;rw [StrLaws.subAt_eq,bG];cases l with
 |nil=>rfl
 |cons d r=>
  have:d≠c:=λe=>h (by rw [e];rfl)
  simp [mk,this]
section
variable {w:World} {F:aA} {x b d o m k:P1} {l n:P5} {e f g h j i:Nat} {a:List Str}
theorem MI (p:Le (top w.2) F):bH w F (oT a (aC [([],cD 61 lM x e f g),([],cg 61 x e f g),([],cI 61 x b e f g),([],dq 66 t7 d),([],dq 71 DP d),([],bg l)])):=
 bh (aI ⟨λY c=>d0 (p.trans c) (t8 _),λY Y=>d1,λY Y=>e9,λY c=>dO (p.trans c) (DQ _),λY c=>dO (p.trans c) (H9 _),λY Y=>bS,trivial⟩)
theorem MJ (p:Le (top w.2) F):bH w F (oT a (aC [([],cD 61 lM x e f g),([],cg 61 x e f g),([],cI 61 x b e f g),([],dq 66 t7 d),([],cD 71 DP d h j i),([],bg l),([],cg 71 d h j i),([],cI 71 d k h j i)])):=
 bh (aI ⟨λY c=>d0 (p.trans c) (t8 _),λY Y=>d1,λY Y=>e9,λY c=>dO (p.trans c) (DQ _),λY c=>d0 (p.trans c) (H9 _),λY Y=>bS,λY Y=>d1,λY Y=>e9,trivial⟩)
theorem I0 (s:Le (top w.2) F) {p:aY} (t:∀r,Le F r->∀c u kn,(p c u kn).Ok w r):bH w F (oT a (aC [([],cD 61 lM x e f g),([],cg 61 x e f g),([],cI 61 x b e f g),([],cD 66 t7 d h j i),([],bg l),([],bg l),([],cg 66 d h j i),([],cI 66 d k h j i),([],p)])):=
 bh (aI ⟨λY q=>d0 (s.trans q) (t8 _),λY Y=>d1,λY Y=>e9,λY q=>d0 (s.trans q) (DQ _),λY Y=>bS,λY Y=>bS,λY Y=>d1,λY Y=>e9,λr q=>t r q,trivial⟩)
theorem MK (c:Le (top w.2) F) {p:Value}:bH w F (oT a (aC [([],dq 61 lM x),([],dK p l),([],bg n)])):=
 bh (aI ⟨λY q=>dO (c.trans q) (t8 _),λY Y=>iA,λY Y=>bS,trivial⟩)
theorem ML (c:Le (top w.2) F):bH w F (oT a (aC [([],dq 61 lM x)])):=
 bh (aI ⟨λY p=>dO (c.trans p) (t8 _),trivial⟩)
theorem MM (p:Le (top w.2) F):bH w F (oT a (aC [([],dq 61 lM x),([],jd x d e)])):=
 bh (aI ⟨λY c=>dO (p.trans c) (t8 _),λY c=>r9 (p.trans c),trivial⟩)
end
section
variable {w:World} {B:P8} {hv:Addr} {orig:P1}
theorem I1 {l:P1} (h:ku l):vB l<=l.length:=by
 have a:=h.1;have:=dJ (p:=aW) (l:=l) (i:=tw aW l 0+1);unfold vB;omega
theorem xH {p:Nat->Bool} {c:Nat}:∀{l:P1},c∈l.takeWhile p->p c=true
 |[],h=>by cases h
 |d::l,h=>by
  rw [List.takeWhile_cons] at h;split at h
  ·rcases List.mem_cons.mp h with rfl|h
   ·assumption
   ·exact xH h
  ·exact nomatch h
theorem uj {l:P1} {i:Nat}:32∉(l.drop i).take (tw aG l i):=λh=>by
 unfold tw at h;rw [<-List.prefix_iff_eq_take.mp (List.takeWhile_prefix aG)] at h;have:=xH h;simp [aG] at this
def D4 (w:World) (hv:Addr) (orig:P1) (f:SS) (a:P4) (c:List (Nat⊕Nat)) (h k:P4->P2->P7) (n:Nat) (l:P4->P2->hZ) (b m:Bool) (i:P1) (e:List (Nat⊕Nat)):Prop:=∀ad j g d,
 (rU (h ad j) (BZ w b hv orig f (ae 4 (bt a ad c)) g d) i 0,rT (BZ w b hv orig f (ae 4 (bt a ad c)) g d) (sg b d) e,lF c 4 4 i 0,BY c e (E0 b).length (BZ w b hv orig f (ae 4 (bt a ad c)) g d) (sg b d),qs c 4 n (h ad j) (k ad j),(h ad j).length,l ad j)=
  (BZ w m hv orig f (ae 4 a) (ae e.length (fK a ad g c e)) d,sg m d,true,true,true,4,.again (eL (ae 4 (bt a ad c) 0)))
section
variable {F:aA} {a:P4} {f:SS} {j:P7} {k l:Nat} {d e:P4->P2->P7} {c:P4->P2->Qb} {i:P4->P2->hZ}
theorem I2 {b u:Bool} {r:List (Nat⊕Nat)} {v:P1} {s:List (Nat⊕Nat)} (h:ah aX w F 100 1000 B none (eL (ae 4 a 0)) (ab a j) d k l e i c) (t:j.length=4) (A:∀y m n,Le F y->(∀g∈c m n,∀x,Le y x->g x)->D0 w y B b hv orig f (bt a m r) (iu (d m n) (e m n) r))
  (o:D4 w hv orig f a r d e k i b u v s) (C:r.Nodup) (D:s.Nodup) (E:r.length=4) (G:s.length=(E0 u).length):D0 w F B u hv orig f a j:=by
 rw [show i=λm Y=>.again (eL (ae 4 (bt a m r) 0)) from funext λm=>funext λn=>congrArg (·.2.2.2.2.2.2) (o m n m n)] at h
 have z:=ah.P0 r v s (updF:=λm n=>BZ w u hv orig f (ae 4 a) m n) (newF:=λY n=>sg u n) h (λm n q p=>BZ w b hv orig f (ae 4 (bt a m r)) q p) (λY Y Y p=>sg b p) (gF:=λY n=>NO f n) (resF:=λY Y=>.end_ (.ok .next)) A (λm n q p=>congrArg (·.1) (o m n q p)) (λm n q p=>(congrArg (·.2.1) (o m n q p)).symm)
  (λm n q p=>by rw [show (d m n).length=4 from congrArg (·.2.2.2.2.2.1) (o m n q p)];exact congrArg (·.2.2.1) (o m n q p)) (λm n q p=>congrArg (·.2.2.2.1) (o m n q p)) (λm n=>(congrArg (·.2.2.2.2.2.1) (o m n m n)).trans t.symm) (λY Y=>t.symm) C D (λm n=>by rw [t];exact congrArg (·.2.2.2.2.1) (o m n m n)) (λY Y Y Y=>E.symm)
 unfold D0;rw [<-G];exact z
theorem D5 {q:Bool} (n:Bool->Bool) (b:List (Nat⊕Nat)) (x y:P1) (r s:List (Nat⊕Nat)) (h:ah aX w F 100 1000 B none (eL (ae 4 a 0)) (ab a j) d k l e i c) (o:j.length=4) (v:∀t ad u,Le F t->(∀g∈c ad u,∀p,Le t p->g p)->D0 w t B q hv orig f (bt a ad b) (iu (d ad u) (e ad u) b))
  (o0:D4 w hv orig f a b d e k i false (n false) x r:=by intro _ _ _ _;kernel_rfl) (z:D4 w hv orig f a b d e k i true (n true) y s:=by intro _ _ _ _;kernel_rfl) (m:(b.Nodup/\r.Nodup/\s.Nodup)/\b.length=4/\r.length=(E0 (n false)).length/\s.length=(E0 (n true)).length:=by decide):D0 w F B (n q) hv orig f a j:=by
 cases q with
 |false=>exact I2 h o v o0 m.1.1 m.1.2.1 m.2.1 m.2.2.1
 |true=>exact I2 h o v z m.1.1 m.1.2.2 m.2.1 m.2.2.2
end
def oM (w:World) (B:P8) (hv:Addr) (orig:P1) (b:Bool) (s f:SS):Prop:=∀{F:aA} (_:Le (top w.2) F) {a:P4} {t:P2} {mv:Nat} {tv:Tok} {ll l:P5} {nll nl st:Nat},a 3=78->bw s.x->s.x.length<=900->aM F l s.C->cq F ll s.D->dD st F->
  D0 w F B b hv orig f a (NM w t hv orig s mv tv ll nll l nl st (ae 4 a))
section
variable {q:Bool} {f:SS} {c:Nat} {j g b r m n k:P1} {sh:Sh} {o:P9} {C:List af} {D:List (List af)} {p:af}
theorem z8 (h:du (c::j) g b) (y:xB b) (H:C.length<=900) (I:oM w B hv orig q ⟨b,jN sh,g,none,k,(g,none)::C,D⟩ f):oM w B hv orig q ⟨c::j,sh,n,o,k,C,D⟩ f:=by
 intro F i a t mv tv J l s L st N z A E u v;have d:b.length<=900:=Nat.le_trans (lU h).1 A;have x:=oL z h;refine D5 id mE [1,2,3,4] [1,2,0,4] [] [.inr 0] (((IK w c j orig sh (mV mv) n (cA o tv) k hv l L J s (kE (c::j)) (kz (c::j)) (kE (c::j)) b g t B).Pu i (MI i) IL (ag ?_) a).frame [dk st] (λY Y=>rfl)) rfl
  (λO G T e Q=>I (i.trans e) (a:=bt a G mE) (mv:=0) (tv:=0) N x d (.cons ⟨G 0,_,0,rfl,Q _ List.mem_cons_self O (Le.refl _)⟩ (E.le e)) (u.le e) (v.le e))
 exact ⟨rfl,Nat.le_trans (Nat.le_of_eq E.len) (Nat.le_trans H (by decide)),rfl,⟨d,(vL x d).1 y⟩,rfl,⟨d,BW x d (.inl (qI y))⟩,rfl,xE z A h⟩
theorem D6 (s:du (c::j) g b) (L:xC b m r) (N:C.length<=900) (O:oM w B hv orig q ⟨r,jN sh,g,some m,k,(g,some m)::C,D⟩ f):oM w B hv orig q ⟨c::j,sh,n,o,k,C,D⟩ f:=by
 intro F u a t mv tv Q l v T st U E G H x y;have d:b.length<=900:=Nat.le_trans (lU s).1 G;have e:=oL E s;obtain ⟨I,V,rfl,rfl⟩:=L;have z:vB b+tw aG b (vB b)<=b.length:=by
  have:=dJ (p:=aG) (l:=b) (i:=vB b);have:=I1 I;lia
 have J:(b.drop (vB b+tw aG b (vB b))).length<=900:=Nat.le_trans (List.drop_sublist _ _).length_le d;have Y:((b.drop (vB b)).take (tw aG b (vB b))).length<=900:=Nat.le_trans ((List.take_sublist _ _).trans (List.drop_sublist _ _)).length_le d;refine D5 id mE [1,2,3,4] [1,2,0,4] [] [.inr 0] (((IM w c j orig sh (mV mv) n (cA o tv) k hv l T Q v (kE (c::j)) (kz (c::j)) (kE (c::j)) b g (vB b+tw aG b (vB b)) (vB b) (vB b+tw aG b (vB b)) (b.drop (vB b+tw aG b (vB b))) ((b.drop (vB b)).take (tw aG b (vB b))) ((b.drop (vB b)).take (tw aG b (vB b))) t B).Pu u (MJ u) IP (ag ?_) a).frame [dk st] (λ_ _=>rfl)) rfl
  (λF' A tk h hg=>O (u.trans h) (a:=bt a A mE) (mv:=A 1+1) (tv:=tk 0) U (e.drop _) J (.cons ⟨A 0,_,_,rfl,hg _ List.mem_cons_self F' (Le.refl _)⟩ (H.le h)) (x.le h) (y.le h))
 exact ⟨rfl,Nat.le_trans (Nat.le_of_eq H.len) (Nat.le_trans N (by decide)),au (Nat.le_trans Y (by decide)),uh ((e.drop _).take _) uj,rfl,⟨d,by rw [Nat.add_sub_cancel_left]⟩,lT (Nat.le_trans J (by decide)) rfl,by rw [bu];rfl,au (Nat.le_trans d (by decide)),trivial,trivial,iB z,au (Nat.le_trans d (by decide)),trivial,trivial,iC,rfl,rfl,⟨d,Nat.le_add_right _ _,(vL e d).2 I⟩,rfl,⟨d,BW e d V⟩,rfl,xE E G s⟩
theorem D7 (J:du (c::j) g b) (h2:xD b m r) (h3:C.length<=900) (ih:oM w B hv orig q ⟨r,jN sh,g,some m,k,(g,some m)::C,D⟩ f):oM w B hv orig q ⟨c::j,sh,n,o,k,C,D⟩ f:=by
 intro F h a t mv tv L l s N st G hA hb O x y;have u:b.length<=900:=Nat.le_trans (lU J).1 hb;have H:=oL hA J;obtain ⟨e,g1,g2,g3,rfl⟩:=h2;have z:=g2.lt;have Q:vB b+1<=e:=Nat.le_trans (Nat.le_add_right _ _) z.1;have vA:bw ((b.drop (vB b+1)).take (e-(vB b+1))):=(H.drop _).take _;have T:(b.drop (e+1)).length<=900:=Nat.le_trans (List.drop_sublist _ _).length_le u;have lv:((b.drop (vB b+1)).take (e-(vB b+1))).length<=900:=Nat.le_trans ((List.take_sublist _ _).trans (List.drop_sublist _ _)).length_le u;have A:ip (DY w c j orig sh (mV mv) n (cA o tv) k hv l N L s (kE (c::j)) (kz (c::j)) (kE (c::j)) b g (e+1) (vB b+1) e (b.drop (e+1)) ((b.drop (vB b+1)).take (e-(vB b+1))) m t B).facts:=⟨rfl,Nat.le_trans (Nat.le_of_eq O.len) (Nat.le_trans h3 (by decide)),rfl,⟨vA,lv,g3⟩,rfl,⟨u,rfl⟩,lT (Nat.le_trans T (by decide)) rfl,by rw [bu];rfl,au (Nat.le_trans u (by decide)),trivial,trivial,iB z.2,au (Nat.le_trans u (by decide)),trivial,trivial,iC,rfl,rfl,⟨u,Q,(rH H u).2.2 e g1 g2⟩,rfl,xE hA hb J⟩
 cases st with
 |zero=>
  exact D5 id mE [1,2,3,4] [1,2,0,4] [] [.inr 0] ((DY w c j orig sh (mV mv) n (cA o tv) k hv l N L s (kE (c::j)) (kz (c::j)) (kE (c::j)) b g (e+1) (vB b+1) e (b.drop (e+1)) ((b.drop (vB b+1)).take (e-(vB b+1))) m t B).PD 3 78 h (I0 h λv d=>se (h.trans d)) bL IE (ag A) (λp=>rfl) rfl rfl a (by show 3<4;decide) G) rfl
   (λv i U d I=>ih (h.trans d) (a:=bt a i mE) (mv:=i 1+1) (tv:=U 0) G (H.drop _) T (.cons ⟨i 0,_,_,rfl,I _ List.mem_cons_self v (Le.refl _)⟩ (O.le d)) (x.le d) (st:=i 2+1) (λc hc=>by cases hc;exact ⟨_,_,I _ (List.mem_cons_of_mem _ List.mem_cons_self) v (Le.refl _)⟩))
 |succ V=>
  obtain ⟨Y,Pm,E⟩:=y V rfl;exact D5 id mE [1,2,3,4] [1,2,0,4] [] [.inr 0] ((IF w c j orig sh (mV mv) n (cA o tv) k hv l N L s (kE (c::j)) (kz (c::j)) (kE (c::j)) b g (e+1) (vB b+1) e (b.drop (e+1)) ((b.drop (vB b+1)).take (e-(vB b+1))) m V Y Pm t B).PD 3 78 h (I0 h λv d=>sd (h.trans d) (d _ _ E)) (bc E) IG (ag A) (λp=>rfl) rfl rfl a (by show 3<4;decide) G) rfl
   (λv i U d I=>ih (h.trans d) (a:=bt a i mE) (mv:=i 1+1) (tv:=U 0) G (H.drop _) T (.cons ⟨i 0,_,_,rfl,I _ List.mem_cons_self v (Le.refl _)⟩ (O.le d)) (x.le d) (st:=V+1) (y.le d))
theorem qK (a:bw (c::j)) (e:(c::j).length<=900) (h:ew (c::j) b):Txt.lstrip (mk (c::j))=mk (44::b)/\(44::b).length<=900/\bw b/\b.length<=900:=by
 have l:(44::b).length<=900:=by rw [<-h.2];exact Nat.le_trans (List.drop_sublist _ _).length_le e
 exact ⟨by rw [nf a,<-h.2];rfl,l,λd s=>a d (List.mem_of_mem_drop (i:=kz (c::j)) (by rw [h.2];exact .tail _ s)),Nat.le_trans (Nat.le_succ _) l⟩
theorem xI (E:ew (c::j) b) (J:(p::C).length<=900) (L:D.length<=900) (N:oM w B hv orig q ⟨b,qB sh,n,o,k,[],(p::C)::D⟩ f):oM w B hv orig true ⟨c::j,sh,n,o,k,p::C,D⟩ f:=by
 intro F v a t mv O Q l x T st U G d H e y;obtain ⟨I,z,A,V⟩:=qK G d E;have h:=H.len;obtain ⟨i,s,rfl⟩:∃i s,l=i::s:=by cases l with|nil=>injection h|cons i s=>exact ⟨i,s,rfl⟩
 refine D5 (λr=>true) z4 [1,2,0,4] [1,2,0,4] [.inl 2] [.inr 0] (((IQ w c j orig sh (mV mv) n (cA o O) k hv s T Q x (44::b) b i t B).Pu v (MK v) IR (ag ?_) a).frame [dk st] (λr r=>rfl)) rfl
  (λY ad tk u hg=>N (v.trans u) (a:=bt a ad z4) (mv:=0) U A V .nil (.cons ⟨a 2,_,_,rfl,hg _ List.mem_cons_self Y (Le.refl _),H.le u⟩ (e.le u)) (y.le u))
 exact ⟨rfl,Nat.le_trans (Nat.le_of_eq e.len) (Nat.le_trans L (by decide)),rfl,Nat.le_of_succ_le (Nat.le_trans (Nat.le_of_eq h) (Nat.le_trans J (by decide))),au (Nat.le_trans z (by decide)),trivial,trivial,ix 44 b,au (Nat.le_trans d (by decide)),I,lW 44 b,au (Nat.le_trans d (by decide)),I,rfl,⟨d,sf G d E.1⟩,au (Nat.le_trans d (by decide)),trivial⟩
theorem uk (y:ew (c::j) b) (E:oM w B hv orig q ⟨b,qB sh,n,o,k,[],D⟩ f):oM w B hv orig true ⟨c::j,sh,n,o,k,[],D⟩ f:=by
 intro F e a t mv G H l h I st J z d L i s;obtain ⟨A,u,v,N⟩:=qK z d y;obtain rfl:l=[]:=by cases L;rfl
 refine D5 (λY=>true) z4 [1,2,0,4] [1,2,0,4] [.inl 2] [.inr 0] (((IS w c j orig sh (mV mv) n (cA o G) k hv I H h (44::b) b t B).Pu e (ML e) IT (ag ?_) a).frame [dk st] (λY Y=>rfl)) rfl
  (λQ O T x U=>E (e.trans x) (a:=bt a O z4) (mv:=0) J v N .nil (i.le x) (s.le x))
 exact ⟨Nat.zero_le _,au (Nat.le_trans u (by decide)),trivial,trivial,ix 44 b,au (Nat.le_trans d (by decide)),A,lW 44 b,au (Nat.le_trans d (by decide)),A,rfl,⟨d,sf z d y.1⟩,au (Nat.le_trans d (by decide)),trivial⟩
theorem z9 (y:oK (c::j) b) (z:oM w B hv orig q ⟨b,zZ sh,n,o,b,C,D⟩ f):oM w B hv orig q ⟨c::j,sh,n,o,k,C,D⟩ f:=by
 intro F i a t mv tv A l s E st G e d H u v;obtain ⟨I,J,L,x⟩:=y;refine D5 id mE [1,2,3,4] [1,2,0,4] [] [.inr 0] (((IX w c j orig sh (mV mv) n (cA o tv) k hv l E A s ((c::j).drop (kz (c::j))) b (tw pJ (c::j) 0) t B).Pu i (MM i) IY (ag ?_) a).frame [dk st] (λY Y=>rfl)) rfl
  (λO N Q h T=>z (i.trans h) (a:=bt a N mE) (mv:=0) (tv:=tv) G (by rw [<-x];exact e.drop _) (by rw [<-x];exact Nat.le_trans (List.drop_sublist _ _).length_le d) (H.le h) (u.le h) (v.le h))
 exact ⟨rfl,⟨e,d,rfl,L,x⟩,ui J,au (Nat.le_trans d (by decide)),nf e,rfl,⟨d,sf e d I⟩,au (Nat.le_trans d (by decide)),trivial⟩
end
theorem gN {G:List Nat->Prop} (h:∀c a,G (c::a)):∀{x:P1},x≠[]->G x
 |[],b=>absurd rfl b
 |c::a,_=>h c a
theorem D8 {b:Bool} {s f:SS} (h:SP b s f):oM w B hv orig b s f:=by
 induction h with
 |stop s l=>exact λm Y Y Y Y Y Y Y Y Y Y Y Y n j k=>z5 m l n j k
 |name name c b f d a i g _ e=>exact gN (G:=λx=>du x name c->oM w B hv orig b ⟨x,_,_,_,_,_,_⟩ f) (λY Y a=>z8 a i g e) d a
 |val name c val o b f d a i g _ e=>exact gN (G:=λx=>du x name c->oM w B hv orig b ⟨x,_,_,_,_,_,_⟩ f) (λY Y a=>D6 a i g e) d a
 |PR name c val o b f d a i g _ e=>exact gN (G:=λx=>du x name c->oM w B hv orig b ⟨x,_,_,_,_,_,_⟩ f) (λY Y a=>D7 a i g e) d a
 |comma c b f d a g p _ e=>exact gN (G:=λx=>ew x c->oM w B hv orig true ⟨x,_,_,_,_,_,_⟩ f) (λY Y a=>xI a g p e) d a
 |PM c b f d a _ e=>exact gN (G:=λx=>ew x c->oM w B hv orig true ⟨x,_,_,_,_,_,_⟩ f) (λY Y a=>uk a e) d a
 |PN c b f d a _ e=>exact gN (G:=λx=>oK x c->oM w B hv orig b ⟨x,_,_,_,_,_,_⟩ f) (λY Y a=>z9 a e) d a
end
end
section
def D9 (o:Obj) (i:Nat):Addr:=match o.data with
 | .dict a _=>match a.toList.drop i with
  |e::_=>ID e.val
  |[]=>0
 |_=>0
noncomputable def I3 (a b c d:Addr) (i:Nat):Addr:=match i with
 |0=>a
 |1=>b
 |2=>c
 |_=>d
noncomputable def Ea (a:P1):SS:=⟨a,.s0,[],none,[],[],[]⟩
def cw (o:Obj) (c:List af):aA->Prop:=λF=>∃a n,o=aa a n/\aM F a c
section
variable {w:World} {F:aA} {d:P1} {l:Nat} {j:Bool} {f:SS} {C:List af} {D:List (List af)} {p:af}
def jQ (w:World) (d:P1) (l:Nat) (j:Bool) (f:SS):aY:=λY a Y=>
 {need:=100,Po:=1000,code:=eL (fA a 0),
  fs:=[(fA a 0,d2 w.2 (aE (fO a 0)) (D9 (fO a 0) 0) (fA a 1) (fA a 2) d d .s0 .none [] .none []),(fA a 1,aa [] 0),(fA a 2,aa [] 0),(78,dk l)],
  Pq:=[SP j (Ea d) f/\bw d/\d.length<=900],wants:=[],hand:=some none,
  upd:=λc b=>BZ w j (D9 (fO a 0) 0) d f (I3 (fA a 0) (fA a 1) (fA a 2) 78) c b,nn:=(E0 j).length,new:=λY b=>sg j b,Pm:=27,res:=λY Y=>.end_ (.ok .next),
  gives:=λY b=>[d8 (aa (ar (b 22)) (b 23)) f.D,cw (aa (ar (b 24)) (b 25)) f.C,dD (b 26)]}
theorem um (h:Le (top w.2) F) (c:dD l F) (y:Code) (b:Qa) (kn:Qb):(jQ w d l j f y b kn).Ok w F:=by
 intro i r C H s k;obtain ⟨m,n,o⟩:SP j (Ea d) f/\bw d/\d.length<=900:=i _ (.head _);have q:H=none:=k none rfl;subst q;exact ah.Pu ((D8 m (B:=C) (hv:=D9 (fO b 0) 0) (orig:=d) h (a:=I3 (fA b 0) (fA b 1) (fA b 2) 78) (t:=aE (fO b 0)) (mv:=0) (tv:=0) (nll:=0) (nl:=0) (st:=l) rfl n o .nil .nil c).Pw λu v x Y e g hgm=>by
  rcases List.mem_cons.mp hgm with rfl|hgm
  ·exact ⟨_,_,rfl,e _ List.mem_cons_self⟩
  rcases List.mem_cons.mp hgm with rfl|hgm
  ·exact ⟨_,_,rfl,e _ (List.mem_cons_of_mem _ List.mem_cons_self)⟩
  cases List.mem_singleton.mp hgm;exact e _ (List.mem_cons_of_mem _ (List.mem_cons_of_mem _ List.mem_cons_self)))
noncomputable def I4 (C:List af):Int:=match C with
 |[]=>0
 |_::r=>((r.length+1:Nat):Int)
def gO (C:List af):aY:=λY a Y=>
 {need:=0,Po:=0,code:=.builtin "len" ⟨[.ref (fA a 0)],[]⟩,fs:=[(fA a 0,fO a 0)],Pq:=[C.length<=900],wants:=[cw (fO a 0) C],
  upd:=λY Y=>[fO a 0],nn:=0,new:=λY Y=>[],Pm:=1,res:=λY b=>.end_ (.ok (.ret (.int (I4 C) (b 0)))),gives:=λY Y=>[]}
theorem Aa (C:List af):I4 C=((C.length:Nat):Int):=by cases C<;>rfl
theorem sk (c:Code) (i:Qa) (kn:Qb):(gO C c i kn).Ok w F:=by
 intro u v J L _ _ A s R _ _ _ x a y z;have N:C.length<=900:=u _ (.head _);obtain ⟨B,n,e,E⟩:=v _ (List.mem_singleton.mpr rfl) F (Le.refl F);have g:=a (fA i 0,fO i 0) (.head _);have m:=g.1;simp only [e] at m;have G:=c3 m;have b:=E.len;have o:B.reverse.toArray.size=C.length:=by simp [b]
 refine aK.o (cc (codeAny_builtin entry_len ?_));rw [Around.under_plainId plain_len _];refine wpAny_mono (wpAny_len_body_list (Q:=λr t=>R (.ok (.ret r)) t) G (by rw [o];lia) ?_) (λH t I=>by obtain ⟨r,rfl,k⟩:=I;exact k) λY Y e=>e
 rw [o,<-Aa];exact z {s with toks:=s.toks+1+1} (λY=>0) (λY=>s.toks+1) F (bz x _) (λY h=>absurd h (Nat.not_lt_zero _)) (λY h=>by cases h) (a5 s _ _ (λq k=>(a q k).1) _)
def cE (D:List (List af)) (C:List af):aY:=λY a Y=>
 {need:=0,Po:=0,code:=.call (.builtin "list.append") ⟨[.ref (fA a 0),.ref (fA a 1)],[]⟩,fs:=[(fA a 0,fO a 0),(fA a 1,fO a 1)],Pq:=[D.length<=900],wants:=[d8 (fO a 0) D,cw (fO a 1) C],
  upd:=λY b=>[aa (ar (b 0)) (b 1),av],nn:=0,new:=λY Y=>[],Pm:=2,res:=λY Y=>.end_ (.ok (.ret .none)),gives:=λY b=>[d8 (aa (ar (b 0)) (b 1)) (C::D)]}
theorem sm (c:Code) (a:Qa) (kn:Qb):(cE D C c a kn).Ok w F:=by
 intro U L Cs Hd _ _ A s R _ _ _ V u v Y;have hl:D.length<=900:=U _ (by simp [cE])
 obtain ⟨N,n,e,B⟩:=L (d8 (fO a 0) D) (by simp [cE]) F (Le.refl F)
 obtain ⟨ys,m,O,hy⟩:=L (cw (fO a 1) C) (by simp [cE]) F (Le.refl F)
 have Q:=B.len;have g:=u (fA a 0,fO a 0) (by simp [cE])
 have T:=u (fA a 1,fO a 1) (by simp [cE])
 have Pm:fA a 1≠fA a 0:=λq=>by simp [cE,q] at v
 have E:=g.1;rw [e] at E;refine aK.o (aq (jF E (by lia) ?_))
 have p:=dd (f:=Obj.mapSeq (·.push (.ref (fA a 1)))) E (by rw [c0];rfl) [(fA a 1,fO a 1)] (λl h=>by cases List.mem_singleton.mp h;exact T.1) v s.toks (λl=>0)
 rw [c0] at p;obtain ⟨k,x⟩:∃k,ar k= .ref (fA a 1)::N:=by
  obtain ⟨k,x⟩:=i6 B;obtain ⟨k2,H⟩:=eX (fA a 1) _ ⟨k,rfl⟩;exact ⟨k2,by unfold ar at x⊢;rw [H,List.map_cons,x]⟩
 have G:=dc (S:=λl=>False) (f:=Obj.mapSeq (·.push (.ref (fA a 1)))) V g.2 s.toks;have gy:(s.1.update (fA a 0) (Obj.mapSeq (·.push (.ref (fA a 1))))).get? (fA a 1)=some (fO a 1):=p.upd 1 (fA a 1,fO a 1) (fO a 1) rfl rfl (by rw [O];rfl)
 have I:Le F (λb=>if b=fA a 1 then some (fO a 1) else F b):=λb o' q=>by
  dsimp only;by_cases r:b=fA a 1
  ·rw [r,T.2] at q;cases q
  ·rw [if_neg r];exact q
 refine Y {s with heap:=s.1.update (fA a 0) (Obj.mapSeq (·.push (.ref (fA a 1))))} (λl=>0) (m9 k (n+1)) (λb=>if b=fA a 1 then some (fO a 1) else F b) ⟨I,λb o q=>?_,λb o q=>?_⟩ (λl h=>absurd h (Nat.not_lt_zero _)) (λg hg J t=>?_) ⟨λb o q r=>p.keep b o q r,λi q o z y h3=>?_,λl l h=>by simp [cE] at h,λl h=>absurd h (Nat.not_lt_zero _),λl h=>absurd h (Nat.not_lt_zero _),λl l h=>absurd h (Nat.not_lt_zero _),p.size,p.life,p.gens,p.drawn,p.os⟩
 ·by_cases r:b=fA a 1
  ·rw [if_pos r] at q;cases q;rw [r];exact gy
  ·rw [if_neg r] at q;exact G.base b o q
 ·by_cases r:b=fA a 1
  ·exact .inr (.inr ⟨1,(fA a 1,fO a 1),av,rfl,rfl,rfl,r⟩)
  ·rw [if_neg r] at q;exact .inl q
 ·cases List.mem_singleton.mp hg
  refine ⟨_,_,rfl,?_⟩;show cq J (ar k) (C::D);rw [x];exact .cons ⟨fA a 1,ys,m,rfl,t _ _ ((if_pos rfl).trans (congrArg some O)),hy.le (I.trans t)⟩ (B.le (I.trans t))
 ·match i,z,y with
  |0,z,y=>
   cases z;cases y;show _=some (aa (ar k) (n+1));rw [x];exact p.upd 0 (fA a 0,aa N n) _ rfl rfl rfl
  |1,z,y=>cases y;injection h3
end
end
def I5 (w:World) (b:P1) (e:Nat) (sh:Sh) (nm:P1) (vv:P9) (nj:P1) (D:List (List af)) (f:Tok) (B:P8):a7:={
 B:=λa=>B,Hd:=none,O:=oT [] (aC [([],jQ w b e false ⟨[],sh,nm,vv,nj,([]:List af),D⟩),([1],gO (([]:List af))),([0,1],cE D (([]:List af)))]),k:=2,nn:=1,Pm:=3,H:=aQ 0x3c1aa01aa8ed3e49803e303020464a0c697a08e0501aa8ed384880103a084928488b1870382a094,N:=144,
 cF:=λa=>.call (.ref 83) ⟨[.ref (a 0)],[]⟩,oF:=λa=>[aa [.str (mk b) f] 0,dk e],
 uF:=λa n c=>[aa [.str (mk b) f] 0,dk (c 0)],nF:=λa n c=>[aa (ar (c 1)) (c 2)],rF:=λa n c=>.end_ (.ok (.ret (.ref (n 0)))),idx:=[3],Pn:=[32,28,29],gF:=λa n c=>[d8 (aa (ar (c 1)) (c 2)) (D),dD (c 0)],Pz:=[0,2],d:=150,u:=1500,
 facts:=[true=true,(([]:List af)).length<=900,true=true,SP false (Ea b) ⟨[],sh,nm,vv,nj,(([]:List af)),D⟩/\bw b/\b.length<=900]}
theorem I6 {b:Nat} {sh:Sh}:(I5 w a b sh d e f D g B).PB 1 78 w:=by intro c h i;cases sh<;>kernel_rfl
def I7 (w:World) (b:P1) (e:Nat) (sh:Sh) (nm:P1) (vv:P9) (nj:P1) (D:List (List af)) (f:Tok) (p:af) (C:List af) (B:P8):a7:={
 B:=λa=>B,Hd:=none,O:=oT [] (aC [([],jQ w b e false ⟨[],sh,nm,vv,nj,p::C,D⟩),([1],gO (p::C)),([0,1],cE D (p::C))]),k:=2,nn:=1,Pm:=3,H:=aQ 0x3c1aa01aa8ed303026603bf9f05e49803e303020464a0c697a08e0501aa8ed384880103a084928488b1870382a094,N:=158,
 cF:=λa=>.call (.ref 83) ⟨[.ref (a 0)],[]⟩,oF:=λa=>[aa [.str (mk b) f] 0,dk e],
 uF:=λa n c=>[aa [.str (mk b) f] 0,dk (c 0)],nF:=λa n c=>[aa (ar (c 1)) (c 2)],rF:=λa n c=>.end_ (.ok (.ret (.ref (n 0)))),idx:=[3],Pn:=[32,34,35],gF:=λa n c=>[d8 (aa (ar (c 1)) (c 2)) ((p::C)::D),dD (c 0)],Pz:=[0,3],d:=150,u:=1500,
 facts:=[true=true,D.length<=900,true=true,(p::C).length<=900,true=true,SP false (Ea b) ⟨[],sh,nm,vv,nj,(p::C),D⟩/\bw b/\b.length<=900]}
theorem I8 {b:Nat} {sh:Sh}:(I7 w a b sh d e f D g p C B).PB 1 78 w:=by intro c h i;cases sh<;>kernel_rfl
def I9 (w:World) (b:P1) (e:Nat) (sh:Sh) (nm:P1) (vv:P9) (nj:P1) (D:List (List af)) (f:Tok) (B:P8):a7:={
 B:=λa=>B,Hd:=none,O:=oT [] (aC [([],jQ w b e true ⟨[],sh,nm,vv,nj,([]:List af),D⟩),([1],gO (([]:List af))),([0,1],cE D (([]:List af)))]),k:=2,nn:=1,Pm:=3,H:=aQ 0x3b4aa01aad3a7e49303e303020464a0c697a08e0501aa8ed384880103a084928488b1870382a094,N:=144,
 cF:=λa=>.call (.ref 83) ⟨[.ref (a 0)],[]⟩,oF:=λa=>[aa [.str (mk b) f] 0,dk e],
 uF:=λa n c=>[aa [.str (mk b) f] 0,dk (c 0)],nF:=λa n c=>[aa (ar (c 1)) (c 2)],rF:=λa n c=>.end_ (.ok (.ret (.ref (n 0)))),idx:=[3],Pn:=[32,28,29],gF:=λa n c=>[d8 (aa (ar (c 1)) (c 2)) (D),dD (c 0)],Pz:=[0,2],d:=150,u:=1500,
 facts:=[true=true,(([]:List af)).length<=900,true=true,SP true (Ea b) ⟨[],sh,nm,vv,nj,(([]:List af)),D⟩/\bw b/\b.length<=900]}
theorem Ja {b:Nat} {sh:Sh}:(I9 w a b sh d e f D g B).PB 1 78 w:=by intro c h i;cases sh<;>kernel_rfl
def Jb (w:World) (b:P1) (e:Nat) (sh:Sh) (nm:P1) (vv:P9) (nj:P1) (D:List (List af)) (f:Tok) (p:af) (C:List af) (B:P8):a7:={
 B:=λa=>B,Hd:=none,O:=oT [] (aC [([],jQ w b e true ⟨[],sh,nm,vv,nj,p::C,D⟩),([1],gO (p::C)),([0,1],cE D (p::C))]),k:=2,nn:=1,Pm:=3,H:=aQ 0x3b4aa01aad3a703026603bf9f06e49303e303020464a0c697a08e0501aa8ed384880103a084928488b1870382a094,N:=158,
 cF:=λa=>.call (.ref 83) ⟨[.ref (a 0)],[]⟩,oF:=λa=>[aa [.str (mk b) f] 0,dk e],
 uF:=λa n c=>[aa [.str (mk b) f] 0,dk (c 0)],nF:=λa n c=>[aa (ar (c 1)) (c 2)],rF:=λa n c=>.end_ (.ok (.ret (.ref (n 0)))),idx:=[3],Pn:=[32,34,35],gF:=λa n c=>[d8 (aa (ar (c 1)) (c 2)) ((p::C)::D),dD (c 0)],Pz:=[0,3],d:=150,u:=1500,
 facts:=[true=true,D.length<=900,true=true,(p::C).length<=900,true=true,SP true (Ea b) ⟨[],sh,nm,vv,nj,(p::C),D⟩/\bw b/\b.length<=900]}
theorem Jc {b:Nat} {sh:Sh}:(Jb w a b sh d e f D g p C B).PB 1 78 w:=by intro c h i;cases sh<;>kernel_rfl
section
def ey (a:P1) (L:List (List af)):Prop:=∃b f,SP b (Ea a) f/\f.C.length<=900/\f.D.length<=900/\L=(match f.C with|[]=>f.D|_::_=>f.C::f.D)
section
variable {w:World} {F:aA} {b:P1} {d:Nat} {B:P8} {L:List (List af)} {x0:Tok}
theorem Eb {a:Bool} {s f:SS} (h:SP a s f):f.x=[]:=by induction h<;>assumption
theorem Ky (k:Le (top w.2) F) (e:dD d F) {l:Bool} {f:SS} {C:List af} {D:List (List af)}:∀id c g kn h H a,oT [] (aC [([],jQ w b d l f),([1],gO C),([0,1],cE D C)]) id c g kn h H=some a->∀i,Le F i->a.Ok aX w i c g kn h H:=
 bh (aI ⟨λY j=>um (k.trans j) (e.le j),λY Y=>sk,λY Y=>sm,trivial⟩)
theorem uo (e:Le (top w.2) F) (c:dD d F) (j:bw b) (k:b.length<=900) (h:ey b L) {a:P4} (l:a 1=78):
  ah aX w F 150 1500 B none (.call (.ref 83) ⟨[.ref (ae 2 a 0)],[]⟩) (ab a [aa [.str (mk b) x0] 0,dk d]) (λY g=>[aa [.str (mk b) x0] 0,dk (g 0)]) 1 3
   (λY g=>[aa (ar (g 1)) (g 2)]) (λn Y=>.end_ (.ok (.ret (.ref (n 0))))) (λY g=>[d8 (aa (ar (g 1)) (g 2)) L,dD (g 0)]):=by
 obtain ⟨t,f,i,r,s,rfl⟩:=h;have u:=Eb i;obtain ⟨x,sh,m,o,q,C,D⟩:=f;dsimp only at u r s;subst u;cases C with
 |nil=>
  cases t with
  |false=>exact (I5 w b d sh m o q D x0 B).PD 1 78 e (Ky e c) bL I6 (ag ⟨rfl,Nat.zero_le _,rfl,⟨i,j,k⟩,trivial⟩) (λY=>rfl) rfl rfl a (by show 1<2;decide) l
  |true=>exact (I9 w b d sh m o q D x0 B).PD 1 78 e (Ky e c) bL Ja (ag ⟨rfl,Nat.zero_le _,rfl,⟨i,j,k⟩,trivial⟩) (λY=>rfl) rfl rfl a (by show 1<2;decide) l
 |cons p C=>
  cases t with
  |false=>exact (I7 w b d sh m o q D x0 p C B).PD 1 78 e (Ky e c) bL I8 (ag ⟨rfl,s,rfl,r,rfl,⟨i,j,k⟩,trivial⟩) (λY=>rfl) rfl rfl a (by show 1<2;decide) l
  |true=>exact (Jb w b d sh m o q D x0 p C B).PD 1 78 e (Ky e c) bL Jc (ag ⟨rfl,s,rfl,r,rfl,⟨i,j,k⟩,trivial⟩) (λY=>rfl) rfl rfl a (by show 1<2;decide) l
noncomputable def B1 (a:Addr) (i:Nat):Addr:=match i with
 |0=>a
 |_=>78
def gh (b:P1) (d:Nat) (L:List (List af)):aY:=λY c Y=>
 {need:=150,Po:=1500,code:=.call (.ref 83) ⟨[.ref (fA c 0)],[]⟩,fs:=[(fA c 0,aa [.str (mk b) (aE (fO c 0) 0)] 0),(78,dk d)],Pq:=[ey b L/\bw b/\b.length<=900],wants:=[],hand:=some none,
  upd:=λY a=>[aa [.str (mk b) (aE (fO c 0) 0)] 0,dk (a 0)],nn:=1,new:=λY a=>[aa (ar (a 1)) (a 2)],Pm:=3,res:=λn Y=>.end_ (.ok (.ret (.ref (n 0)))),gives:=λY a=>[d8 (aa (ar (a 1)) (a 2)) L,dD (a 0)]}
theorem qL (f:Le (top w.2) F) (c:dD d F) (y:Code) (e:Qa) (kn:Qb):(gh b d L y e kn).Ok w F:=by
 intro g m C H n h;obtain ⟨i,j,k⟩:ey b L/\bw b/\b.length<=900:=g _ (.head _);have l:H=none:=h none rfl;subst l;exact ah.Pu (uo (B:=C) (x0:=aE (fO e 0) 0) (a:=B1 (fA e 0)) f c j k i rfl)
end
end
section
open PySem.SeqAt
def vD (v:P9):PyData:=match v with
 |none=>.none
 |some s=>.str (mk s)
def pD (p:af):PyData:=.tuple [.str (mk p.1),vD p.2]
noncomputable def uV (l:P1):Prop:=∀c∈l,c<1114112
def aB (p:af):Prop:=uV p.1/\∀v,p.2=some v->uV v
theorem bw.ok {l:P1} (h:bw l):uV l:=λc a=>by
 rcases h c a with h|h|h|h|h|h|h|h|h<;>lia
theorem qM {l:P1} (h:uV l):PyData.strOk (mk l)=true:=by
 unfold PyData.strOk;rw [Array.all_eq_true_iff_forall_mem];intro c a;have:c∈l:=by simpa [mk] using a
 exact decide_eq_true (h c this)
theorem lX {p:af} (h:aB p):(pD p).canLay0=true:=by
 obtain ⟨a,v⟩:=p;have b:=qM h.1;cases v with
 |none=>simp [pD,vD,PyData.canLay0,PyData.canLayAll0,b]
 |some s=>
  have c:=qM (h.2 s rfl);simp [pD,vD,PyData.canLay0,PyData.canLayAll0,b,c]
theorem lY (p:af):(pD p).depth<=3:=by
 obtain ⟨a,v⟩:=p;cases v<;>(dsimp only [pD,vD,PyData.depth,PyData.depthAll];lia)
theorem qN (p q:af):PyData.eqv (pD p) (pD q)=decide (p=q):=by
 obtain ⟨a,v⟩:=p;obtain ⟨b,u⟩:=q;have e:∀a b:P1,(mk a==mk b)=decide (a=b):=λa b=>by
  by_cases h:a=b
  ·subst h;simp
  ·have:mk a≠mk b:=λe=>h (rE e)
   simp [h,this]
 cases v<;>cases u<;>simp [pD,vD,PyData.eqv,PyData.eqvAll,e]
theorem iD {F:aA} {h:Heap} (b:cK F h) {v:Value} {p:af} (x:br F v p):Reads h v (pD p) []:=by
 obtain ⟨a,t,c,rfl,e⟩:=x;obtain ⟨n,u⟩:=p;refine Reads.tuple (b _ _ e) rfl rfl ?_;cases u with
 |none=>exact ReadsAll.cons (.str _ _) (ReadsAll.cons .none .nil)
 |some s=>exact ReadsAll.cons (.str _ _) (ReadsAll.cons (.str _ _) .nil)
theorem qO {F:aA} {h:Heap} (c:cK F h) {b:P5} {C:List af} (x:aM F b C):ReadsAll h b (C.map pD) []:=by
 induction x with
 |nil=>exact .nil
 |cons a _ d=>exact ReadsAll.cons (iD c a) d
theorem nh {F:aA} {A:Around} {s:Shared} (a:cK F s.1) {v u:Value} {p q:af} (x:br F v p) (y:br F u q) (b:aB p) (c:aB q) (d:A.units+64<cLine):EqAt A s v u (decide (p=q)):=by
 rw [<-qN];have:=lY p;exact eqAt_reads _ _ A s _ _ _ _ (iD a x) (iD a y) (lX b) (lX c) (by lia)
theorem aM.at {F:aA} {xs:P5} {C:List af} (x:aM F xs C):∀{i:Nat} {v:Value},xs[i]? =some v->∃p,C[i]? =some p/\br F v p:=by
 induction x with
 |nil=>intro i v h;simp at h
 | @cons a b l m c _ d=>
  intro i v h;cases i with
  |zero=>simp at h;subst h;exact ⟨b,rfl,c⟩
  |succ i=>exact d (by simpa using h)
theorem br.uniq {F:aA} {v:Value} {p q:af} (x:br F v p) (y:br F v q):p=q:=by
 obtain ⟨a,t,l,rfl,e⟩:=x;obtain ⟨b,u,r,h,f⟩:=y;cases h;simp only [e] at f;obtain ⟨n,v⟩:=p;obtain ⟨m,i⟩:=q;have g:=Option.some.inj f;have c:=congrArg (λo:Obj=>match o.data with| .seq j _=>j.toList|_=>[]) g
 simp only [az] at c;simp at c;obtain ⟨⟨k,_⟩,d⟩:=c;have:=rE k;subst this;cases v<;>cases i<;>simp [cA] at d
 ·rfl
 ·rw [rE d.1]
end
section
open PySem.SeqAt
theorem xJ (a:P5):slicePick a.toArray none none (some (-1))=a.reverse.toArray:=by
 have b:sliceRange ((a.length:Int)-1) (-1) (-1)=(List.range a.length).reverse:=by
  unfold sliceRange;rw [if_neg (by decide)]
  by_cases h:a.length=0
  ·rw [h];rfl
  ·rw [if_pos (by lia)]
   have:(((a.length:Int)-1- -1- -1-1)/(- -1)).toNat=a.length:=by
    have:((a.length:Int)-1- -1- -1-1)/(- -1)=(a.length:Int):=by
     rw [show (- -1:Int)=1 by decide,Int.ediv_one];lia
    rw [this];simp
   show List.map (λk:Nat=>((a.length:Int)-1+ -1*(k:Int)).toNat) (List.range (((a.length:Int)-1- -1- -1-1)/(- -1)).toNat)=_;rw [this];apply List.ext_getElem
   ·simp
   ·intro i c e
    simp at c⊢;lia
 have d:(List.range a.length).filterMap (a.toArray[·]?)=a:=by
  have:=pick_run a.toArray 0 a.length;simpa using this
 unfold slicePick;show ((sliceRange ((a.toArray.size:Int)-1) (-1) (-1)).filterMap (a.toArray[·]?)).toArray=_;rw [show (a.toArray.size:Int)=(a.length:Int) by kernel_rfl,b,List.filterMap_reverse,d]
section
variable {w:World} {F:aA} {d:P5} {v:Value} {n:Nat} {C:List af} {p:af}
theorem uq (e:aM F d C) (g:br F v p):d.countP (λy=>@decide (br F y p) (Classical.propDecidable _))=C.count p:=by
 induction e with
 |nil=>rfl
 | @cons a b l m c _ f=>
  rw [List.countP_cons,List.count_cons,f];by_cases h:b=p
  ·subst h;simp [c]
  ·have:¬br F a p:=λq=>h (c.uniq q)
   simp [this,h]
def cQ (d:P5) (v:Value) (n:Nat):aY:=λc a Y=>
 {need:=10,Po:=100,code:=.call (.builtin "list.count") ⟨[.ref (fA a 0),v],[]⟩,fs:=[(fA a 0,aa d (Pr (fO a 0)))],Pq:=[],wants:=[],
  upd:=λY Y=>[aa d (Pr (fO a 0))],nn:=0,new:=λY Y=>[],Pm:=1,res:=λY b=>.end_ (.ok (.ret (.int ((n:Nat):Int) (b 0)))),gives:=λY Y=>[]}
theorem gi (l:aM F d C) (m:br F v p) (t:∀q∈C,aB q) (u:aB p) (x:C.count p=n) (c:Code) (b:Qa) (kn:Qb):(cQ d v n c b kn).Ok w F:=by
 intro G _ H I _ _ A s R J L o r f B D;have g:=f (fA b 0,aa d (Pr (fO b 0))) (.head _);have o:A.units+100<cLine:=o;refine aK.o (aq (call_meets PySem.F.slot_list_count ⟨_,g.1,rfl⟩ PySem.F.entry_list_count (PySem.F.args_list_count_2 _ _)
  (list_countAt (fA b 0) d.reverse.toArray (Pr (fO b 0)) none #[] v (λy=>@decide (br F y p) (Classical.propDecidable _))) ⟨g.1,λy j=>?_,?_⟩))
 ·have j:y∈d:=by simpa using j
  obtain ⟨i,E⟩:=List.getElem?_of_mem j;obtain ⟨q,k,a⟩:=l.at E;have e:(@decide (br F y p) (Classical.propDecidable _))=decide (q=p):=by
   by_cases h:q=p
   ·subst h;simp [a]
   ·have:¬br F y p:=λz=>h (a.uniq z)
    simp [this,h]
  simp only [e];exact nh r a m (t q (List.mem_of_getElem? k)) u (by show A.units+1+64<cLine;lia)
 ·have e:d.reverse.toArray.toList.countP (λy=>@decide (br F y p) (Classical.propDecidable _))=n:=by
   rw [<-x,<-uq l m];simp [List.countP_reverse]
  rw [e];exact D {s with toks:=s.toks+1} (λY=>0) (λY=>s.toks) F (bz r _) (λY h=>absurd h (Nat.not_lt_zero _)) (λY h=>by cases h) (a5 s _ _ (λq k=>(f q k).1) _)
noncomputable def xK (a b c:Value):Obj:={cls:=.type "slice",data:=.fields #[a,b,c]}
def lZ (d:P5):aY:=λc a Y=>
 {need:=10,Po:=100,code:=.call (.builtin "list.__getitem__") ⟨[.ref (fA a 0),.ref (fA a 1)],[]⟩,fs:=[(fA a 0,aa d (Pr (fO a 0))),(fA a 1,xK .none .none (.int (-1) (aE (fO a 1) 2)))],Pq:=[d.length<=900],wants:=[],
  upd:=λY Y=>[aa d (Pr (fO a 0)),xK .none .none (.int (-1) (aE (fO a 1) 2))],nn:=1,new:=λY Y=>[aa d.reverse 0],Pm:=0,res:=λn Y=>.end_ (.ok (.ret (.ref (n 0)))),gives:=λY Y=>[]}
theorem ni {A:Around} {E:Value->Shared->Prop} {s:Shared} {l a:Addr} {m:Nat} {t:Tok} {Q:Value->Shared->Prop} (g:s.1.get? l=some (aa d m)) (i:s.1.get? a=some (xK .none .none (.int (-1) t))) (q:d.length<=900)
  (h:Q (.ref s.1.1.size) {s with heap:=s.1.push (aa d.reverse 0)}):wpAny (model aX w) A (call (.builtin "list.__getitem__") [.ref l,.ref a]) Q E s:=by
 have field:∀{k:Nat} {x:Value} {P:Value->Shared->Prop},(#[Value.none,.none,.int (-1) t]:Array Value)[k]? =some x->P x s->wpAny (model aX w) A.in1 (field (.ref a) k) P E s:=λo f=>wpAny_field i rfl o f;have j:s.TypeIs (.ref a) "slice":=⟨_,i,rfl⟩;have b:∀{P:Option Int->Shared->Prop},P none s->wpAny (model aX w) A.in1 (Builtin.List.listSubscript? (.ref a)) P E s:=λf=>by
  unfold Builtin.List.listSubscript?;exact wpAny_bind (wpAny_specialOf j slice_no_index (wpAny_pure f))
 have c:∀{P:Value×Value×Value->Shared->Prop},P (.none,.none,rawInt (-1)) s->wpAny (model aX w) A.in1 (Builtin.List.listSliceParts (.ref a)) P E s:=λf=>by
  rw [listSliceParts_eq];refine wpAny_bind (field (x:=.int (-1) t) rfl (wpAny_bind (wpAny_listPart (.int (-1) t) ?_)));rw [if_neg (by decide)]
  exact wpAny_bind (field (x:=.none) rfl (wpAny_bind (wpAny_listPart .none (wpAny_bind (field (x:=.none) rfl (wpAny_bind (wpAny_listPart .none (wpAny_pure f))))))))
 refine wpAny_call_entry slot_list_getitem (T:="list") ⟨_,g,rfl⟩ entry_list_getitem ?_ (args_list_getitem _ _);show wpAny _ _ (Builtin.List.listSubscript? (.ref a)>>=λY=>_) _ _ s;refine wpAny_bind (b ?_);refine wpAny_bind (wpAny_typeOf j ?_);rw [if_neg (by decide)]
 refine wpAny_bind (c ?_);refine wpAny_bind (m:=Builtin.List.listItems (.ref l)) (wpAny_bind (wpAny_seqItems g rfl (wpAny_pure ?_)));refine wpAny_bind (wpAny_of_eq (sliceIndices_raw none none (some (-1)) d.reverse.toArray.size (by decide)) ?_)
 have e:=xJ d.reverse;refine wpAny_bind (wpAny_newObj_type (wpAny_pure ⟨_,rfl,?_⟩) ?_)
 ·show Q _ {s with heap:=s.1.push {cls:=.type "list",data:=.seq (slicePick d.reverse.toArray none none (some (-1)))} }
  rw [e];exact h
 ·show (slicePick d.reverse.toArray none none (some (-1))).size<=_
  rw [e];simp [sizeLine];lia
theorem nk (c:Code) (f:Qa) (kn:Qb):(lZ d c f kn).Ok w F:=by
 intro j _ y z _ _ A s R B D E g a k l;have m:d.length<=900:=j _ (by simp [lZ])
 have r:=a (fA f 0,aa d (Pr (fO f 0))) (by simp [lZ])
 have t:=a (fA f 1,xK .none .none (.int (-1) (aE (fO f 1) 2))) (.tail _ (.head _));refine aK.o (aq (ni r.1 t.1 m ?_));have u:=a5 s s.toks _ (λq x=>(a q x).1) (λY=>0);exact l {s with heap:=s.1.push (aa d.reverse 0)} (λY=>s.1.1.size) (λY=>0) F ⟨Le.refl F,λb o e=>Heap.get?_push_of_some _ (g b o e),λY Y e=>.inl e⟩ (λi Y=>bq g (Nat.le_refl _)) (λY h=>by cases h)
  (u.push rfl (aa d.reverse 0) rfl s.toks (λY=>s.1.1.size) (λY h=>absurd h (Nat.not_lt_zero _)) rfl)
def jf (d:P5):aY:=λc a Y=>
 {need:=10,Po:=100,code:=.call (.type "list") ⟨[.ref (fA a 0)],[]⟩,fs:=[(fA a 0,aa d (Pr (fO a 0)))],Pq:=[d.length<=900],wants:=[],
  upd:=λY Y=>[aa d (Pr (fO a 0))],nn:=1,new:=λY b=>[aa d (b 0)],Pm:=1,res:=λn Y=>.end_ (.ok (.ret (.ref (n 0)))),gives:=λY Y=>[]}
theorem fx (c:Code) (k:Qa) (kn:Qb):(jf d c k kn).Ok w F:=by
 intro E _ N O _ _ A s R Q T U D r G H;have V:d.length<=900:=E _ (.head _);have t:=r (fA k 0,aa d (Pr (fO k 0))) (.head _);have I:d.reverse.toArray.size<=sizeLine:=by simp [sizeLine];lia
 have m:fA k 0≠s.1.1.size:=λe=>Nat.lt_irrefl _ (e▸Heap.lt_size t.1);have u:(s.1.push (bA #[] 0)).get? s.1.1.size=some (bA #[] 0):=Heap.get?_push_size _ rfl;refine aK.o (aq (callType_codes (Q₁:=λv g=>v= .ref s.1.1.size/\g={s with heap:=s.1.push (bA #[] 0)}) PySem.F.called_list (PySem.F.typeCall_list_1 _) PySem.F.entry_list_init (code_list_new _ ⟨rfl,rfl⟩) ?_));rintro v g ⟨rfl,rfl⟩;refine ⟨⟨_,u,rfl⟩,PySem.F.args_list_init_2 _ _,wpAny_list_init_seq (hsz:=I) _ (fA k 0) (.inl rfl) m u (Heap.get?_push_of_some _ t.1) rfl rfl ⟨rfl,?_⟩⟩;have J:Heap.SameBut s.1.1.size (s.1.push (bA #[] 0)) ((s.1.push (bA #[] 0)).update s.1.1.size (Obj.mapSeq λC=>(#[]:Array Value))):=Heap.SameBut.update ..;have L:Heap.SameBut s.1.1.size ((s.1.push (bA #[] 0)).update s.1.1.size (Obj.mapSeq λC=>(#[]:Array Value))) (((s.1.push (bA #[] 0)).update s.1.1.size (Obj.mapSeq λC=>(#[]:Array Value))).update s.1.1.size (Obj.mapSeq (· ++d.reverse.toArray))):=Heap.SameBut.update ..;have x:=Heap.get?_update_self (Obj.mapSeq λC=>(#[]:Array Value)) u rfl;have y:=Heap.get?_update_self (Obj.mapSeq (· ++d.reverse.toArray)) x rfl;have l:(((s.1.push (bA #[] 0)).update s.1.1.size (Obj.mapSeq λC=>(#[]:Array Value))).update s.1.1.size (Obj.mapSeq (· ++d.reverse.toArray))).get? s.1.1.size=some (aa d (if d=[] then 0 else 1)):=by
  simp only [y];simp [Obj.mapSeq,bA,aa]
 have a:∀b o,s.1.get? b=some o->(((s.1.push (bA #[] 0)).update s.1.1.size (Obj.mapSeq λC=>(#[]:Array Value))).update s.1.1.size (Obj.mapSeq (· ++d.reverse.toArray))).get? b=some o:=λb o e=>by
  have m:b≠s.1.1.size:=λq=>Nat.lt_irrefl _ (q▸Heap.lt_size e);exact (L.2 b m).trans ((J.2 b m).trans (Heap.get?_push_of_some _ e))
 have f:s.1.1.size<(((s.1.push (bA #[] 0)).update s.1.1.size (Obj.mapSeq λC=>(#[]:Array Value))).update s.1.1.size (Obj.mapSeq (· ++d.reverse.toArray))).objs.size:=Heap.lt_size l;refine H {s with heap:=((s.1.push (bA #[] 0)).update s.1.1.size (Obj.mapSeq λC=>(#[]:Array Value))).update s.1.1.size (Obj.mapSeq (· ++d.reverse.toArray))} (λC=>s.1.1.size) (λC=>if d=[] then 0 else 1) F ⟨Le.refl F,λb o e=>a b o (D b o e),λC C e=>.inl e⟩ (λi C=>bq D (Nat.le_refl _)) (λC h=>by cases h)
  ⟨λb o e C=>a b o e,λi p o z B C=>?_,λi o e=>?_,λC C=>Nat.le_refl _,λC C=>f,λi j (Y:i<1) (hj:j<1) _=>by lia,Nat.le_of_lt f,rfl,rfl,rfl,rfl⟩
 ·match i,z,B with
  |0,z,B=>cases z;cases B;exact a _ _ t.1
 ·match i,e with
  |0,e=>cases e;exact l
end
end
section
section
variable {α:Type} [DecidableEq α]
noncomputable def dw (b:α->Nat) (x y:α):Nat:=if y=x then b y-1 else b y
noncomputable def bM:(α->Nat)->List α->List α
 |_,[]=>[]
 |b,x::l=>if 0<b x then x::bM (dw b x) l else bM b l
noncomputable def b7:(α->Nat)->List α->List α
 |_,[]=>[]
 |b,x::l=>if 0<b x then b7 (dw b x) l else x::b7 b l
theorem gj:∀{l:List α} {b a:α->Nat},(∀x,b x=a x\/(l.count x<=b x/\l.count x<=a x))->bM b l=bM a l
 |[],_,_,_=>rfl
 |x::l,b,a,h=>by
  have c:=h x;rw [List.count_cons_self] at c;show (if 0<b x then x::bM (dw b x) l else bM b l)=(if 0<a x then x::bM (dw a x) l else bM a l)
  have d:bM (dw b x) l=bM (dw a x) l:=gj λy=>by
   unfold dw;by_cases e:y=x
   ·rw [if_pos e,if_pos e,e]
    exact c.imp (congrArg (· -1)) λh=>⟨Nat.le_sub_one_of_lt h.1,Nat.le_sub_one_of_lt h.2⟩
   ·rw [if_neg e,if_neg e,<-List.count_cons_of_ne (λq=>e q.symm)]
    exact h y
  have f:bM b l=bM a l:=gj λy=>(h y).imp_right λh=>⟨Nat.le_trans List.count_le_count_cons h.1,Nat.le_trans List.count_le_count_cons h.2⟩;rw [d,f];rcases c with e|e
  ·rw [e]
  ·rw [if_pos (Nat.lt_of_lt_of_le (Nat.succ_pos _) e.1),if_pos (Nat.lt_of_lt_of_le (Nat.succ_pos _) e.2)]
theorem iE:∀{l:List α} {b:α->Nat} {x:α},bM b (l++[x])=bM b l++(if l.count x<b x then [x] else [])
 |[],b,x=>rfl
 |y::l,b,x=>by
  show (if 0<b y then y::bM (dw b y) (l++[x]) else bM b (l++[x]))=(if 0<b y then y::bM (dw b y) l else bM b l)++_
  rw [iE,iE];by_cases h:0<b y
  ·have e:l.count x<dw b y x↔(y::l).count x<b x:=by
    unfold dw;by_cases q:x=y
    ·rw [if_pos q,q,List.count_cons_self]
     exact Nat.lt_sub_iff_add_lt
    ·rw [if_neg q,List.count_cons_of_ne (λz=>q z.symm)]
   rw [if_pos h,if_pos h];exact congrArg (λz=>y::(bM (dw b y) l++z)) (ite_congr (propext e) (λY=>rfl) λY=>rfl)
  ·have e:l.count x<b x↔(y::l).count x<b x:=by
    by_cases q:x=y
    ·rw [q,Nat.eq_zero_of_not_pos h]
     exact ⟨λz=>absurd z (Nat.not_lt_zero _),λz=>absurd z (Nat.not_lt_zero _)⟩
    ·rw [List.count_cons_of_ne (λz=>q z.symm)]
   rw [if_neg h,if_neg h];exact congrArg (bM b l++ ·) (ite_congr (propext e) (λY=>rfl) λY=>rfl)
theorem gP:∀(m:List α) (c:α->Nat),(bM (λx=>m.count x-c x) m.reverse).reverse=b7 c m
 |[],_=>rfl
 |x::m,c=>by
  rw [List.reverse_cons,iE,List.count_reverse,List.count_cons_self];show _=if 0<c x then b7 (dw c x) m else x::b7 c m
  by_cases h:0<c x
  ·have e:(λy=>(x::m).count y-c y)=λy=>m.count y-dw c x y:=funext λy=>by
    unfold dw;by_cases e:y=x
    ·rw [if_pos e,e,List.count_cons_self]
     exact (Nat.sub_sub_right _ h).symm
    ·rw [if_neg e,List.count_cons_of_ne (λz=>e z.symm)]
   rw [if_pos h,if_neg (Nat.not_lt.mpr (Nat.sub_le_of_le_add (Nat.add_le_add_left h _))),List.append_nil,e];exact gP m (dw c x)
  ·have b:c x=0:=Nat.eq_zero_of_not_pos h
   have a:bM (λy=>(x::m).count y-c y) m.reverse=bM (λy=>m.count y-c y) m.reverse:=gj λy=>by
    by_cases e:y=x
    ·rw [e,List.count_reverse,b,List.count_cons_self]
     exact .inr ⟨Nat.le_succ _,Nat.le_refl _⟩
    ·rw [List.count_cons_of_ne (λz=>e z.symm)]
     exact .inl rfl
   rw [if_neg h,if_pos (by rw [b];exact Nat.lt_succ_self _),List.reverse_append,<-gP m c,a]
   rfl
noncomputable def Ab:List α->List α->List α->List α×List α
 |miss,a,[]=>(miss,a)
 |miss,a,x::b=>if x∈a then Ab miss (a.erase x) b else Ab (miss++[x]) a b
theorem gk:∀{a:List α} {c:α->Nat} {x:α},x∈a->b7 c (a.erase x)=b7 (λy=>if y=x then c y+1 else c y) a
 |[],_,_,h=>by cases h
 |y::a,c,x,h=>by
  by_cases e:y=x
  ·subst e
   rw [List.erase_cons_head];have f:b7 (λz=>if z=y then c z+1 else c z) (y::a)=b7 (dw (λz=>if z=y then c z+1 else c z) y) a:=by
    conv=>lhs;unfold b7
    rw [if_pos (by simp)]
   have g:dw (λz=>if z=y then c z+1 else c z) y=c:=by
    funext z;unfold dw;by_cases q:z=y<;>simp [q]
   rw [f,g]
  ·rw [List.erase_cons_tail (by simpa using e)]
   have d:x∈a:=by rcases List.mem_cons.mp h with q|q;exact absurd q.symm e;exact q
   unfold b7;simp only [if_neg e];by_cases b:0<c y
   ·rw [if_pos b,if_pos b,gk d]
    congr 1;funext z;unfold dw;by_cases q:z=x
    ·subst q
     have:z≠y:=λw=>e w.symm;simp [this]
    ·simp [q]
   ·rw [if_neg b,if_neg b,gk d]
theorem l4:∀{l:List α} {c:α->Nat},(∀x∈l,c x=0)->b7 c l=l
 |[],_,_=>rfl
 |x::l,c,h=>by
  unfold b7;rw [if_neg (by rw [h x List.mem_cons_self];lia),l4 λy a=>h y (List.mem_cons_of_mem _ a)]
theorem gm:∀{l:List α} {c a:α->Nat},(∀x∈l,c x=a x)->b7 c l=b7 a l
 |[],_,_,_=>rfl
 |x::l,c,a,h=>by
  unfold b7;rw [h x List.mem_cons_self];by_cases q:0<a x
  ·rw [if_pos q,if_pos q]
   exact gm λy b=>by unfold dw;rw [h y (List.mem_cons_of_mem _ b)]
  ·rw [if_neg q,if_neg q,gm λy b=>h y (List.mem_cons_of_mem _ b)]
theorem so:∀(c b a:List α),Ab b a c=(b++b7 (λy=>a.count y) c,b7 (λy=>c.count y) a)
 |[],b,a=>by
  unfold Ab;have f:b7 (λy=>a.count y) ([]:List α)=[]:=rfl;have g:b7 (λy=>([]:List α).count y) a=a:=l4 λY Y=>rfl;rw [f,g,List.append_nil]
 |x::c,b,a=>by
  unfold Ab;by_cases h:x∈a
  ·rw [if_pos h,so c]
   have d:0<a.count x:=List.count_pos_iff.mpr h;refine Prod.ext ?_ ?_
   ·show b++_=b++_
    congr 1
    conv=>rhs;unfold b7
    rw [if_pos d];congr 1;funext y;unfold dw;by_cases e:y=x
    ·subst e;rw [if_pos rfl,List.count_erase_self]
    ·rw [if_neg e,List.count_erase_of_ne e]
   ·show b7 _ (a.erase x)=b7 _ a
    rw [gk h];congr 1;funext y;by_cases e:y=x
    ·subst e;rw [if_pos rfl,List.count_cons_self]
    ·rw [if_neg e,List.count_cons_of_ne (λz=>e z.symm)]
  ·rw [if_neg h,so c]
   have d:a.count x=0:=List.count_eq_zero.mpr h;refine Prod.ext ?_ ?_
   ·show (b++[x])++_=b++_
    conv=>rhs;unfold b7
    rw [if_neg (by show ¬0<a.count x;lia)]
    simp
   ·show b7 _ a=b7 _ a
    refine gm λy i=>?_;rw [List.count_cons_of_ne];rintro rfl;exact h i
def kh (b a:List α):List α:=bM (λx=>b.count x-a.count x) b
theorem xM (a b:List α):Ab [] b a.reverse=((kh a b).reverse,(kh b.reverse a).reverse):=by
 simp only [so];refine Prod.ext ?_ ?_
 ·show []++_=(bM _ a).reverse
  have:=gP a.reverse (λy=>b.count y);simp only [List.reverse_reverse] at this;rw [List.nil_append,<-this];simp [List.count_reverse]
 ·show b7 (λy=>a.reverse.count y) b=(bM _ b.reverse).reverse
  have:=gP b (λy=>a.count y);simp only [<-show (λy=>a.count y)=(λy=>a.reverse.count y) by funext y;rw [List.count_reverse],<-this]
  simp [List.count_reverse]
noncomputable def gn (c b a:List α) (p:α):List α:=if (a.count p:Int)<(c.count p:Int)-(b.count p:Int) then a++[p] else a
theorem nr (c a:List α):∀(l b:List α),l.foldl (gn c a) b=b++bM (λx=>c.count x-a.count x-b.count x) l
 |[],b=>(List.append_nil b).symm
 |p::l,b=>by
  rw [List.foldl_cons,nr c a l];unfold gn;show _=b++(if 0<c.count p-a.count p-b.count p then p::bM (dw (λx=>c.count x-a.count x-b.count x) p) l else bM (λx=>c.count x-a.count x-b.count x) l)
  have d:(b.count p:Int)<(c.count p:Int)-(a.count p:Int)↔0<c.count p-a.count p-b.count p:=by lia
  by_cases h:(b.count p:Int)<(c.count p:Int)-(a.count p:Int)
  ·have e:(λx=>c.count x-a.count x-(b++[p]).count x)=dw (λx=>c.count x-a.count x-b.count x) p:=funext λx=>by
    unfold dw;rw [List.count_append];by_cases q:x=p
    ·rw [if_pos q,q,List.count_cons_self]
     exact Nat.sub_add_eq _ _ _
    ·rw [if_neg q,List.count_cons_of_ne (λz=>q z.symm)]
     rfl
   rw [if_pos h,if_pos (d.mp h),List.append_assoc,e];rfl
  ·rw [if_neg h,if_neg λq=>h (d.mpr q)]
theorem Ac (b a:List α):b.foldl (gn b a) []=kh b a:=by
 rw [nr];simp [kh]
end
end
def NP (a:Addr):Env:=jB (er 39) "_law_more.<locals>." 831 830 a
def Ph (a:Addr):Code:=.func (bQ (er 39)) (NP a)
def sq (b:Value) (a:Addr):Code:=vi (nO (bQ (er 39)) 1) b (NP a)
def OR (P:Params) (t:P2) (a:P6):List DictEntry:=match a with
 |none=>[]
 |some v=>[dE P "pair" (t 6) v]
def l5 (P:Params) (t:P2) (c a b:Addr) (d:P6):Obj:=
 ik ([dE P "one" (t 0) (.ref c),dE P "other" (t 2) (.ref a),dE P "rows" (t 4) (.ref b)]++OR P t d)
noncomputable def Pj (a:P6) (l:List (Nat×Tok)):List (Nat×Tok):=match a with
 |none=>l
 |some _=>[]
def B2 (a:P6) (t b:P2):Nat->Tok:=bl t ([]++xt (a.isNone) [(6,(b 0))])
def Jd (w:World) (i:Nat) (c:P5) (g:Nat) (e:P5) (h:Nat) (l:P5) (j:Nat) (m:P6) (b:Addr) (o p q:Nat) (t:P2) (B:P8):a7:={
 B:=λa=>B,Hd:=none,O:=oT [] (aC [([],hG c i (.ref b)),([],cQ l (.ref b) o),([],cQ c (.ref b) p),([],cQ e (.ref b) q),([],bg l)]),k:=5,nn:=0,Pm:=1,H:=aQ 0xd5016801aaaa01a58403016701a4a4018d6601a0a0d5e401aaaaada5b80200,N:=79,
 cF:=λa=>sq (.ref (a 1)) (a 0),oF:=λa=>[l5 w.2 t (a 2) (a 3) (a 4) m,cN (a 2) i,aa c g,aa e h,aa l j],
 uF:=λa n f=>[l5 w.2 (B2 m t f) (a 2) (a 3) (a 4) (some (.ref b)),cN (a 2) (i+1),aa c g,aa e h,aa (.ref b::l) (j+1)],nF:=λa n f=>[],rF:=λa n f=>.again (sq (.ref (a 1)) (a 0)),idx:=[],Pn:=[0],d:=60,u:=600,
 facts:=[true=true,l.length<=1000,decide (((o:Int):Int)<(((p:Int)-(q:Int)):Int))=true,true=true,true=true,true=true,true=true,c.reverse[i]? =some (.ref b)]}
theorem Je:(Jd w i d e f g l h a b j k m t B).Runs w:=by intro c n o;cases a<;>kernel_rfl
def Jf (w:World) (i:Nat) (c:P5) (g:Nat) (e:P5) (h:Nat) (l:P5) (j:Nat) (m:P6) (b:Addr) (o p q:Nat) (t:P2) (B:P8):a7:={
 B:=λa=>B,Hd:=none,O:=oT [] (aC [([],hG c i (.ref b)),([],cQ l (.ref b) o),([],cQ c (.ref b) p),([],cQ e (.ref b) q),([],bg l)]),k:=5,nn:=0,Pm:=1,H:=aQ 0x1df8403016701a4a4018d6601a0a0d5e401aaaaada5b80200,N:=65,
 cF:=λa=>sq (.ref (a 1)) (a 0),oF:=λa=>[l5 w.2 t (a 2) (a 3) (a 4) m,cN (a 2) i,aa c g,aa e h,aa l j],
 uF:=λa n f=>[l5 w.2 (B2 m t f) (a 2) (a 3) (a 4) (some (.ref b)),cN (a 2) (i+1),aa c g,aa e h,aa l j],nF:=λa n f=>[],rF:=λa n f=>.again (sq (.ref (a 1)) (a 0)),idx:=[],Pn:=[0],d:=60,u:=600,
 facts:=[decide (((o:Int):Int)<(((p:Int)-(q:Int)):Int))=false,true=true,true=true,true=true,true=true,c.reverse[i]? =some (.ref b)]}
theorem Jg:(Jf w i d e f g l h a b j k m t B).Runs w:=by intro c n o;cases a<;>kernel_rfl
def Jh (w:World) (i:Nat) (b:P5) (c:Nat) (e:P5) (f:Nat) (l:P5) (g:Nat) (h:P6) (t:P2) (B:P8):a7:={
 B:=λa=>B,Hd:=none,O:=oT [] (aC [([],m7 b i)]),k:=5,nn:=0,Pm:=0,H:=0x7020102640200,N:=15,
 cF:=λa=>sq (.ref (a 1)) (a 0),oF:=λa=>[l5 w.2 t (a 2) (a 3) (a 4) h,cN (a 2) i,aa b c,aa e f,aa l g],
 uF:=λa n j=>[l5 w.2 t (a 2) (a 3) (a 4) h,xi i,aa b c,aa e f,aa l g],nF:=λa n j=>[],rF:=λa n j=>.end_ (.ok .next),idx:=[],Pn:=[],d:=60,u:=600,
 facts:=[true=true,i=b.length]}
theorem Ji:(Jh w i c d e f l g a t B).Runs w:=by intro b h j;cases a<;>kernel_rfl
section
noncomputable def ro (b c:List af):List af->List af->List af
 |[],a=>a
 |p::r,a=>ro b c r (if (a.count p:Int)<(b.count p:Int)-(c.count p:Int) then p::a else a)
noncomputable def E1 (a:Bool) (k:Nat):P6:=match a with
 |true=>some (.ref k)
 |false=>none
def OS (w:World) (t:P2) (b:P6) (c:P5) (d i:Nat) (e:P5) (f:Nat) (l:P5) (g:Nat) (a:P4):P7:=
 [l5 w.2 t (a 2) (a 3) (a 4) b,cN (a 2) i,aa c d,aa e f,aa l g]
def Kz (w:World) (c:Bool) (d:P5) (e:Nat) (f:P5) (g:Nat) (a:P4) (b:P2):P7:=
 [l5 w.2 b (a 2) (a 3) (a 4) (E1 c (b 8)),av,aa d e,aa f g,aa (ar (b 9)) (b 10)]
def OT (w:World) (F:aA) (B:P8) (d:Bool) (e:P5) (f:Nat) (g:P5) (h:Nat) (b:List af) (a:P4) (i:P7):Prop:=
 ah aX w F 60 600 B none (sq (.ref (ae 5 a 1)) (ae 5 a 0)) (ab a i) (λY c=>Kz w d e f g h (ae 5 a) c) 0 11 (λY Y=>[]) (λY Y=>.end_ (.ok .next)) (λY c=>[λF=>aM F (ar (c 9)) b])
noncomputable def KA:List (Nat⊕Nat):=[.inl 0,.inl 1,.inl 2,.inl 3,.inl 4]
section
variable {w:World} {F:aA} {B:P8} {a:P4} {xs ys:P5} {nx ny:Nat} {d c:List af}
theorem sr (v:∀q∈d,aB q) (y:∀q∈c,aB q):∀(j:P5) {F:aA} (_:Le (top w.2) F) {a:P4} {t:P2} {i:Nat} {done l:P5} {nl:Nat} {pv:P6} {hb:Bool} {Cr out:List af},
  xs.reverse=done++j->i=done.length->aM F xs d->aM F ys c->aM F j Cr->(∀q∈Cr,aB q)->aM F l out->(∀q∈out,aB q)->l.length+j.length<=900->
  (match hb with|true=>(j≠[]\/∃b,pv=some (.ref b))|false=>j=[]/\pv=none)->
  OT w F B hb xs nx ys ny (ro d c Cr out) a (OS w t pv xs nx i ys ny l nl (ae 5 a))
 |[],F,A,a,t,i,done,l,nl,pv,hb,Cr,out,N,U,C,D,E,n,G,O,s,Q=>by
  cases E;have V:i=xs.length:=by
   have:=congrArg List.length N;simp at this;lia
  obtain ⟨e,he⟩:=cX G;obtain ⟨k,hk⟩:∃k,E1 hb k=pv:=by
   cases hb with
   |false=>exact ⟨0,Q.2.symm⟩
   |true=>
    rcases Q with h|⟨b,rfl⟩
    ·exact absurd rfl h
    ·exact ⟨b,rfl⟩
  have C:=((Jh w i xs nx ys ny l nl pv t B).Pu A (bh (aI ⟨λ_ _=>lK,trivial⟩)) Ji (ag ⟨rfl,V,trivial⟩) a);have D:=(C.giveUp 1 (o:=xi i) (λ_ _=>⟨_,rfl⟩) (λ_ _=>rfl) rfl (by show _<5;decide) (upd':=λ_ m=>[l5 w.2 t (a 2) (a 3) (a 4) pv,av,aa xs nx,aa ys ny,aa l nl]) (λ_ _=>rfl) (λ_ _=>Nat.le_refl _)).Pw (gives':=λ_ _=>[λz=>aM z l out]) λu m z hF _ g Y=>by
   cases List.mem_singleton.mp Y;exact G.le hF
  refine ah.Pt (λ_ m=>bl t [(8,k),(9,e),(10,nl)]) D (λu m=>?_) (λ_ _=>rfl) (λ_ _=>rfl) (λu m=>?_)
  ·show [l5 w.2 (ae 11 (bl t [(8,k),(9,e),(10,nl)])) (ae 5 a 2) (ae 5 a 3) (ae 5 a 4) (E1 hb k),av,aa xs nx,aa ys ny,aa (ar e) nl]=_
   rw [he,hk];cases pv<;>kernel_rfl
  ·show [λF=>aM F (ar e) _]=_
   rw [he];rfl
 |x::j,F,A,a,t,i,done,l,nl,pv,hb,Cr,out,N,U,C,D,E,n,G,O,s,Q=>by
  cases E with
  | @cons _ p _ Cr H E=>
  have Pm:=H;obtain ⟨b,_,_,rfl,_⟩:=Pm;have r:aB p:=n p (.head _);simp only [List.length_cons] at s;have I:xs.reverse[i]? =some (.ref b):=by rw [N,U];simp
  have J:xs.reverse=(done++[.ref b])++j:=by rw [N];simp
  have L:i+1=(done++[Value.ref b]).length:=by rw [U];simp
  have Pn:hb=true:=by
   cases hb with
   |true=>rfl
   |false=>exact absurd Q.1 (by simp)
  subst Pn;have hO:bH w F (oT [] (aC [([],hG xs i (.ref b)),([],cQ l (.ref b) (out.count p)),([],cQ xs (.ref b) (d.count p)),([],cQ ys (.ref b) (c.count p)),([],bg l)])):=bh (aI ⟨λ_ _=>lI,λz f=>gi (G.le f) (H.le f) O r rfl,λz f=>gi (C.le f) (H.le f) v r rfl,λz f=>gi (D.le f) (H.le f) y r rfl,λ_ _=>bS,trivial⟩);by_cases T:(out.count p:Int)<(d.count p:Int)-(c.count p:Int)
  ·have e:ro d c (p::Cr) out=ro d c Cr (p::out):=by
    show ro d c Cr (if _ then _ else _)=_
    rw [if_pos T]
   rw [e];exact ah.PC KA [1,2,3,4,5] ((Jd w i xs nx ys ny l nl pv b (out.count p) (d.count p) (c.count p) t B).Pu A hO Je (ag ⟨rfl,by lia,decide_eq_true T,rfl,rfl,rfl,rfl,I,trivial⟩) a) (λu _ m=>Kz w true xs nx ys ny (ae 5 (bt a u KA)) m)
    (λz u m f _=>sr v y j (A.trans f) J L (C.le f) (D.le f) (E.imp λ_ _ h=>h.le f) (λq hq=>n q (by simp [hq])) (.cons (H.le f) (G.le f)) (λq hq=>by
     rcases List.mem_cons.mp hq with rfl|hq
     ·exact r
     ·exact O q hq) (by simp;lia) (.inr ⟨b,rfl⟩))
  ·have e:ro d c (p::Cr) out=ro d c Cr out:=by
    show ro d c Cr (if _ then _ else _)=_
    rw [if_neg T]
   rw [e];exact ah.PC KA [1,2,3,4,5] ((Jf w i xs nx ys ny l nl pv b (out.count p) (d.count p) (c.count p) t B).Pu A hO Jg (ag ⟨decide_eq_false T,rfl,rfl,rfl,rfl,I,trivial⟩) a) (λu _ m=>Kz w true xs nx ys ny (ae 5 (bt a u KA)) m)
    (λz u m f _=>sr v y j (A.trans f) J L (C.le f) (D.le f) (E.imp λ_ _ h=>h.le f) (λq hq=>n q (by simp [hq])) (G.le f) O (by lia) (.inr ⟨b,rfl⟩))
end
end
section
noncomputable def ur (a:P5):Bool:=match a with
 |[]=>false
 |_::_=>true
section
variable {w:World} {F:aA} {d f:P5} {m p R:List af} {j:Bool}
def xN (w:World) (d f:P5) (j:Bool) (R:List af):aY:=λY a Y=>
 {need:=60,Po:=600,code:=sq (.ref (fA a 1)) (fA a 0),
  fs:=[(fA a 0,l5 w.2 (aE (fO a 0)) (fA a 2) (fA a 3) (fA a 4) none),(fA a 1,cN (fA a 2) 0),(fA a 2,aa d (Pr (fO a 2))),(fA a 3,aa f (Pr (fO a 3))),(fA a 4,aa [] 0)],
  Pq:=[],wants:=[],hand:=some none,
  upd:=λY b=>Kz w j d (Pr (fO a 2)) f (Pr (fO a 3)) (fA a) b,nn:=0,new:=λY Y=>[],Pm:=11,res:=λY Y=>.end_ (.ok .next),gives:=λY b=>[cw (aa (ar (b 9)) (b 10)) R]}
theorem uu (s:Le (top w.2) F) (o:aM F d m) (u:aM F f p) (b:∀q∈m,aB q) (e:∀q∈p,aB q) (E:d.length<=900) (k:ur d=j) (y:Code) (c:Qa) (kn:Qb):(xN w d f j (ro m p m.reverse []) y c kn).Ok w F:=by
 intro G I C H J v;have z:H=none:=v none rfl;subst z;subst k;exact ah.Pu ((sr (w:=w) (B:=C) (a:=fA c) (t:=aE (fO c 0)) (nx:=Pr (fO c 2)) (ny:=Pr (fO c 3)) (xs:=d) (ys:=f) b e d.reverse s (i:=0) (done:=[]) (l:=[]) (nl:=0) (pv:=none) (hb:=ur d) (Cr:=m.reverse) (out:=[]) rfl rfl o u o.reverse (λq A=>b q (List.mem_reverse.mp A)) .nil (λY h=>by cases h) (by simp;omega) (by
  cases d with
  |nil=>exact ⟨rfl,rfl⟩
  |cons x r=>exact .inl (by simp))).Pw λL N O Y D g n=>by
  cases List.mem_singleton.mp n;exact ⟨_,_,rfl,D _ List.mem_cons_self⟩)
def oN (R:List af):aY:=λc a Y=>
 {need:=10,Po:=100,code:=.call (.builtin "list.__getitem__") ⟨[.ref (fA a 0),.ref (fA a 1)],[]⟩,fs:=[(fA a 0,fO a 0),(fA a 1,xK .none .none (.int (-1) (aE (fO a 1) 2)))],Pq:=[R.length<=900],wants:=[cw (fO a 0) R],
  upd:=λY Y=>[fO a 0,xK .none .none (.int (-1) (aE (fO a 1) 2))],nn:=1,new:=λY b=>[aa (ar (b 0)) (b 1)],Pm:=2,res:=λn Y=>.end_ (.ok (.ret (.ref (n 0)))),gives:=λY b=>[cw (aa (ar (b 0)) (b 1)) R.reverse]}
theorem su (c:Code) (l:Qa) (kn:Qb):(oN R c l kn).Ok w F:=by
 intro z B N O Q T A s U V Y hu u a C D;have hl:R.length<=900:=z _ (by simp [oN])
 obtain ⟨d,n,e,r⟩:=B _ (List.mem_singleton.mpr rfl) F (Le.refl F);have v:=r.len;have E:=a (fA l 0,fO l 0) (.head _);have G:=a (fA l 1,xK .none .none (.int (-1) (aE (fO l 1) 2))) (.tail _ (.head _));have x:=E.1;simp only [e] at x;obtain ⟨k,y⟩:=cX r.reverse;refine aK.o (aq (ni x G.1 (by lia) ?_))
 have H:=a5 s s.toks _ (λq I=>(a q I).1) (λp=>0);refine D {s with heap:=s.1.push (aa d.reverse 0)} (λp=>s.1.1.size) (m9 k 0) F ⟨Le.refl F,λb o e=>Heap.get?_push_of_some _ (u b o e),λp p e=>.inl e⟩ (λi p=>bq u (Nat.le_refl _)) (λg J t L=>?_) ?_
 ·cases List.mem_singleton.mp J
  refine ⟨_,_,rfl,?_⟩;show aM t (ar k) R.reverse;simp only [y];exact aM.le L (ck.reverse r)
 ·have:=H.push rfl (aa d.reverse 0) rfl s.toks (λp=>s.1.1.size) (λp h=>absurd h (Nat.not_lt_zero _)) rfl
  show fk _ _ _ _ _ [aa (ar k) 0] _;simp only [y];exact this
end
end
def NQ (w:World) (c:P5) (f:Nat) (e:P5) (g:Nat) (h:Bool) (R:List af) (B:P8):a7:={
 B:=λa=>B,Hd:=none,O:=oT [] (aC [([],xN w c e h R),([0],oN R)]),k:=2,nn:=1,Pm:=2,H:=aQ 0x5030265bf82a0b1040205640584880103a0c6c694,N:=62,
 cF:=λa=>.call (.ref 831) ⟨[.ref (a 0),.ref (a 1)],[]⟩,oF:=λa=>[aa c f,aa e g],
 uF:=λa n b=>[aa c f,aa e g],nF:=λa n b=>[aa (ar (b 0)) (b 1)],rF:=λa n b=>.end_ (.ok (.ret (.ref (n 0)))),idx:=[6],Pn:=[16,17],gF:=λa n b=>[cw (aa (ar (b 0)) (b 1)) R.reverse],Pz:=[0],d:=100,u:=1000,
 facts:=[true=true,R.length<=900,true=true]}
theorem MN {R:List af}:(NQ w c d e f a R B).Runs w:=by intro b g h;cases a<;>kernel_rfl
section
def bI (a b:List af):List af:=(ro a b a.reverse []).reverse
theorem oO (b c:List af):∀(r a:List af),(ro b c r a).length<=r.length+a.length
 |[],a=>by show a.length<=_;simp
 |p::r,a=>by
  show (ro b c r _).length<=_;by_cases h:(a.count p:Int)<(b.count p:Int)-(c.count p:Int)
  ·rw [if_pos h]
   have:=oO b c r (p::a);simp at this⊢;lia
  ·rw [if_neg h]
   have:=oO b c r a;simp at this⊢;lia
theorem tq (b c:List af):∀(r a:List af) (q:af),q∈ro b c r a->q∈r\/q∈a
 |[],a,q,h=>.inr h
 |p::r,a,q,h=>by
  have:=tq b c r _ q h;rcases this with h|h
  ·exact .inl (List.mem_cons_of_mem _ h)
  ·split at h
   ·rcases List.mem_cons.mp h with rfl|h
    ·exact .inl List.mem_cons_self
    ·exact .inr h
   ·exact .inr h
section
variable {w:World} {F:aA} {b e:P5} {c d:List af} {B:P8}
theorem xO (l:Le (top w.2) F) (m:aM F b c) (p:aM F e d) (g:∀q∈c,aB q) (h:∀q∈d,aB q) (r:b.length<=900) {i j:Nat} {a:P4}:
  ah aX w F 100 1000 B none (.call (.ref 831) ⟨[.ref (ae 2 a 0),.ref (ae 2 a 1)],[]⟩) (ab a [aa b i,aa e j]) (λY Y=>[aa b i,aa e j]) 1 2
   (λY f=>[aa (ar (f 0)) (f 1)]) (λn Y=>.end_ (.ok (.ret (.ref (n 0))))) (λY f=>[cw (aa (ar (f 0)) (f 1)) (bI c d)]):=by
 have o:=m.len;have s:=oO c d c.reverse [];exact (NQ w b i e j (ur b) (ro c d c.reverse []) B).Pu l (bh (aI ⟨λY k=>uu (l.trans k) (m.le k) (p.le k) g h r rfl,λY Y=>su,trivial⟩)) MN (ag ⟨rfl,by simp at s;lia,rfl,trivial⟩) a
def jg (w:World) (b e:P5) (c d:List af):aY:=λY a Y=>
 {need:=100,Po:=1000,code:=.call (.ref 831) ⟨[.ref (fA a 0),.ref (fA a 1)],[]⟩,fs:=[(fA a 0,aa b (Pr (fO a 0))),(fA a 1,aa e (Pr (fO a 1)))],Pq:=[b.length<=900],wants:=[],hand:=some none,
  upd:=λY Y=>[aa b (Pr (fO a 0)),aa e (Pr (fO a 1))],nn:=1,new:=λY f=>[aa (ar (f 0)) (f 1)],Pm:=2,res:=λn Y=>.end_ (.ok (.ret (.ref (n 0)))),gives:=λY f=>[cw (aa (ar (f 0)) (f 1)) (bI c d)]}
theorem fy (i:Le (top w.2) F) (j:aM F b c) (k:aM F e d) (f:∀q∈c,aB q) (g:∀q∈d,aB q) (y:Code) (h:Qa) (kn:Qb):(jg w b e c d y h kn).Ok w F:=by
 intro l p C H r m;have n:b.length<=900:=l _ (.head _);have o:H=none:=m none rfl;subst o;exact ah.Pu (xO (B:=C) (a:=fA h) i j k f g n)
end
end
section
open PySem.SeqAt
section
variable {w:World} {F:aA} {xs ys:P5} {v x:Value} {C:List af} {p:af} {n:Nat}
theorem B3 (x:Value) (l:P5) (n:Nat):Obj.mapSeq (λa=>a.eraseIdxIfInBounds ((x::l).reverse.toArray.size-1)) (aa (x::l) n)=aa l (n+1):=by
 have e:((x::l).reverse.toArray.eraseIdxIfInBounds ((x::l).reverse.toArray.size-1))=l.reverse.toArray:=by
  delta Array.eraseIdxIfInBounds;rw [dif_pos (by simp)]
  apply Array.ext';simp;rw [List.eraseIdx_append_of_length_le (by simp)]
  simp
 delta aa bA Obj.mapSeq;dsimp only;rw [e];simp
def gp (x:Value) (l:P5):aY:=λc a Y=>
 {need:=10,Po:=100,code:=.call (.builtin "list.pop") ⟨[.ref (fA a 0)],[]⟩,fs:=[(fA a 0,aa (x::l) (Pr (fO a 0)))],Pq:=[l.length<=900],wants:=[],
  upd:=λY Y=>[aa l (Pr (fO a 0)+1)],nn:=0,new:=λY Y=>[],Pm:=0,res:=λY Y=>.end_ (.ok (.ret x)),gives:=λY Y=>[]}
theorem nu (c:Code) (b:Qa) (kn:Qb):(gp x xs c b kn).Ok w F:=by
 intro i _ l m _ _ A s R o q r j d e k;have t:xs.length<=900:=i _ (by simp [gp])
 have g:=d (fA b 0,aa (x::xs) (Pr (fO b 0))) (.head _);refine aK.o (aq (call_meets PySem.F.slot_list_pop ⟨_,g.1,rfl⟩ PySem.F.entry_list_pop (PySem.F.args_list_pop_1 _)
  (MeetsSeq.list_pop_last (fA b 0) (x::xs).reverse.toArray (Pr (fO b 0)) x (by simp) (by simp [sizeLine];lia)) ⟨g.1,?_⟩))
 have p:=dd (f:=Obj.mapSeq (λa=>a.eraseIdxIfInBounds ((x::xs).reverse.toArray.size-1))) g.1 (by rw [B3];rfl) [] (λY h=>by cases h) e s.toks (λY=>0)
 simp only [B3] at p;exact k _ (λY=>0) (λY=>0) F (dc j g.2 s.toks) (λY h=>absurd h (Nat.not_lt_zero _)) (λY h=>by cases h) p
theorem Jj (c b:P5) (x:Value) (n:Nat):Obj.mapSeq (λa=>a.eraseIdxIfInBounds c.length) (bA (c++x::b).toArray n)=bA (c++b).toArray (n+1):=by
 have e:((c++x::b).toArray.eraseIdxIfInBounds c.length)=(c++b).toArray:=by
  delta Array.eraseIdxIfInBounds;rw [dif_pos (by simp)]
  apply Array.ext';simp;rw [List.eraseIdx_append_of_length_le (Nat.le_refl _)];simp
 delta bA Obj.mapSeq;dsimp only;rw [e];simp
def fz (F:aA) (l:P5) (p:af):Prop:=∀y∈l,∃q,br F y q/\aB q/\q≠p
section
variable {A:Around} {s:Shared} {R:Result->Shared->Prop} {l:Addr} {f d b c:P5}
theorem l6 (k:cK F s.1) (j:s.1.get? l=some (bA (b++x::c).toArray n)) {q:af} (m:br F x q) (o:aB q) (r:br F v p) (t:aB p) (y:A.units+100<cLine)
  (i:q=p->b.length+c.length<900->R (.ok (.ret .none)) {s with heap:=s.1.update l (Obj.mapSeq λa=>a.eraseIdxIfInBounds b.length)})
  (e:q≠p->codeAny (model aX w) A (.builtin "list.remove.loop" ⟨[.ref l,v,rawInt ((b.length+1:Nat):Int)],[]⟩) R s) (g:b.length+c.length<900):
  codeAny (model aX w) A (.builtin "list.remove.loop" ⟨[.ref l,v,rawInt ((b.length:Nat):Int)],[]⟩) R s:=by
 refine codeAny_builtin MeetsSeq.entry_remove_loop ?_;rw [Around.under_plainId MeetsSeq.plain_remove_loop _];unfold Builtin.«list.remove.loop»;refine wpAny_bind (wpAny_bind (wpAny_seqItems j rfl (wpAny_pure ?_)));have u:(b++x::c).toArray[((b.length:Nat):Int).toNat]? =some x:=by simp
 rw [u];refine wpAny_bind (nh k m r o t (by show A.units+1+64<cLine;lia) aX w _ _ ?_)
 by_cases h:q=p
 ·rw [decide_eq_true h]
  refine wpAny_bind (wpAny_updateSeq j rfl ?_ (hz:=by simp [sizeLine];lia) (_hz':=?_))
  ·exact wpAny_pure (i h g)
  ·unfold Array.eraseIdxIfInBounds
   rw [dif_pos (by simp)]
   have:=List.length_eraseIdx_le (b++x::c) b.length;simp at this;simp [sizeLine];lia
 ·rw [decide_eq_false h]
  exact wpAny_pure ⟨plainId_quiet MeetsSeq.plain_remove_loop _,e h⟩
theorem ts (k:cK F s.1) (m:br F v p) (i:aB p) (t:br F x p) (o:A.units+100<cLine) (g:f.length+d.length<900) (j:s.1.get? l=some (bA (f++x::d).toArray n))
  (u:R (.ok (.ret .none)) {s with heap:=s.1.update l (Obj.mapSeq λa=>a.eraseIdxIfInBounds f.length)}):∀(c b:P5),f=b++c->fz F c p->
  codeAny (model aX w) A (.builtin "list.remove.loop" ⟨[.ref l,v,rawInt ((b.length:Nat):Int)],[]⟩) R s
 |[],b,e,_=>by
  simp only [List.append_nil] at e;subst e;exact l6 k j t i m i o (λY Y=>u) (λh=>absurd rfl h) g
 |y::c,b,e,B=>by
  obtain ⟨q,E,G,r⟩:=B y (.head _);have D:(f++x::d)=b++y::(c++x::d):=by rw [e];simp
  rw [D] at j;refine l6 k j E G m i o (λh Y=>absurd h r) (λY=>?_) (by rw [e] at g;simp at g⊢;lia)
  have:=ts k m i t o g (by rw [D];exact j) u c (b++[y]) (by rw [e];simp) (λz H=>B z (by simp [H]))
  simpa using this
theorem qQ (r:cK F s.1) (u:br F v p) (B:aB p) (D:A.units+100<cLine) (E:A.handled=none) {all:P5} (g:all.length<=900) (i:s.1.get? l=some (bA all.toArray n))
  (G:∀t k,R (.error (.ref (s.1.1.size+1))) {s with heap:=(s.1.push (az [.str "list.remove(x): x not in list" t])).push (i7 "ValueError" s.1.1.size .none),toks:=k}):∀(c b:P5),all=b++c->fz F c p->
  codeAny (model aX w) A (.builtin "list.remove.loop" ⟨[.ref l,v,rawInt ((b.length:Nat):Int)],[]⟩) R s
 |[],b,e,_=>by
  simp only [List.append_nil] at e;subst e;refine codeAny_builtin MeetsSeq.entry_remove_loop ?_;rw [Around.under_plainId MeetsSeq.plain_remove_loop _];unfold Builtin.«list.remove.loop»;refine wpAny_bind (wpAny_bind (wpAny_seqItems i rfl (wpAny_pure ?_)));have I:all.toArray[((all.length:Nat):Int).toNat]? =none:=by simp
  rw [I];refine wpAny_bind (wpAny_rule ?_);unfold raiseErrorWords;refine wpAny_bind (wpAny_bind (wpAny_fresh (wpAny_pure ?_)));dsimp only [newExc,newTuple];refine wpAny_bind (wpAny_bind (wpAny_newObj_type ?_ (by size_fits)))
  refine wpAny_bind (m:=firstArgMember _ _) (wpAny_of_eq (a:=Value.none) (by first|rfl|(dsimp only [firstArgMember];rfl)) ?_)
  refine wpAny_newObj_type ?_ (by size_fits)
  dsimp only [raiseNew];refine wpAny_bind (wpAny_handled ?_);rw [show A.in1.handled=none from E]
  refine wpAny_bind (wpAny_pure (wpAny_throw ?_));have j:(s.1.push (az [.str "list.remove(x): x not in list" s.toks])).objs.size=s.1.1.size+1:=by rw [aN]
  have:=G s.toks (s.toks+1);rw [<-j] at this;exact this
 |y::c,b,e,H=>by
  obtain ⟨q,J,L,o⟩:=H y (.head _);rw [e] at i;refine l6 r i J L u B D (λh Y=>absurd h o) (λY=>?_) (by rw [e] at g;simp at g⊢;lia)
  have:=qQ r u B D E g (by rw [e];exact i) G c (b++[y]) (by rw [e];simp) (λz N=>H z (by simp [N]))
  simpa using this
end
theorem qR {A:Around} {s:Shared} {R:Result->Shared->Prop} {l:Addr} {xs:P5} {n:Nat} (a:s.1.get? l=some (bA xs.toArray n)) (h:codeAny (model aX w) A (.builtin "list.remove.loop" ⟨[.ref l,v,rawInt 0],[]⟩) R s):aK (model aX w) A (.call (.builtin "list.remove") ⟨[.ref l,v],[]⟩) R s:=by
 refine cc (codeAny_call_builtin PySem.F.slot_list_remove.plain PySem.F.entry_list_remove (PySem.F.slot_list_remove.check _ _ _ _ _ _ _ _ ⟨_,a,rfl⟩ (PySem.F.args_list_remove_2 _ _) ?_));exact wpAny_pure ⟨plainId_quiet MeetsSeq.plain_remove_loop _,h⟩
def sv (ys b:P5) (v:Value):aY:=λc a Y=>
 {need:=10,Po:=200,code:=.call (.builtin "list.remove") ⟨[.ref (fA a 0),v],[]⟩,fs:=[(fA a 0,aa ys (Pr (fO a 0)))],Pq:=[],wants:=[],
  upd:=λY Y=>[aa b (Pr (fO a 0)+1)],nn:=0,new:=λY Y=>[],Pm:=0,res:=λY Y=>.end_ (.ok (.ret .none)),gives:=λY Y=>[]}
theorem uv {j b d:P5} (m:ys.reverse=b++x::d) (t:j.reverse=b++d) (u:br F x p) (y:br F v p) (z:aB p) (B:fz F b p) (i:b.length+d.length<900) (c:Code) (e:Qa) (kn:Qb):(sv ys j v c e kn).Ok w F:=by
 intro E _ G H _ _ A s R I J o q k l D;have o:A.units+200<cLine:=o;have g:=k (fA e 0,aa ys (Pr (fO e 0))) (.head _);have gl:s.1.get? (fA e 0)=some (bA (b++x::d).toArray (Pr (fO e 0))):=by rw [<-m];exact g.1
 have r:Obj.mapSeq (λa=>a.eraseIdxIfInBounds b.length) (aa ys (Pr (fO e 0)))=aa j (Pr (fO e 0)+1):=by
  unfold aa;rw [m,t,Jj]
 refine aK.o (qR gl ?_);refine ts q y z u (by lia) i gl ?_ b [] rfl B
 have p:=dd (f:=Obj.mapSeq (λa=>a.eraseIdxIfInBounds b.length)) g.1 (by rw [r];rfl) [] (λY h=>by cases h) l s.toks (λY=>0)
 rw [r] at p;exact D _ (λY=>0) (λY=>0) F (dc q g.2 s.toks) (λY h=>absurd h (Nat.not_lt_zero _)) (λY h=>by cases h) p
def fB (ys:P5) (v:Value):aY:=λc a Y=>
 {need:=10,Po:=200,code:=.call (.builtin "list.remove") ⟨[.ref (fA a 0),v],[]⟩,fs:=[(fA a 0,aa ys (Pr (fO a 0)))],Pq:=[ys.length<=900],wants:=[],hand:=some none,
  upd:=λY Y=>[aa ys (Pr (fO a 0))],nn:=2,new:=λn b=>[az [.str "list.remove(x): x not in list" (b 0)],i7 "ValueError" (n 0) .none],Pm:=1,res:=λn Y=>.end_ (.error (.ref (n 1))),gives:=λY Y=>[]}
theorem sy (m:br F v p) (r:aB p) (u:fz F ys.reverse p) (c:Code) (d:Qa) (kn:Qb):(fB ys v c d kn).Ok w F:=by
 intro y _ N z _ B A s R f O l j a D E;have G:z=none:=B none rfl;subst G;have Q:ys.length<=900:=y _ (by simp [fB])
 have l:A.units+200<cLine:=l;have g:=a (fA d 0,aa ys (Pr (fO d 0))) (by simp [fB])
 refine aK.o (qR (xs:=ys.reverse) g.1 (qQ j m r (by lia) f (by simp;omega) g.1 (λt k=>?_) ys.reverse [] rfl u))
 have H:=a5 s s.toks _ (λq I=>(a q I).1) (λY=>0);have J:=H.push rfl (az [.str "list.remove(x): x not in list" t]) rfl s.toks (λY=>s.1.1.size) (λY h=>absurd h (Nat.not_lt_zero _)) rfl;have L:=J.push rfl (i7 "ValueError" s.1.1.size .none) rfl k (lJ s.1.1.size) (λi T=>by
  have:i=0:=by lia
  subst this;rfl) (by show _=(Heap.push _ _).objs.size;simp only [aN];rfl)
 exact E _ (lJ s.1.1.size) (λY=>t) F ⟨Le.refl F,λb o e=>Heap.get?_push_of_some _ (Heap.get?_push_of_some _ (j b o e)),λY Y e=>.inl e⟩ (λi Y=>bq j (Nat.le_add_right _ _)) (λY h=>by cases h) L
end
end
def NR (a:Addr):Env:=jB (er 31) "unorderable_list_difference.<locals>." 784 783 a
def KC (a:Addr):Code:=.func (bQ (er 31)) (NR a)
def l7 (a:Addr):Code:=jA (nO (bQ (er 31)) 1) (NR a)
def OU (a:Addr):Env:=jB (er 40) "_law_change.<locals>." 838 837 a
def E2 (a:Addr):Code:=.func (bQ (er 40)) (OU a)
def OV (P:Params) (t:P2) (a:P6):List DictEntry:=match a with
 |none=>[]
 |some v=>[dE P "item" (t 6) v]
def jh (P:Params) (t:P2) (a b c:Addr) (d:P6) (e:Array P6):Obj:=
 Fp (ik ([dE P "expected" (t 0) (.ref a),dE P "actual" (t 2) (.ref b),dE P "missing" (t 4) (.ref c)]++OV P t d)) e
def tu (a:P6) (t b:P2):Nat->Tok:=bl t ([]++xt (a.isNone) [(6,(b 0))])
def Jk (w:World) (b:Addr) (l:P5) (f:Nat) (g:P5) (h:Nat) (c:P5) (i:Nat) (j:P6) (m:P5) (o:Array P6) (t:P2) (B:P8):a7:={
 B:=λa=>B,Hd:=none,O:=oT [] (aC [([],dK (.ref b) l),([],gp (.ref b) l),([],sv g m (.ref b)),([],bg c)]),k:=4,nn:=0,Pm:=1,H:=aQ 0x18d6601a0a0ad8865918d9d64028d00,N:=50,
 cF:=λa=>l7 (a 0),oF:=λa=>[jh w.2 t (a 1) (a 2) (a 3) j o,aa (.ref b::l) f,aa g h,aa c i],
 uF:=λa n e=>[jh w.2 (tu j t e) (a 1) (a 2) (a 3) (some (.ref b)) o,aa l (f+1),aa m (h+1),aa c i],nF:=λa n e=>[],rF:=λa n e=>.again (l7 (a 0)),idx:=[],Pn:=[1],d:=60,u:=600,
 facts:=[true=true,true=true,l.length<=900,true=true,l.length<=900]}
theorem Jl:(Jk w b l d e f g h a i j t B).Runs w:=by intro c k m;cases a<;>kernel_rfl
def Jm (w:World) (b:Addr) (l:P5) (g:Nat) (c:P5) (h:Nat) (e:P5) (i:Nat) (j:P6) (v:Value) (m:Array DictEntry) (o:Nat) (p:Array DictEntry) (q:Nat) (r:Array DictEntry) (s:Nat) (t:P2):a7:={
 B:=λa=>[KC (a 0),E2 (a 4),bO v (a 5),eT (a 5),d5 (a 6),d6],Hd:=none,O:=oT [] (aC [([],dK (.ref b) l),([],gp (.ref b) l),([],fB c (.ref b)),([],bg e)]),k:=7,nn:=0,Pm:=1,H:=aQ 0x103016701a4a4019609b48c9609a19398aa9d08b1ef8d6601a0a0ad8865918d9d64028d00,N:=94,
 cF:=λa=>l7 (a 0),oF:=λa=>[jh w.2 t (a 1) (a 2) (a 3) j #[],aa (.ref b::l) g,aa c h,aa e i,aS m o #[],aS p q #[],aS r s #[]],
 uF:=λa n f=>[jh w.2 (tu j t f) (a 1) (a 2) (a 3) (some (.ref b)) (dI 783 784 (.ref (a 4))),aa l (g+1),aa c h,aa (.ref b::e) (i+1),aS m o (dI 837 838 (.ref (a 5))),aS p q (dI 842 843 (.ref (a 6))),aS r s nP],nF:=λa n f=>[],rF:=λa n f=>.again (l7 (a 0)),idx:=[],Pn:=[1],X:=fJ [(0,GX 1)],d:=60,u:=600,
 facts:=[true=true,e.length<=1000,true=true,c.length<=900,true=true,l.length<=900,true=true,l.length<=900]}
theorem Jn:(Jm w b l d e f g h a i j k m n o p t).Runs w:=by intro c q r;cases a<;>kernel_rfl
def Jo (w:World) (b:Addr) (l:P5) (h:Nat) (c:P5) (i:Nat) (e:P5) (j:Nat) (m:P6) (s:Value) (o:Array DictEntry) (p:Nat) (q:Array DictEntry) (r:Nat) (f:Addr) (t:P2):a7:={
 B:=λa=>[KC (a 0),E2 (a 4),bO s (a 5),eT (a 5),d5 f,d6],Hd:=none,O:=oT [] (aC [([],dK (.ref b) l),([],gp (.ref b) l),([],fB c (.ref b)),([],bg e)]),k:=6,nn:=0,Pm:=1,H:=aQ 0x103016701a4a401a108c18ca108b006aa9d07b1ef8d6601a0a0ad8865918d9d64028d00,N:=90,
 cF:=λa=>l7 (a 0),oF:=λa=>[jh w.2 t (a 1) (a 2) (a 3) m #[],aa (.ref b::l) h,aa c i,aa e j,aS o p #[],aS q r (dI 842 843 (.ref f))],
 uF:=λa n g=>[jh w.2 (tu m t g) (a 1) (a 2) (a 3) (some (.ref b)) (dI 783 784 (.ref (a 4))),aa l (h+1),aa c i,aa (.ref b::e) (j+1),aS o p (dI 837 838 (.ref (a 5))),aS q r (dI 842 843 (.ref f))],nF:=λa n g=>[],rF:=λa n g=>.again (l7 (a 0)),idx:=[],Pn:=[1],X:=fJ [(0,GX 1)],d:=60,u:=600,
 facts:=[true=true,e.length<=1000,true=true,c.length<=900,true=true,l.length<=900,true=true,l.length<=900]}
theorem Jp:(Jo w b l d e f g h a i j k m n o t).Runs w:=by intro c p q;cases a<;>kernel_rfl
def Jq (w:World) (b:Addr) (l:P5) (h:Nat) (c:P5) (i:Nat) (e:P5) (j:Nat) (m:P6) (p:Value) (f o q:Addr) (t:P2):a7:={
 B:=λa=>[KC (a 0),E2 f,bO p o,eT o,d5 q,d6],Hd:=none,O:=oT [] (aC [([],dK (.ref b) l),([],gp (.ref b) l),([],fB c (.ref b)),([],bg e)]),k:=4,nn:=0,Pm:=1,H:=aQ 0x103016701a4a4019306a78c930698e3b1ef8d6601a0a0ad8865918d9d64028d00,N:=86,
 cF:=λa=>l7 (a 0),oF:=λa=>[jh w.2 t (a 1) (a 2) (a 3) m (dI 783 784 (.ref f)),aa (.ref b::l) h,aa c i,aa e j],
 uF:=λa n g=>[jh w.2 (tu m t g) (a 1) (a 2) (a 3) (some (.ref b)) (dI 783 784 (.ref f)),aa l (h+1),aa c i,aa (.ref b::e) (j+1)],nF:=λa n g=>[],rF:=λa n g=>.again (l7 (a 0)),idx:=[],Pn:=[1],X:=fJ [(0,GX 1)],d:=60,u:=600,
 facts:=[true=true,e.length<=1000,true=true,c.length<=900,true=true,l.length<=900,true=true,l.length<=900]}
theorem Jr:(Jq w b l d e f g h a i j k m t).Runs w:=by intro c n o;cases a<;>kernel_rfl
def Js (w:World) (b:Nat) (c:P5) (e:Nat) (f:P5) (g:Nat) (h:P6) (i:Array P6) (t:P2) (B:P8):a7:={
 B:=λa=>B,Hd:=none,O:=oB [],k:=4,nn:=0,Pm:=0,H:=0x2000200020002020100,N:=26,
 cF:=λa=>l7 (a 0),oF:=λa=>[jh w.2 t (a 1) (a 2) (a 3) h i,aa [] b,aa c e,aa f g],
 uF:=λa n j=>[jh w.2 t (a 1) (a 2) (a 3) h i,aa [] b,aa c e,aa f g],nF:=λa n j=>[],rF:=λa n j=>.end_ (.ok .next),idx:=[],Pn:=[],d:=60,u:=600,
 facts:=[]}
theorem Jt:(Js w c d e f g a h t B).Runs w:=by intro b i j;cases a<;>kernel_rfl
section
noncomputable def mx:List af->List af->List af->List af×List af
 |[],A,M=>(A,M)
 |p::E,A,M=>if p∈A then mx E (A.reverse.erase p).reverse M else mx E A (p::M)
noncomputable def udB:List af->List af->Bool
 |[],_=>false
 |p::E,A=>if p∈A then udB E (A.reverse.erase p).reverse else true
def xP (m:Bool) (a:Addr):Array P6:=match m with|true=>dI 783 784 (.ref a)|false=>#[]
def qS (m:Bool) (g:Addr):Array P6:=match m with|true=>dI 837 838 (.ref g)|false=>#[]
def OW (w:World) (t:P2) (b:P6) (c:P5) (d:Nat) (e:P5) (f:Nat) (g:P5) (h:Nat) (i:Array DictEntry) (j:Nat) (k:Array DictEntry) (l:Nat) (n:Array DictEntry) (o:Nat) (m rd:Bool) (a:P4):P7:=
 [jh w.2 t (a 1) (a 2) (a 3) b (xP m (a 4)),aa c d,aa e f,aa g h,aS i j (qS m (a 5)),aS k l (dN (m||rd) (a 6)),aS n o (dh (m||rd))]
def E3 (w:World) (c:Bool) (d:Array DictEntry) (e:Nat) (f:Array DictEntry) (g:Nat) (h:Array DictEntry) (i:Nat) (m rd:Bool) (a:P4) (b:P2):P7:=
 [jh w.2 b (a 1) (a 2) (a 3) (E1 c (b 8)) (xP m (a 4)),aa [] (b 9),aa (ar (b 10)) (b 11),aa (ar (b 12)) (b 13),aS d e (qS m (a 5)),aS f g (dN (m||rd) (a 6)),aS h i (dh (m||rd))]
def Ad (b:Value) (a:P4):P8:=[KC (a 0),E2 (a 4),bO b (a 5),eT (a 5),d5 (a 6),d6]
def OX (w:World) (F:aA) (c:Value) (d:Bool) (e:Array DictEntry) (f:Nat) (g:Array DictEntry) (h:Nat) (i:Array DictEntry) (j:Nat) (m rd:Bool) (o:List af×List af) (a:P4) (k:P7):Prop:=
 ah aX w F 60 600 (Ad c (ae 7 a)) none (l7 (ae 7 a 0)) (ab a k) (λY b=>E3 w d e f g h i j m rd (ae 7 a) b) 0 14 (λY Y=>[]) (λY Y=>.end_ (.ok .next)) (λY b=>[λF=>aM F (ar (b 10)) o.1,λF=>aM F (ar (b 12)) o.2])
noncomputable def B4:List (Nat⊕Nat):=[.inl 0,.inl 1,.inl 2,.inl 3,.inl 4,.inl 5,.inl 6]
theorem ck.split {α β:Type} {R:α->β->Prop}:∀{d a:List β} {x:β} {l:List α},ck R l (d++x::a)->∃b y c,l=b++y::c/\ck R b d/\R y x/\ck R c a
 |[],a,x,_,.cons h t=>⟨[],_,_,rfl,.nil,h,t⟩
 |z::d,a,x,_,.cons h t=>by
  obtain ⟨b,y,c,e,f,g,i⟩:=ck.split t;exact ⟨_::b,y,c,by rw [e];rfl,.cons h f,g,i⟩
theorem fz.of {F:aA} {l:P5} {C:List af} {p:af} (h:aM F l C) (c:∀q∈C,aB q) (d:p∉C):fz F l p:=λy f=>by
 obtain ⟨i,g⟩:=List.getElem?_of_mem f;obtain ⟨q,j,a⟩:=h.at g;have b:=List.mem_of_getElem? j;exact ⟨q,a,c q b,λe=>d (e▸b)⟩
theorem ki {p:af}:∀{l:List af},p∈l->∃a b,l=a++p::b/\p∉a/\l.erase p=a++b
 |x::l,h=>by
  by_cases c:x=p
  ·subst c
   exact ⟨[],l,rfl,by simp,by simp⟩
  ·rcases List.mem_cons.mp h with rfl|h
   ·exact absurd rfl c
   obtain ⟨a,b,d,e,f⟩:=ki h;refine ⟨x::a,b,by rw [d];rfl,by simp [Ne.symm c,e],?_⟩
   rw [List.erase_cons_tail (by simp [c]),f];rfl
section
variable {w:World} {it:Value} {j l f:Array DictEntry} {d e i:Nat}
theorem l8:∀(E:List af) {F:aA} (_:Le (top w.2) F) {a:P4} {t:P2} {iv:P6} {es ys ms:P5} {ne ny nm:Nat} {A M:List af} {m hb rd:Bool},
  aM F es E->aM F ys A->aM F ms M->(∀q∈E,aB q)->(∀q∈A,aB q)->(∀q∈M,aB q)->E.length+M.length<=890->A.length<=890->
  (match hb with|true=>(E≠[]\/∃b,iv=some (.ref b))|false=>E=[]/\iv=none)->
  OX w F it hb j d l e f i (m||udB E A) rd (mx E A M) a (OW w t iv es ne ys ny ms nm j d l e f i m rd (ae 7 a))
 |[],F,D,a,t,iv,es,ys,ms,ne,ny,nm,A,M,m,hb,rd,G,H,I,_,_,_,_,_,hd=>by
  cases G;obtain ⟨e1,U⟩:=cX H;obtain ⟨e2,V⟩:=cX I;obtain ⟨k,hk⟩:∃k,E1 hb k=iv:=by
   cases hb with
   |false=>exact ⟨0,hd.2.symm⟩
   |true=>
    rcases hd with h|⟨b,rfl⟩
    ·exact absurd rfl h
    ·exact ⟨b,rfl⟩
  have em:(m||udB [] A)=m:=by cases m<;>rfl
  rw [em];have z:=(((Js w ne ys ny ms nm iv (xP m (ae 7 a 4)) t (Ad it (ae 7 a))).Pu D cG Jt (λ_ h=>by cases h) a).frame [aS j d (qS m (a 5)),aS l e (dN (m||rd) (a 6)),aS f i (dh (m||rd))] (λ_ _=>rfl)).Pw (gives':=λ_ _=>[λF=>aM F ys A,λF=>aM F ms M])
   λs r Q hF _ g Y=>by
    simp only [List.mem_cons,List.not_mem_nil,or_false] at Y;rcases Y with rfl|rfl
    ·exact H.le hF
    ·exact I.le hF
  refine ah.Pt (λ_ r=>bl t [(8,k),(9,ne),(10,e1),(11,ny),(12,e2),(13,nm)]) z (λs r=>?_) (λ_ _=>rfl) (λ_ _=>rfl) (λs r=>?_)
  ·show [jh w.2 (ae 14 (bl t [(8,k),(9,ne),(10,e1),(11,ny),(12,e2),(13,nm)])) (ae 7 a 1) (ae 7 a 2) (ae 7 a 3) (E1 hb k) (xP m (ae 7 a 4)),aa [] ne,aa (ar e1) ny,aa (ar e2) nm,aS j d (qS m (ae 7 a 5)),aS l e (dN (m||rd) (ae 7 a 6)),aS f i (dh (m||rd))]=_
   rw [U,V,hk];cases iv<;>kernel_rfl
  ·show [λF=>aM F (ar e1) _,λF=>aM F (ar e2) _]=_
   rw [U,V];rfl
 |p::E,F,D,a,t,iv,es,ys,ms,ne,ny,nm,A,M,m,hb,rd,G,H,I,hE,T,hM,Pn,L,hd=>by
  cases G with
  | @cons x _ es _ J G=>
  have Po:=J;obtain ⟨b,_,_,rfl,_⟩:=Po;have B:aB p:=hE p (by simp)
  have Pt:=G.len;have Px:=H.len;have Py:=I.len;simp only [List.length_cons] at Pn;have Pp:hb=true:=by
   cases hb with
   |true=>rfl
   |false=>exact absurd hd.1 (by simp)
  subst Pp;by_cases u:p∈A
  ·obtain ⟨v,o,q1,q2,q3⟩:=ki (List.mem_reverse.mpr u)
   have Pq:ck (br F) ys.reverse (v++p::o):=q1▸ck.reverse H;obtain ⟨l1,y,l2,r1,r2,r3,r4⟩:=Pq.split;have eR:mx (p::E) A M=mx E (v++o).reverse M:=by
    show (if p∈A then _ else _)=_
    rw [if_pos u,q3]
   have eB:udB (p::E) A=udB E (v++o).reverse:=by
    show (if p∈A then _ else _)=_
    rw [if_pos u,q3]
   rw [eR,eB];have N:∀q∈v++p::o,q∈A:=λq hq=>List.mem_reverse.mp (by rw [q1];exact hq)
   have O:(v++p::o).length=A.length:=by rw [<-q1];simp
   have Pz:=r2.len;have PA:=r4.len;simp only [List.length_append,List.length_cons] at O;have hO:bH w F (oT [] (aC [([],dK (.ref b) es),([],gp (.ref b) es),([],sv ys (l1++l2).reverse (.ref b)),([],bg ms)])):=bh (aI ⟨λ_ _=>iA,λ_ _=>nu,λQ n=>uv r1 (by simp) (r3.le n) (J.le n) B (fz.of (aM.le n r2) (λq hq=>T q (N q (by simp [hq]))) q2) (by lia),λ_ _=>bS,trivial⟩)
   have z:=((Jk w b es ne ys ny ms nm iv (l1++l2).reverse (xP m (ae 7 a 4)) t (Ad it (ae 7 a))).Pu D hO Jl (ag ⟨rfl,rfl,by lia,rfl,by lia,trivial⟩) a).frame [aS j d (qS m (a 5)),aS l e (dN (m||rd) (a 6)),aS f i (dh (m||rd))] (λ_ _=>rfl)
   exact ah.PC B4 [1,2,3,4,5,6,7] z (λs _ r=>E3 w true j d l e f i (m||udB E (v++o).reverse) rd (ae 7 (bt a s B4)) r)
    (λQ s r n _=>l8 E (D.trans n) (aM.le n G) (aM.le n (ck.reverse (ck.append r2 r4))) (I.le n) (λq hq=>hE q (by simp [hq])) (λq hq=>T q (by
     have:=List.mem_reverse.mp hq;rcases List.mem_append.mp this with h|h
     ·exact N q (by simp [h])
     ·exact N q (by simp [h]))) hM (by lia) (by simp;lia) (.inr ⟨b,rfl⟩))
  ·have eR:mx (p::E) A M=mx E A (p::M):=by
    show (if p∈A then _ else _)=_
    rw [if_neg u]
   have eB:(m||udB (p::E) A)=true:=by
    have:udB (p::E) A=true:=by
     show (if p∈A then _ else _)=_
     rw [if_neg u]
    rw [this];cases m<;>rfl
   rw [eR,eB];have Pm:fz F ys.reverse p:=fz.of (ck.reverse H) (λq hq=>T q (List.mem_reverse.mp hq)) (λh=>u (List.mem_reverse.mp h));have hO:bH w F (oT [] (aC [([],dK (.ref b) es),([],gp (.ref b) es),([],fB ys (.ref b)),([],bg ms)])):=bh (aI ⟨λ_ _=>iA,λ_ _=>nu,λQ n=>sy (J.le n) B (λy hy=>(Pm y hy).imp λq g=>⟨g.1.le n,g.2⟩),λ_ _=>bS,trivial⟩);have hX:∀id c fs C x,fJ [(0,GX 1)] id c fs C=some x->x.Ok aX w c fs C:=dY λp J=>by
    cases List.mem_singleton.mp J;exact zr
   cases m with
   |true=>
    exact ah.PC B4 [1,2,3,4,5,6,7] ((Jq w b es ne ys ny ms nm iv it (a 4) (a 5) (a 6) t).Pu D hO Jr (ag ⟨rfl,by lia,rfl,by lia,rfl,by lia,rfl,by lia,trivial⟩) a hX |>.frame [aS j d (qS true (a 5)),aS l e (dN (true||rd) (a 6)),aS f i (dh (true||rd))] (λ_ _=>rfl)) (λs _ r=>E3 w true j d l e f i true rd (ae 7 (bt a s B4)) r)
      (λQ s r n _=>l8 E (m:=true) (D.trans n) (aM.le n G) (H.le n) (.cons (J.le n) (I.le n)) (λq hq=>hE q (by simp [hq])) T (λq hq=>by
      rcases List.mem_cons.mp hq with rfl|hq
      ·exact B
      ·exact hM q hq) (by simp;lia) L (.inr ⟨b,rfl⟩))
   |false=>
    cases rd with
    |true=>
     exact ah.PC B4 [1,2,3,4,5,6,7] ((Jo w b es ne ys ny ms nm iv it j d l e (a 6) t).Pu D hO Jp (ag ⟨rfl,by lia,rfl,by lia,rfl,by lia,rfl,by lia,trivial⟩) a hX |>.frame [aS f i (dh true)] (λ_ _=>rfl)) (λs _ r=>E3 w true j d l e f i true true (ae 7 (bt a s B4)) r)
      (λQ s r n _=>l8 E (m:=true) (D.trans n) (aM.le n G) (H.le n) (.cons (J.le n) (I.le n)) (λq hq=>hE q (by simp [hq])) T (λq hq=>by
      rcases List.mem_cons.mp hq with rfl|hq
      ·exact B
      ·exact hM q hq) (by simp;lia) L (.inr ⟨b,rfl⟩))
    |false=>
     exact ah.PC B4 [1,2,3,4,5,6,7] ((Jm w b es ne ys ny ms nm iv it j d l e f i t).Pu D hO Jn (ag ⟨rfl,by lia,rfl,by lia,rfl,by lia,rfl,by lia,trivial⟩) a hX) (λs _ r=>E3 w true j d l e f i true false (ae 7 (bt a s B4)) r)
      (λQ s r n _=>l8 E (m:=true) (D.trans n) (aM.le n G) (H.le n) (.cons (J.le n) (I.le n)) (λq hq=>hE q (by simp [hq])) T (λq hq=>by
      rcases List.mem_cons.mp hq with rfl|hq
      ·exact B
      ·exact hM q hq) (by simp;lia) L (.inr ⟨b,rfl⟩))
end
end
section
section
variable {w:World} {F:aA} {b c:P5} {E A:List af} {d m rd:Bool} {e:Value} {o:List af×List af}
def xQ (w:World) (e:Value) (b c:P5) (d m rd:Bool) (o:List af×List af):aY:=λY a Y=>
 {need:=60,Po:=600,code:=l7 (fA a 0),
  fs:=[(fA a 0,jh w.2 (aE (fO a 0)) (fA a 1) (fA a 2) (fA a 3) none #[]),(fA a 1,aa b (Pr (fO a 1))),(fA a 2,aa c (Pr (fO a 2))),(fA a 3,aa [] 0),(fA a 4,aS (bE (fO a 4)) (bF (fO a 4)) #[]),(fA a 5,aS (bE (fO a 5)) (bF (fO a 5)) (dN rd (fA a 6))),(fA a 6,aS (bE (fO a 6)) (bF (fO a 6)) (dh rd))],
  Pq:=[],wants:=[],below:=some (Ad e (fA a)),hand:=some none,
  upd:=λY f=>E3 w d (bE (fO a 4)) (bF (fO a 4)) (bE (fO a 5)) (bF (fO a 5)) (bE (fO a 6)) (bF (fO a 6)) m rd (fA a) f,nn:=0,new:=λY Y=>[],Pm:=14,res:=λY Y=>.end_ (.ok .next),
  gives:=λY f=>[cw (aa (ar (f 10)) (f 11)) o.1,cw (aa (ar (f 12)) (f 13)) o.2]}
theorem uw (l:Le (top w.2) F) (j:aM F b E) (n:aM F c A) (p:∀q∈E,aB q) (r:∀q∈A,aB q) (B:E.length<=890) (s:A.length<=890) (u:udB E A=m) (i:ur b=d) (y:Code) (f:Qa) (kn:Qb):(xQ w e b c d m rd (mx E A []) y f kn).Ok w F:=by
 intro D G C H v x;have z:H=none:=x none rfl;subst z;subst u;subst i;rw [v _ rfl];exact ah.Pu ((l8 (w:=w) (it:=e) (a:=fA f) (t:=aE (fO f 0)) E l (iv:=none) (es:=b) (ys:=c) (ms:=[]) (ne:=Pr (fO f 1)) (ny:=Pr (fO f 2)) (nm:=0) (A:=A) (M:=[]) (m:=false) (hb:=ur b) (rd:=rd) j n .nil p r (λY h=>by cases h) (by simp;omega) s (by
  cases j with
  |nil=>exact ⟨rfl,rfl⟩
  |cons _ _=>exact .inl (by simp))).Pw λI J L Y k g hgm=>by
  rcases List.mem_cons.mp hgm with rfl|hgm
  ·exact ⟨_,_,rfl,k _ List.mem_cons_self⟩
  ·cases List.mem_singleton.mp hgm
   exact ⟨_,_,rfl,k _ (List.mem_cons_of_mem _ List.mem_cons_self)⟩)
end
end
def NS (w:World) (c:P5) (q:Nat) (e:P5) (r:Nat) (s m rd:Bool) (o:List af×List af) (f:Value) (g:Array DictEntry) (h:Nat) (i:Array DictEntry) (j:Nat) (l:Array DictEntry) (p:Nat):a7:={
 B:=λa=>[E2 (a 2),bO f (a 3),eT (a 3),d5 (a 4),d6],Hd:=none,O:=oT [] (aC [([],xQ w f c e s m rd o)]),k:=5,nn:=2,Pm:=5,H:=aQ 0x989f0206018e0764bdbd9894,N:=41,
 cF:=λa=>.call (.ref 784) ⟨[.ref (a 0),.ref (a 1)],[]⟩,oF:=λa=>[aa c q,aa e r,aS g h #[],aS i j (dN rd (a 4)),aS l p (dh rd)],
 uF:=λa n b=>[aa [] (b 0),aa (ar (b 1)) (b 2),aS g h (qS m (a 3)),aS i j (dN (m||rd) (a 4)),aS l p (dh (m||rd))],nF:=λa n b=>[az [.ref (n 1),.ref (a 1)],aa (ar (b 3)) (b 4)],rF:=λa n b=>.end_ (.ok (.ret (.ref (n 0)))),idx:=[7,6],Pn:=[12,13,14,15,16],gF:=λa n b=>[cw (aa (ar (b 1)) (b 2)) o.1,cw (aa (ar (b 3)) (b 4)) o.2],Pz:=[0,1],d:=100,u:=1000,
 facts:=[true=true]}
theorem MO {rd:Bool}:(NS w c d e f a m rd o g h i j k l n).Runs w:=by intro b p q;cases a<;>kernel_rfl
section
section
variable {w:World} {F:aA} {b c:P5} {E A:List af} {m rd:Bool} {it:Value}
def NT (it:Value) (a:P4):P8:=[E2 (a 2),bO it (a 3),eT (a 3),d5 (a 4),d6]
def NU (b c:P5) (d e:Nat) (f:Array DictEntry) (g:Nat) (h:Array DictEntry) (i:Nat) (j:Array DictEntry) (k:Nat) (rd:Bool) (a:P4):P7:=[aa b d,aa c e,aS f g #[],aS h i (dN rd (a 4)),aS j k (dh rd)]
def NV (e:Array DictEntry) (f:Nat) (g:Array DictEntry) (h:Nat) (i:Array DictEntry) (j:Nat) (m rd:Bool) (a:P4) (d:P2):P7:=[aa [] (d 0),aa (ar (d 1)) (d 2),aS e f (qS m (a 3)),aS g h (dN (m||rd) (a 4)),aS i j (dh (m||rd))]
theorem Ae (l:Le (top w.2) F) (r:aM F b E) (s:aM F c A) (t:∀q∈E,aB q) (u:∀q∈A,aB q) (v:E.length<=890) (x:A.length<=890) (y:udB E A=m) {o p e f g:Nat} {h i j:Array DictEntry} {a:P4}:
  ah aX w F 100 1000 (NT it (ae 5 a)) none (.call (.ref 784) ⟨[.ref (ae 5 a 0),.ref (ae 5 a 1)],[]⟩) (ab a (NU b c o p h e i f j g rd (ae 5 a))) (λY d=>NV h e i f j g m rd (ae 5 a) d) 2 5
   (λn d=>[az [.ref (n 1),.ref (ae 5 a 1)],aa (ar (d 3)) (d 4)]) (λn Y=>.end_ (.ok (.ret (.ref (n 0))))) (λY d=>[cw (aa (ar (d 1)) (d 2)) (mx E A []).1,cw (aa (ar (d 3)) (d 4)) (mx E A []).2]):=
 (NS w b o c p (ur b) m rd (mx E A []) it h e i f j g).Pu l (bh (aI ⟨λY k=>uw (l.trans k) (r.le k) (s.le k) t u v x y rfl,trivial⟩)) MO (ag ⟨rfl,trivial⟩) a
def sA (it:Value) (b c:P5) (E A:List af) (m rd:Bool):aY:=λY a Y=>
 {need:=100,Po:=1000,code:=.call (.ref 784) ⟨[.ref (fA a 0),.ref (fA a 1)],[]⟩,fs:=ab (fA a) (NU b c (Pr (fO a 0)) (Pr (fO a 1)) (bE (fO a 2)) (bF (fO a 2)) (bE (fO a 3)) (bF (fO a 3)) (bE (fO a 4)) (bF (fO a 4)) rd (fA a)),Pq:=[udB E A=m/\E.length<=890/\A.length<=890],wants:=[],below:=some (NT it (fA a)),hand:=some none,
  upd:=λY d=>NV (bE (fO a 2)) (bF (fO a 2)) (bE (fO a 3)) (bF (fO a 3)) (bE (fO a 4)) (bF (fO a 4)) m rd (fA a) d,nn:=2,new:=λn d=>[az [.ref (n 1),.ref (fA a 1)],aa (ar (d 3)) (d 4)],Pm:=5,res:=λn Y=>.end_ (.ok (.ret (.ref (n 0)))),gives:=λY d=>[cw (aa (ar (d 1)) (d 2)) (mx E A []).1,cw (aa (ar (d 3)) (d 4)) (mx E A []).2]}
theorem ux (e:Le (top w.2) F) (f:aM F b E) (g:aM F c A) (h:∀q∈E,aB q) (i:∀q∈A,aB q) (y:Code) (d:Qa) (kn:Qb):(sA it b c E A m rd y d kn).Ok w F:=by
 intro j s C H k l;obtain ⟨n,o,p⟩:udB E A=m/\E.length<=890/\A.length<=890:=j _ (.head _);have r:H=none:=l none rfl;subst r;rw [k _ rfl];exact ah.Pu (Ae (a:=fA d) (it:=it) e f g h i o p n)
end
end
section
open PySem.SeqAt
def lD (C:List af):PyData:=.list (C.reverse.map pD)
theorem ji:∀{C:List af},(∀q∈C,aB q)->PyData.canLayAll0 (C.map pD)=true
 |[],_=>rfl
 |p::C,h=>by
  simp only [List.map_cons,PyData.canLayAll0,Bool.and_eq_true];exact ⟨lX (h p (.head _)),ji λq a=>h q (by simp [a])⟩
theorem kj:∀(C:List af),PyData.depthAll (C.map pD)<=3
 |[]=>by simp [PyData.depthAll]
 |p::C=>by
  have a:=lY p;have b:=kj C;simp only [List.map_cons,PyData.depthAll];lia
theorem qT {C:List af} (h:∀q∈C,aB q):(lD C).canLay0=true:=by
 simp only [lD,PyData.canLay0];exact ji λq a=>h q (List.mem_reverse.mp a)
theorem sC (C:List af):(lD C).depth<=4:=by
 have:=kj C.reverse;dsimp only [lD,PyData.depth];lia
theorem kk:∀(C:List af),PyData.eqvAll (C.map pD) (C.map pD)=true
 |[]=>rfl
 |p::C=>by
  simp only [List.map_cons,PyData.eqvAll,kk C,qN];simp
theorem xR (C:List af):PyData.eqv (lD C) (lD C)=true:=by
 simp only [lD,PyData.eqv];exact kk _
theorem l9 {F:aA} {h:Heap} (c:cK F h) {b:Addr} {a:P5} {n:Nat} {C:List af} (d:h.get? b=some (aa a n)) (x:aM F a C):Reads h (.ref b) (lD C) [b]:=by
 have:=qO c (ck.reverse x);exact Reads.list d rfl rfl (this)
theorem jR {F:aA} {A:Around} {s:Shared} (a:cK F s.1) {b c:Addr} {d e:P5} {n m:Nat} {C:List af} (g:s.1.get? b=some (aa d n)) (h:s.1.get? c=some (aa e m)) (x:aM F d C) (y:aM F e C) (f:∀q∈C,aB q) (i:A.units+64<cLine):EqAt A s (.ref b) (.ref c) true:=by
 simp only [<-xR C];have:=sC C;exact eqAt_reads _ _ A s _ _ _ _ (l9 a g x) (l9 a h y) (qT f) (qT f) (by lia)
section
variable {w:World} {F:aA} {X Y C:List af} {L:List (List af)}
def dF (X Y:List af):aY:=λc a V=>
 {need:=10,Po:=200,code:=.call (.builtin "tuple.__ne__") ⟨[.ref (fA a 0),.ref (fA a 1)],[]⟩,
  fs:=[(fA a 0,az [.ref (fA a 2),.ref (fA a 3)]),(fA a 1,az [.ref (fA a 4),.ref (fA a 5)]),(fA a 2,fO a 2),(fA a 3,fO a 3),(fA a 4,fO a 4),(fA a 5,fO a 5)],Pq:=[],wants:=[cw (fO a 2) X,cw (fO a 3) Y,cw (fO a 4) X,cw (fO a 5) Y],
  upd:=λV V=>[az [.ref (fA a 2),.ref (fA a 3)],az [.ref (fA a 4),.ref (fA a 5)],fO a 2,fO a 3,fO a 4,fO a 5],nn:=0,new:=λV V=>[],Pm:=0,res:=λV V=>.end_ (.ok (.ret (.bool false))),gives:=λV V=>[]}
theorem nv (n:∀q∈X,aB q) (o:∀q∈Y,aB q) (c:Code) (a:Qa) (kn:Qb):(dF X Y c a kn).Ok w F:=by
 intro J d N O _ _ A s R Q T f e b p r;have f:A.units+200<cLine:=f;obtain ⟨U,V,t,u⟩:=d (cw (fO a 2) X) (by simp [dF]) F (Le.refl F)
 obtain ⟨x2,n2,v,x⟩:=d (cw (fO a 3) Y) (by simp [dF]) F (Le.refl F)
 obtain ⟨x3,n3,y,z⟩:=d (cw (fO a 4) X) (by simp [dF]) F (Le.refl F)
 obtain ⟨x4,n4,B,D⟩:=d (cw (fO a 5) Y) (by simp [dF]) F (Le.refl F)
 have g:=(b (fA a 0,az [.ref (fA a 2),.ref (fA a 3)]) (by simp [dF])).1
 have E:=(b (fA a 1,az [.ref (fA a 4),.ref (fA a 5)]) (by simp [dF])).1
 have i:=(b (fA a 2,fO a 2) (.tail _ (.tail _ (.head _)))).1;have k:=(b (fA a 3,fO a 3) (by simp [dF])).1
 have l:=(b (fA a 4,fO a 4) (by simp [dF])).1
 have m:=(b (fA a 5,fO a 5) (by simp [dF])).1
 simp only [t] at i;simp only [v] at k;simp only [y] at l;simp only [B] at m;refine aK.o (aq (call_meets PySem.F.slot_tuple_ne ⟨_,g,rfl⟩ PySem.F.entry_tuple_ne (PySem.F.args_tuple_ne_2 _ _)
  (tuple_neAt (fA a 0) (fA a 1) [Value.ref (fA a 2),.ref (fA a 3)].toArray [Value.ref (fA a 4),.ref (fA a 5)].toArray 0 0 none none #[] #[] (λL=>true)) ⟨g,E,λj G H=>?_,?_⟩))
 ·match j,G,H with
  |0,_,_=>exact jR e i l u z n (by show A.units+1+64<cLine;lia)
  |1,_,_=>exact jR e k m x D o (by show A.units+1+64<cLine;lia)
 ·exact r s (λL=>0) (λL=>0) F (bz e s.toks) (λL h=>absurd h (Nat.not_lt_zero _)) (λL h=>by cases h) (a5 s s.toks _ (λq I=>(b q I).1) _)
def fC (L:List (List af)):aY:=λc a Y=>
 {need:=10,Po:=200,code:=.call (.builtin "list.__ne__") ⟨[.ref (fA a 0),.ref (fA a 1)],[]⟩,
  fs:=[(fA a 0,fO a 0),(fA a 1,fO a 1)],Pq:=[∀C∈L,∀q∈C,aB q],wants:=[d8 (fO a 0) L,d8 (fO a 1) L],
  upd:=λY Y=>[fO a 0,fO a 1],nn:=0,new:=λY Y=>[],Pm:=0,res:=λY Y=>.end_ (.ok (.ret (.bool false))),gives:=λY Y=>[]}
theorem cq.at {xs:P5} (x:cq F xs L):∀{i:Nat} {v:Value},xs[i]? =some v->∃C,L[i]? =some C/\DD F v C:=by
 induction x with
 |nil=>intro i v h;simp at h
 | @cons a b l m c _ d=>
  intro i v h;cases i with
  |zero=>simp at h;subst h;exact ⟨b,rfl,c⟩
  |succ i=>exact d (by simpa using h)
theorem uy (c:Code) (a:Qa) (kn:Qb):(fC L c a kn).Ok w F:=by
 intro E t Cs Hd _ _ A s R hH hd u g d G H;have u:A.units+200<cLine:=u;have I:∀C∈L,∀q∈C,aB q:=E _ (by simp [fC])
 obtain ⟨f,J,N,x⟩:=t (d8 (fO a 0) L) (by simp [fC]) F (Le.refl F)
 obtain ⟨k,O,Q,y⟩:=t (d8 (fO a 1) L) (by simp [fC]) F (Le.refl F)
 have m:=(d (fA a 0,fO a 0) (by simp [fC])).1
 have z:=(d (fA a 1,fO a 1) (.tail _ (.head _))).1;simp only [N] at m;simp only [Q] at z;have T:=x.len;have U:=y.len;have V:cq F f.reverse L.reverse:=ck.reverse x;have r2:cq F k.reverse L.reverse:=ck.reverse y;refine aK.o (aq (call_meets PySem.F.slot_list_ne ⟨_,m,rfl⟩ PySem.F.entry_list_ne (PySem.F.args_list_ne_2 _ _)
  (list_neAt (fA a 0) (fA a 1) f.reverse.toArray k.reverse.toArray J O none none #[] #[] (by simp;lia) (λY=>true)) ⟨m,z,λj h1 h2=>?_,?_⟩))
 ·obtain ⟨C1,B,q1⟩:=V.at (i:=j) (v:=f.reverse.toArray[j]) (List.getElem?_eq_getElem (by exact h1))
  obtain ⟨C2,D,q2⟩:=r2.at (i:=j) (v:=k.reverse.toArray[j]) (List.getElem?_eq_getElem (by exact h2))
  simp only [B] at D;cases D;obtain ⟨b,l,n,eb,fb,ib⟩:=q1;obtain ⟨b',l',n',o,p,r⟩:=q2;rw [eb,o];exact jR g (g _ _ fb) (g _ _ p) ib r (I C1 (List.mem_reverse.mp (List.mem_of_getElem? B))) (by show A.units+1+64<cLine;lia)
 ·have e:(List.range f.reverse.toArray.size).all (λY=>true)=true:=by simp
  show R (.ok (.ret (.bool (!(List.range f.reverse.toArray.size).all (λY=>true))))) s;rw [e];exact H s (λY=>0) (λY=>0) F (bz g s.toks) (λY h=>absurd h (Nat.not_lt_zero _)) (λY h=>by cases h) (a5 s s.toks _ (λq hq=>(d q hq).1) _)
def kG (C:List af) (k:Int):aY:=λY a Y=>
 {need:=0,Po:=0,code:=.call (.builtin "len") ⟨[.ref (fA a 0)],[]⟩,fs:=[(fA a 0,fO a 0)],Pq:=[((C.length:Nat):Int)=k/\C.length<=900],wants:=[cw (fO a 0) C],
  upd:=λY Y=>[fO a 0],nn:=0,new:=λY Y=>[],Pm:=1,res:=λY b=>.end_ (.ok (.ret (.int k (b 0)))),gives:=λY Y=>[]}
theorem iF {k:Int} (c:Code) (d:Qa) (kn:Qb):(kG C k c d kn).Ok w F:=by
 intro j l v x _ _ A s R _ _ _ m a o p;obtain ⟨f,y⟩:((C.length:Nat):Int)=k/\C.length<=900:=j _ (.head _);obtain ⟨r,n,e,t⟩:=l _ (List.mem_singleton.mpr rfl) F (Le.refl F);have g:=(a (fA d 0,fO d 0) (.head _)).1;simp only [e] at g;have b:=t.len;have i:((r.reverse.toArray.size:Nat):Int)=k:=by simp only [<-f];simp [b]
 refine aK.o (aq (PySem.Calls.call_len_list (c3 g) (by rw [i,<-f];lia) ?_))
 rw [i];exact p {s with toks:=s.toks+1+1} (λY=>0) (λY=>s.toks+1) F (bz m _) (λY h=>absurd h (Nat.not_lt_zero _)) (λY h=>by cases h) (a5 s _ _ (λq u=>(a q u).1) _)
def ma (b:Value) (d e:P5) (E A:List af) (m rd:Bool) (X Y:List af):aY:=λc f kn=>
 {sA b d e E A m rd c f kn with Pq:=[udB E A=m/\E.length<=890/\A.length<=890,mx E A []=(Y,X)],gives:=λV a=>[cw (aa (ar (a 1)) (a 2)) Y,cw (aa (ar (a 3)) (a 4)) X]}
theorem nz {a b:P5} {E A:List af} {c:Value} {m rd:Bool} (f:Le (top w.2) F) (g:aM F a E) (h:aM F b A) (i:∀q∈E,aB q) (j:∀q∈A,aB q) (y:Code) (d:Qa) (kn:Qb):(ma c a b E A m rd X Y y d kn).Ok w F:=by
 intro e k C H l n;have o:udB E A=m/\E.length<=890/\A.length<=890:=e _ (by simp [ma])
 have p:mx E A []=(Y,X):=e _ (.tail _ (.head _));have:=ux (w:=w) (F:=F) (it:=c) (m:=m) (rd:=rd) f g h i j y d kn (λx r=>by cases List.mem_singleton.mp r;exact o) k C H l n
 unfold ma;unfold sA at this;dsimp only at this⊢;simp only [p] at this;exact this
end
end
def Ju (w:World) (c:P5) (f:Nat) (b:P5) (g:Nat) (O N:List af) (m rd:Bool) (e:Int) (h:Value) (i:Array DictEntry) (j:Nat) (l:Array DictEntry) (o:Nat):a7:={
 B:=λa=>[bO h (a 2),eT (a 2),d5 (a 3),d6],Hd:=none,O:=oT [] (aC [([],jg w c b O N),([],lZ b),([],jg w b.reverse c N.reverse O),([],jf c),([],jf b),([],ma h c b O N m rd (bI O N) (bI N.reverse O)),([1,0,3,2],dF (bI O N) (bI N.reverse O)),([2],kG (bI N.reverse O) e)]),k:=4,nn:=0,Pm:=0,H:=aQ 0x5a508016b05820f0a0f0ac30a0fc9840a0f0a0508050a0c0d0b066a010c0e0c05aaaa9702040a090569886805a28e05836705a205820702668e0601026591a28e05deb88ebebebe0594,N:=172,
 cF:=λa=>.call (.ref 838) ⟨[.ref (a 0),.ref (a 1),.bool true],[]⟩,oF:=λa=>[aa c f,aa b g,aS i j (dN rd (a 3)),aS l o (dh rd)],
 uF:=λa n p=>[aa c f,aa b g,aS i j (dN (m||rd) (a 3)),aS l o (dh (m||rd))],nF:=λa n p=>[],rF:=λa n p=>.end_ (.ok (.ret (.bool true))),idx:=[],Pn:=[],d:=150,u:=1500,
 facts:=[decide ((e:Int)<(2:Int))=true,true=true,(((bI N.reverse O).length:Nat):Int)=e/\(bI N.reverse O).length<=900,true=true,true=true,udB O N=m/\O.length<=890/\N.length<=890,mx O N []=((bI N.reverse O),(bI O N)),true=true,b.length<=900,true=true,c.length<=900,true=true,b.reverse.length<=900,true=true,b.length<=900,true=true,c.length<=900]}
theorem Jv {a:P5} {rd:Bool}:(Ju w a c d e O N m rd f g h i j k).Runs w:=by intro b l n;kernel_rfl
def Jw (w:World) (c:P5) (g:Nat) (b:P5) (h:Nat) (O N:List af) (m rd:Bool) (e:Int) (i:Value) (j:Array DictEntry) (l:Nat) (o:Array DictEntry) (p:Nat) (f:Int):a7:={
 B:=λa=>[bO i (a 2),eT (a 2),d5 (a 3),d6],Hd:=none,O:=oT [] (aC [([],jg w c b O N),([],lZ b),([],jg w b.reverse c N.reverse O),([],jf c),([],jf b),([],ma i c b O N m rd (bI O N) (bI N.reverse O)),([1,0,3,2],dF (bI O N) (bI N.reverse O)),([2],kG (bI N.reverse O) e),([3],kG (bI O N) f)]),k:=4,nn:=0,Pm:=0,H:=aQ 0x8d05016c05a2a508016b05820f0a0f0ac30a0fc9840a0f0a0508050a0c0d0b066a010c0e0c05aaaa9702040a090569886805a28e05836705a205820702668e0601026591a28e05deb88ebebebe0594,N:=184,
 cF:=λa=>.call (.ref 838) ⟨[.ref (a 0),.ref (a 1),.bool false],[]⟩,oF:=λa=>[aa c g,aa b h,aS j l (dN rd (a 3)),aS o p (dh rd)],
 uF:=λa n q=>[aa c g,aa b h,aS j l (dN (m||rd) (a 3)),aS o p (dh (m||rd))],nF:=λa n q=>[],rF:=λa n q=>.end_ (.ok (.ret (.bool true))),idx:=[],Pn:=[],d:=150,u:=1500,
 facts:=[decide ((f:Int)<(2:Int))=true,true=true,(((bI O N).length:Nat):Int)=f/\(bI O N).length<=900,decide ((e:Int)<(2:Int))=true,true=true,(((bI N.reverse O).length:Nat):Int)=e/\(bI N.reverse O).length<=900,true=true,true=true,udB O N=m/\O.length<=890/\N.length<=890,mx O N []=((bI N.reverse O),(bI O N)),true=true,b.length<=900,true=true,c.length<=900,true=true,b.reverse.length<=900,true=true,b.length<=900,true=true,c.length<=900]}
theorem Jx {a:P5} {rd:Bool}:(Jw w a c d e O N m rd f g h i j k l).Runs w:=by intro b n o;kernel_rfl
section
theorem tB:(instBEqProd:BEq af)=instBEqOfDecidableEq:=by
 have c:∀(a b:BEq af),(∀x y,a.beq x y=b.beq x y)->a=b:=by
  intro a b h;cases a;cases b;congr;funext x y;exact h x y
 apply c;intro x y;rw [Bool.eq_iff_iff];simp
theorem Ec (p:af) (l:List af):@List.count af instBEqOfDecidableEq p l=l.count p:=by rw [<-tB]
theorem MP (p:af) (l:List af):@List.erase af instBEqOfDecidableEq l p=l.erase p:=by rw [<-tB]
theorem qU (c d:List af):∀(b a:List af),(ro c d b a).reverse=b.foldl (gn c.reverse d.reverse) a.reverse
 |[],a=>rfl
 |p::r,a=>by
  simp only [List.foldl_cons];show (ro c d r _).reverse=_;simp only [qU c d r];congr 1;unfold gn;rw [Ec,Ec,Ec,List.count_reverse,List.count_reverse,List.count_reverse];by_cases h:(a.count p:Int)<(c.count p:Int)-(d.count p:Int)
  ·rw [if_pos h,if_pos h,List.reverse_cons]
  ·rw [if_neg h,if_neg h]
theorem jj (a b:List af):bI a b=kh a.reverse b.reverse:=by
 unfold bI;rw [qU,List.reverse_nil,Ac]
theorem oP:∀(E A M:List af),Ab M.reverse A.reverse E=((mx E A M).2.reverse,(mx E A M).1.reverse)
 |[],A,M=>rfl
 |p::E,A,M=>by
  by_cases h:p∈A
  ·have a:p∈A.reverse:=List.mem_reverse.mpr h
   rw [Ab,mx,if_pos h,if_pos a,MP,<-oP E _ M,List.reverse_reverse]
  ·have a:p∉A.reverse:=λq=>h (List.mem_reverse.mp q)
   rw [Ab,mx,if_neg h,if_neg a,<-oP E A (p::M),List.reverse_cons]
theorem xS (O N:List af):mx O N []=(bI N.reverse O,bI O N):=by
 have h:=oP O N [];have g:=xM O.reverse N.reverse;rw [List.reverse_reverse] at g;rw [List.reverse_nil,g] at h;have b:=congrArg Prod.fst h;have c:=congrArg Prod.snd h;dsimp only at b c;have d:=congrArg List.reverse b;have a:=congrArg List.reverse c;rw [List.reverse_reverse,List.reverse_reverse] at d a;rw [jj,jj,List.reverse_reverse];simp only [List.reverse_reverse] at a;exact Prod.ext a.symm d.symm
def iG (O N:List af) (a:Bool):Prop:=(bI N.reverse O).length<2/\(a=true\/(bI O N).length<2)
section
variable {w:World} {F:aA} {c b:P5} {O N:List af} {m rd d:Bool} {it:Value}
def MQ (it:Value) (a:P4):P8:=[bO it (a 2),eT (a 2),d5 (a 3),d6]
def E4 (c b:P5) (e f:Nat) (g:Array DictEntry) (h:Nat) (i:Array DictEntry) (j:Nat) (rd:Bool) (a:P4):P7:=[aa c e,aa b f,aS g h (dN rd (a 3)),aS i j (dh rd)]
theorem mb (f:Le (top w.2) F) (g:aM F c O) (i:aM F b N) (j:∀q∈O,aB q) (l:∀q∈N,aB q) (x:O.length<=890) (y:N.length<=890) (z:udB O N=m) (C:iG O N d) {o p r s:Nat} {t u:Array DictEntry} {a:P4}:
  ah aX w F 150 1500 (MQ it (ae 4 a)) none (.call (.ref 838) ⟨[.ref (ae 4 a 0),.ref (ae 4 a 1),.bool d],[]⟩) (ab a (E4 c b o p t r u s rd (ae 4 a))) (λY Y=>E4 c b o p t r u s (m||rd) (ae 4 a)) 0 0
   (λY Y=>[]) (λY Y=>.end_ (.ok (.ret (.bool true)))) (λY Y=>[]):=by
 have I:=g.len;have J:=i.len;have k:∀q∈N.reverse,aB q:=λq v=>l q (List.mem_reverse.mp v);have n:∀(A B:List af),(∀q∈A,aB q)->∀q∈bI A B,aB q:=λA B L q v=>by
  unfold bI at v;rcases tq A B _ _ q (List.mem_reverse.mp v) with h|h
  ·exact L q (List.mem_reverse.mp h)
  ·cases h
 have D:=n N.reverse O k;have E:=n O N j;have G:=xS O N;have Q:=C.1;have H:=C.2;cases d with
 |true=>
  exact (Ju w c o b p O N m rd ((bI N.reverse O).length:Nat) it t r u s).Pu f (bh (aI ⟨λY e=>fy (f.trans e) (g.le e) (i.le e) j l,λY Y=>nk,λY e=>fy (f.trans e) (aM.le e (ck.reverse i)) (g.le e) k j,λY Y=>fx,λY Y=>fx,λY e=>nz (f.trans e) (g.le e) (i.le e) j l,λY Y=>nv E D,λY Y=>iF,trivial⟩)) Jv (ag ⟨decide_eq_true (by lia),rfl,⟨rfl,by lia⟩,rfl,rfl,⟨z,x,y⟩,G,rfl,by lia,rfl,by lia,rfl,by simp;lia,rfl,by lia,rfl,by lia,trivial⟩) a
 |false=>
  have H:(bI O N).length<2:=by
   rcases H with h|h
   ·injection h
   ·exact h
  exact (Jw w c o b p O N m rd ((bI N.reverse O).length:Nat) it t r u s ((bI O N).length:Nat)).Pu f (bh (aI ⟨λY e=>fy (f.trans e) (g.le e) (i.le e) j l,λY Y=>nk,λY e=>fy (f.trans e) (aM.le e (ck.reverse i)) (g.le e) k j,λY Y=>fx,λY Y=>fx,λY e=>nz (f.trans e) (g.le e) (i.le e) j l,λY Y=>nv E D,λY Y=>iF,λY Y=>iF,trivial⟩)) Jx (ag ⟨decide_eq_true (by lia),rfl,⟨rfl,by lia⟩,decide_eq_true (by lia),rfl,⟨rfl,by lia⟩,rfl,rfl,⟨z,x,y⟩,G,rfl,by lia,rfl,by lia,rfl,by simp;lia,rfl,by lia,rfl,by lia,trivial⟩) a
def uz (it:Value) (c b:P5) (O N:List af) (m rd d:Bool):aY:=λY a Y=>
 {need:=150,Po:=1500,code:=.call (.ref 838) ⟨[.ref (fA a 0),.ref (fA a 1),.bool d],[]⟩,fs:=ab (fA a) (E4 c b (Pr (fO a 0)) (Pr (fO a 1)) (bE (fO a 2)) (bF (fO a 2)) (bE (fO a 3)) (bF (fO a 3)) rd (fA a)),Pq:=[udB O N=m/\iG O N d/\O.length<=890/\N.length<=890],wants:=[],below:=some (MQ it (fA a)),hand:=some none,
  upd:=λY Y=>E4 c b (Pr (fO a 0)) (Pr (fO a 1)) (bE (fO a 2)) (bF (fO a 2)) (bE (fO a 3)) (bF (fO a 3)) (m||rd) (fA a),nn:=0,new:=λY Y=>[],Pm:=0,res:=λY Y=>.end_ (.ok (.ret (.bool true))),gives:=λY Y=>[]}
theorem Af (f:Le (top w.2) F) (g:aM F c O) (h:aM F b N) (i:∀q∈O,aB q) (j:∀q∈N,aB q) (y:Code) (e:Qa) (kn:Qb):(uz it c b O N m rd d y e kn).Ok w F:=by
 intro k u C H l n;obtain ⟨o,p,r,s⟩:udB O N=m/\iG O N d/\O.length<=890/\N.length<=890:=k _ (.head _);have t:H=none:=n none rfl;subst t;rw [l _ rfl];exact ah.Pu (mb (a:=fA e) (it:=it) f g h i j r s o p)
end
end
noncomputable def MR:Stmt->List Stmt
 | .For _ _ b _ _=>b
 |_=>[]
noncomputable def MS:Stmt->Expr
 | .Assign _ e _=>e
 |_=>.Constant .none 0 ⟨0,0,0,0⟩
def MT:Expr:=MS (nO (MR (nO (bQ (er 41)) 2)) 3)
def NW (a d:Addr):Env:={scope:=ja MT,locals:=d,globals:=3,cells:=[],qual:="_law_grows.<locals>.",func:=none,code:=.ref 842,frame:=some a,builtins:=0}
def rp (k:Nat) (b a d c:Addr):Code:=.compLoop MT k (.ref b) (.ref a) (NW c d)
def mF (k:Nat) (b a d c:Addr):Code:=.compStart MT k (.ref b) (.ref a) (NW c d)
def OY (P:Params) (t:P2) (a:P6):List DictEntry:=match a with
 |none=>[]
 |some v=>[dE P "pair" (t 2) v]
noncomputable def OZ (a:P6):Nat:=match a with
 |none=>1
 |some _=>2
def uA (P:Params) (t:P2) (b:Addr) (a:P6):Obj:={cls:=.type "dict",data:=.dict (dE P "pairs" (t 0) (.ref b)::OY P t a).toArray (OZ a)}
def tC (P:Params) (t:P2) (a:Option (Addr×Value)):Obj:=match a with
 |none=>{cls:=.type "dict",data:=.dict #[] 0}
 |some x=>uA P t x.1 (some x.2)
noncomputable def Pk (a:P6) (l:List (Nat×Tok)):List (Nat×Tok):=match a with
 |none=>l
 |some _=>[]
def Jy (a:P6) (t b:P2):Nat->Tok:=bl t ([]++xt (a.isNone) [(2,(b 0))])
def Jz (w:World) (b:Addr) (i:Nat) (c:P5) (j:Nat) (l:P5) (f:Nat) (g:P6) (h q:Addr) (t:P2) (B:P8):a7:={
 B:=λa=>B,Hd:=none,O:=oT [] (aC [([],BN b c i (.ref q)),([],bg l)]),k:=3,nn:=0,Pm:=1,H:=0x1010165030303000001640100,N:=23,
 cF:=λa=>rp 1 (a 0) (a 1) (a 2) h,oF:=λa=>[cN b i,aa l f,uA w.2 t b g],
 uF:=λa n e=>[cN b (i+1),aa (.ref q::l) (f+1),uA w.2 (Jy g t e) b (some (.ref q))],nF:=λa n e=>[],rF:=λa n e=>.again (rp 1 (a 0) (a 1) (a 2) h),idx:=[],Pn:=[0],Py:=cW b (aa c j),d:=40,u:=400,
 facts:=[true=true,l.length<=1000,true=true,c.reverse[i]? =some (.ref q)]}
theorem JA:(Jz w b i d e l f a g q t B).Runs w:=by intro c h j;cases a<;>kernel_rfl
def JB (w:World) (b:Addr) (i:Nat) (c:P5) (h:Nat) (l:P5) (e:Nat) (f:P6) (j:Addr) (t:P2) (B:P8):a7:={
 B:=λa=>B,Hd:=none,O:=oT [] (aC [([],BO b c i)]),k:=3,nn:=0,Pm:=0,H:=5497581469952,N:=14,
 cF:=λa=>rp 1 (a 0) (a 1) (a 2) j,oF:=λa=>[cN b i,aa l e,uA w.2 t b f],
 uF:=λa n g=>[xi i,aa l e,uA w.2 t b f],nF:=λa n g=>[],rF:=λa n g=>.end_ (.ok .next),idx:=[],Pn:=[],Py:=cW b (aa c h),d:=40,u:=400,
 facts:=[true=true,i=c.length]}
theorem JC:(JB w b i d e l f a g t B).Runs w:=by intro c h j;cases a<;>kernel_rfl
def Ed (w:World) (b:Addr) (i:Nat) (h:P5) (j:Nat) (l:P5) (c:Nat) (e:P6) (f:Addr) (t:P2) (B:P8):a7:={
 B:=λa=>B,Hd:=none,O:=oB [],k:=3,nn:=0,Pm:=0,H:=65536,N:=11,
 cF:=λa=>mF 1 (a 0) (a 1) (a 2) f,oF:=λa=>[cN b i,aa l c,uA w.2 t b e],
 uF:=λa n g=>[cN b i,aa l c,uA w.2 t b e],nF:=λa n g=>[],rF:=λa n g=>.again (rp 1 (a 0) (a 1) (a 2) f),idx:=[],Pn:=[],Py:=cW b (aa h j),d:=40,u:=400,
 facts:=[]}
theorem JD:(Ed (eK true w) b i xs nx l nl pv fr t B).Runs (eK true w):=by intro a c d;cases pv<;>kernel_rfl
def Ee (w:World) (b:Addr) (i:Nat) (h:P5) (j:Nat) (l:P5) (c:Nat) (e:P6) (f:Addr) (t:P2) (B:P8):a7:={
 B:=λa=>B,Hd:=none,O:=oB [],k:=3,nn:=0,Pm:=0,H:=0x1010001000101010000,N:=21,
 cF:=λa=>mF 1 (a 0) (a 1) (a 2) f,oF:=λa=>[cN b i,aa l c,uA w.2 t b e],
 uF:=λa n g=>[cN b i,aa l c,uA w.2 t b e],nF:=λa n g=>[],rF:=λa n g=>.again (rp 1 (a 0) (a 1) (a 2) f),idx:=[],Pn:=[],Py:=cW b (aa h j),d:=40,u:=400,
 facts:=[]}
theorem JE:(Ee (eK false w) b i xs nx l nl pv fr t B).Runs (eK false w):=by intro a c d;cases pv<;>kernel_rfl
section
noncomputable def hK (i l:Nat):Obj:={cls:=.type "range_iterator",data:=.fields #[.int (i:Int) 0,.int (l:Int) 0,.int 1 0]}
section
variable {w:World} {F:aA} {i l:Nat} {s:Shared} {A:Around} {E Q:Value->Shared->Prop} {I:Addr}
theorem xT (a:s.1.get? I=some (hK i (l+1))) (h:Q (.int (i:Int) s.toks) {s with heap:=(s.1.update I (Obj.mapFields (·.setIfInBounds 0 (rawInt ((i:Int)+1))))).update I (Obj.mapFields (·.setIfInBounds 1 (rawInt (((l+1:Nat):Int)-1)))),toks:=s.toks+1}):
  wpAny (model aX w) A (call (.builtin "range_iterator.__next__") [.ref I]) Q E s:=by
 have b:s.TypeIs (.ref I) "range_iterator":=⟨_,a,rfl⟩;refine call_meets PySem.F.slot_range_iterator_next b PySem.F.entry_range_iterator_next (PySem.F.args_range_iterator_next_1 _) (AutoRange.range_iterator___next___range_iterator_1 I (i:Int) ((l+1:Nat):Int) 1 (by lia)) ⟨a,?_⟩
 exact h
theorem oQ (c:A.handled=none) (b:s.1.get? I=some (hK i 0))
  (h:E (.ref (s.1.1.size+1)) {s with heap:=(s.1.push (az [])).push (i7 "StopIteration" s.1.1.size .none)}):
  wpAny (model aX w) A (call (.builtin "range_iterator.__next__") [.ref I]) Q E s:=by
 have d:s.TypeIs (.ref I) "range_iterator":=⟨_,b,rfl⟩;refine wpAny_call_entry PySem.F.slot_range_iterator_next d PySem.F.entry_range_iterator_next ?_ (PySem.F.args_range_iterator_next_1 _);show wpAny _ _ (field (.ref I) 0>>=_) _ _ s;refine wpAny_bind (wpAny_field b rfl (x:=.int (i:Int) 0) rfl ?_);show wpAny _ _ (field (.ref I) 1>>=_) _ _ s;refine wpAny_bind (wpAny_field b rfl (x:=.int ((0:Nat):Int) 0) rfl ?_);show wpAny _ _ (field (.ref I) 2>>=_) _ _ s;refine wpAny_bind (wpAny_field b rfl (x:=.int 1 0) rfl ?_);show wpAny _ _ (if ((0:Nat):Int)<=0 then _ else _) _ _ s
 rw [if_pos (by decide)]
 refine wpAny_bind (wpAny_rule ?_);refine wpAny_bind ?_;refine wpAny_bind ?_;dsimp only [newExc,newTuple];refine wpAny_bind (wpAny_newObj_type ?_ (by size_fits))
 refine wpAny_bind (m:=firstArgMember _ _) (wpAny_of_eq (a:=Value.none) (by first|rfl|(dsimp only [firstArgMember];rfl)) ?_)
 refine wpAny_newObj_type ?_ (by size_fits)
 dsimp only [raiseNew];refine wpAny_bind (wpAny_handled ?_);rw [show A.in1.handled=none from c]
 refine wpAny_bind (wpAny_pure (wpAny_throw ?_));have:=h;rw [<-aN s.1 (az [])] at this;exact this
def km (i l:Nat):aY:=λY a Y=>
 {need:=10,Po:=100,code:=.call (.builtin "range_iterator.__next__") ⟨[.ref (fA a 0)],[]⟩,fs:=[(fA a 0,hK i (l+1))],Pq:=[],wants:=[],
  upd:=λY Y=>[hK (i+1) l],nn:=0,new:=λY Y=>[],Pm:=1,res:=λY b=>.end_ (.ok (.ret (.int (i:Int) (b 0)))),gives:=λY Y=>[]}
theorem xU (c:Code) (d:Qa) (kn:Qb):(km i l c d kn).Ok w F:=by
 intro G _ C H _ _ A s R _ _ _ u g v x;have k:=g (fA d 0,hK i (l+1)) (by simp [km])
 refine aK.o (aq (xT k.1 ?_));have y:Heap.SameBut (fA d 0) s.1 (s.1.update (fA d 0) (Obj.mapFields (·.setIfInBounds 0 (rawInt ((i:Int)+1))))):=Heap.SameBut.update ..;have m:=y.trans (Heap.SameBut.update (h:=s.1.update (fA d 0) (Obj.mapFields (·.setIfInBounds 0 (rawInt ((i:Int)+1))))) (a:=fA d 0) (f:=Obj.mapFields (·.setIfInBounds 1 (rawInt (((l+1:Nat):Int)-1)))));have z:=Heap.get?_update_self (Obj.mapFields (·.setIfInBounds 0 (rawInt ((i:Int)+1)))) k.1 rfl;have t:=Heap.get?_update_self (Obj.mapFields (·.setIfInBounds 1 (rawInt (((l+1:Nat):Int)-1)))) z rfl;have B:Obj.mapFields (·.setIfInBounds 1 (rawInt (((l+1:Nat):Int)-1))) (Obj.mapFields (·.setIfInBounds 0 (rawInt ((i:Int)+1))) (hK i (l+1)))=hK (i+1) l:=by
  have:(((l+1:Nat):Int)-1)=(l:Int):=by lia
  rw [this];rfl
 rw [B] at t;refine x _ (λY=>0) (λY=>s.toks) F ⟨Le.refl F,λb o e=>?_,λY Y e=>.inl e⟩ (λY h=>absurd h (Nat.not_lt_zero _)) (λY h=>by cases h) ⟨λb o e D=>?_,λj p o n r Y=>?_,λY Y h=>by simp [km] at h,λY h=>absurd h (Nat.not_lt_zero _),λY h=>absurd h (Nat.not_lt_zero _),λY Y h=>absurd h (Nat.not_lt_zero _),?_,rfl,rfl,rfl,rfl⟩
 ·refine (m.2 b λq=>?_).trans (u b o e)
  rw [q] at e;have:=k.2;dsimp only at this;rw [this] at e;injection e
 ·exact (m.2 b λq=>D (by simp [km,q])).trans e
 ·match j,n,r with
  |0,n,r=>cases n;cases r;exact t
 ·exact Nat.le_of_eq m.1.symm
def B5 (i:Nat):aY:=λY a Y=>
 {need:=10,Po:=100,code:=.call (.builtin "range_iterator.__next__") ⟨[.ref (fA a 0)],[]⟩,fs:=[(fA a 0,hK i 0)],Pq:=[],wants:=[],hand:=some none,
  upd:=λY Y=>[hK i 0],nn:=2,new:=λn Y=>[az [],i7 "StopIteration" (n 0) .none],Pm:=0,res:=λn Y=>.end_ (.error (.ref (n 1))),gives:=λY Y=>[]}
theorem xV (c:Code) (a:Qa) (kn:Qb):(B5 i c a kn).Ok w F:=by
 intro z _ C m _ n A s R d _ _ g f p r;have t:m=none:=n none rfl;subst t;have k:=f (fA a 0,hK i 0) (.head _);refine aK.o (aq (oQ d k.1 ?_));have u:=a5 s s.toks [(fA a 0,hK i 0)] (λq v=>by cases List.mem_singleton.mp v;exact k.1) (λY=>0)
 have x:=u.push rfl (az []) rfl s.toks (λY=>s.1.1.size) (λY h=>absurd h (Nat.not_lt_zero _)) rfl;have y:=x.push rfl (i7 "StopIteration" s.1.1.size .none) rfl s.toks (lJ s.1.1.size) (λi B=>by
  have:i=0:=by lia
  subst this;rfl) (by show _=(Heap.push _ _).objs.size;simp only [aN];rfl)
 exact r _ (lJ s.1.1.size) (λY=>0) F ⟨Le.refl F,λb o e=>Heap.get?_push_of_some _ (Heap.get?_push_of_some _ (g b o e)),λY Y e=>.inl e⟩ (λj Y=>bq g (Nat.le_add_right _ _)) (λY h=>by cases h) y
end
end
section
def JF (w:World) (b:Addr) (i:Nat) (l:P5) (a:Nat) (c:P6) (t:P2):P7:=[cN b i,aa l a,uA w.2 t b c]
def MU (w:World) (b:Addr) (a:P2):P7:=[av,aa (ar (a 3)) (a 4),uA w.2 a b (some (.ref (a 5)))]
def MV (w:World) (F:aA) (B:P8) (g b:Addr) (a:P4) (c:Code) (f:P7) (d:List af):Prop:=
 ah aX w F 40 400 B none c (ab a f) (λY e=>MU w b e) 0 6 (λY Y=>[]) (λY Y=>.end_ (.ok .next)) (λY e=>[λF=>aM F (ar (e 3)) d])
noncomputable def O0:List (Nat⊕Nat):=[.inl 0,.inl 1,.inl 2]
section
variable {w:World} {F:aA} {B:P8} {a:P4} {fr b:Addr} {d:P5} {f:Nat}
theorem xW:∀(c:P5) {F:aA} (_:Le (top w.2) F) {a:P4} {t:P2} {i:Nat} {done l:P5} {m:Nat} {u:P6} {r j:List af},
  d.reverse=done++c->i=done.length->F b=some (aa d f)->aM F c r->aM F l j->l.length+c.length<=900->(c≠[]\/∃q,u=some (.ref q))->
  MV w F B fr b a (rp 1 (ae 3 a 0) (ae 3 a 1) (ae 3 a 2) fr) (JF w b i l m u t) (r.reverse++j)
 |[],F,A,a,t,i,done,l,m,u,r,j,C,E,v,y,D,n,T=>by
  cases y;obtain ⟨q,rfl⟩:∃q,u=some (.ref q):=by
   rcases T with h|h
   ·exact absurd rfl h
   ·exact h
  have G:i=d.length:=by
   have:=congrArg List.length C;simp at this;lia
  obtain ⟨e,U⟩:=cX D;have Y:=((JB w b i d f l m (some (.ref q)) fr t B).Pu A (bh (aI ⟨λ_ z=>xk (z _ _ v),trivial⟩)) JC (ag ⟨rfl,G,trivial⟩) a (hfro:=(bc v)));have h2:=(Y.giveUp 0 (o:=xi i) (λ_ _=>⟨_,rfl⟩) (λ_ _=>rfl) rfl (by show _<3;decide) (upd':=λ_ s=>[av,aa l m,uA w.2 t b (some (.ref q))]) (λ_ _=>rfl) (λ_ _=>Nat.le_refl _)).Pw (gives':=λ_ _=>[λH=>aM H l j]) λI s H z _ g J=>by
   cases List.mem_singleton.mp J;exact D.le z
  refine ah.Pt (λ_ s=>bl t [(3,e),(4,m),(5,q)]) h2 (λI s=>?_) (λ_ _=>rfl) (λ_ _=>rfl) (λI s=>?_)
  ·show [av,aa (ar e) m,_]=_
   rw [U];kernel_rfl
  ·show [λF=>aM F (ar e) _]=_
   rw [U];rfl
 |x::c,F,A,a,t,i,done,l,m,u,r,j,C,E,v,y,D,n,T=>by
  cases y with
  | @cons _ p _ r V y=>
  have L:=V;obtain ⟨q,_,_,rfl,_⟩:=L;simp only [List.length_cons] at n;have N:d.reverse[i]? =some (.ref q):=by rw [C,E];simp
  have O:d.reverse=(done++[.ref q])++c:=by rw [C];simp
  have Q:i+1=(done++[Value.ref q]).length:=by rw [E];simp
  have e:(p::r).reverse++j=r.reverse++(p::j):=by simp
  simp only [e];exact ah.PC O0 [1,2,3] ((Jz w b i d f l m u fr q t B).Pu A (bh (aI ⟨λ_ z=>xj (z _ _ v),λ_ _=>bS,trivial⟩)) JA (ag ⟨rfl,by lia,rfl,N,trivial⟩) a (hfro:=(bc v))) (λ_ _ s=>MU w b s)
   (λH I s k _=>xW c (A.trans k) O Q (k _ _ v) (y.imp λ_ _ h=>h.le k) (.cons (V.le k) (D.le k)) (by simp;lia) (.inr ⟨q,rfl⟩))
theorem xX (j:Le (top w.2) F) {t:P2} {l:P5} {nl:Nat} {pv:P6} {C c:List af} (k:F b=some (aa d f)) (m:aM F d C) (s:aM F l c) (o:l.length+d.length<=900) (u:C≠[]):
  MV w F B fr b a (mF 1 (ae 3 a 0) (ae 3 a 1) (ae 3 a 2) fr) (JF w b 0 l nl pv t) (C++c):=by
 have e:C.reverse.reverse++c=C++c:=by simp
 have n:∀h,Le F h->MV w h B fr b a (rp 1 (ae 3 a 0) (ae 3 a 1) (ae 3 a 2) fr) (JF w b 0 l nl pv t) (C++c):=λh g=>by
  simp only [<-e];exact xW d.reverse (j.trans g) (done:=[]) rfl rfl (g _ _ k) (m.le g).reverse (s.le g) (by simp;omega) (.inl (by
   intro q;have:d=[]:=by simpa using q
   rw [this] at m;cases m;exact u rfl))
 have R:∀r,eK r w=w->ah aX w F 40 400 B none (mF 1 (ae 3 a 0) (ae 3 a 1) (ae 3 a 2) fr) (ab a (JF w b 0 l nl pv t)) (λY Y=>JF w b 0 l nl pv t) 0 0 (λY Y=>[]) (λY Y=>.again (rp 1 (ae 3 a 0) (ae 3 a 1) (ae 3 a 2) fr)) (λY Y=>[]):=λr p=>by
  cases r with
  |true=>
   have r:=JD (w:=w) (b:=b) (i:=0) (xs:=d) (nx:=f) (l:=l) (nl:=nl) (pv:=pv) (fr:=fr) (t:=t) (B:=B);rw [p] at r;exact (Ed w b 0 d f l nl pv fr t B).Pu j cG r (ag (by dsimp only [Ed,ip])) a (hfro:=(bc k))
  |false=>
   have r:=JE (w:=w) (b:=b) (i:=0) (xs:=d) (nx:=f) (l:=l) (nl:=nl) (pv:=pv) (fr:=fr) (t:=t) (B:=B);rw [p] at r;exact (Ee w b 0 d f l nl pv fr t B).Pu j cG r (ag (by dsimp only [Ee,ip])) a (hfro:=(bc k))
 exact ah.seq (R _ (gM w)) (λY Y=>rfl) (λY Y=>rfl) λh g v x=>n h g
noncomputable def B6 (o:Obj) (i:Nat):P6:=match o.data with
 | .dict c _=>match c.toList.drop i with
  |e::_=>some e.val
  |[]=>none
 |_=>none
def B7 (w:World) (b:Addr) (l:P5) (C g:List af):aY:=λc e Y=>
 {need:=40,Po:=400,code:=mF 1 (fA e 0) (fA e 1) (fA e 2) (oC c),fs:=[(fA e 0,cN b 0),(fA e 1,aa l (Pr (fO e 1))),(fA e 2,uA w.2 (aE (fO e 2)) b (B6 (fO e 2) 1))],
  Pq:=[C≠[]/\l.length+C.length<=900],wants:=[],hand:=some none,
  upd:=λY h=>MU w b h,nn:=0,new:=λY Y=>[],Pm:=6,res:=λY Y=>.end_ (.ok .next),gives:=λY h=>[λF=>aM F (ar (h 3)) (C++g)]}
theorem xY (i:Le (top w.2) F) {l:P5} {C c:List af} (j:F b=some (aa d f)) (g:aM F d C) (k:aM F l c) (y:Code) (e:Qa) (kn:Qb):(B7 w b l C c y e kn).Ok w F:=by
 intro m r n H s o;obtain ⟨p,u⟩:C≠[]/\l.length+C.length<=900:=m _ (.head _);have q:H=none:=o none rfl;subst q;have h:=g.len;exact ah.Pu (xX (a:=fA e) (fr:=oC y) (B:=n) i (t:=aE (fO e 2)) (nl:=Pr (fO e 1)) (pv:=B6 (fO e 2) 1) j g k (by lia) p)
end
end
def JG (t a:P2):Nat->Tok:=bl t [(0,(a 3)),(2,(a 4))]
def JH (w:World) (i:Nat) (g:P5) (h:Nat) (l:P5) (m:Nat) (o:Option (Addr×Value)) (j b:Addr) (c:P5) (p:Nat) (C f:List af) (t:P2) (B:P8):a7:={
 B:=λa=>B,Hd:=none,O:=oT [] (aC [([],hG g i (.ref b)),([],B7 w b l C f)]),k:=4,nn:=0,Pm:=5,H:=aQ 0x103029f6505e584f0f0bfdeb8b1,N:=33,
 cF:=λa=>rp 0 (a 0) (a 2) (a 3) j,oF:=λa=>[cN (a 1) i,aa g h,aa l m,tC w.2 t o],
 uF:=λa n e=>[cN (a 1) (i+1),aa g h,aa (ar (e 0)) (e 1),tC w.2 (JG t e) (some (b,.ref (e 2)))],nF:=λa n e=>[],rF:=λa n e=>.again (rp 0 (a 0) (a 2) (a 3) j),idx:=[],Pn:=[4,5,6,1,3],Py:=cW b (aa c p),gF:=λa n e=>[λF=>aM F (ar (e 0)) (C++f)],Pz:=[0],d:=60,u:=600,
 facts:=[true=true,C≠[]/\l.length+C.length<=900,true=true,g.reverse[i]? =some (.ref b)]}
theorem JI:(JH w i f g l h a j b c k C d t B).Runs w:=by intro e m n;cases a<;>kernel_rfl
def JJ (w:World) (i:Nat) (b:P5) (c:Nat) (l:P5) (e:Nat) (f:Option (Addr×Value)) (h:Addr) (t:P2) (B:P8):a7:={
 B:=λa=>B,Hd:=none,O:=oT [] (aC [([],m7 b i)]),k:=4,nn:=0,Pm:=0,H:=0x6010002640100,N:=14,
 cF:=λa=>rp 0 (a 0) (a 2) (a 3) h,oF:=λa=>[cN (a 1) i,aa b c,aa l e,tC w.2 t f],
 uF:=λa n g=>[xi i,aa b c,aa l e,tC w.2 t f],nF:=λa n g=>[],rF:=λa n g=>.end_ (.ok .next),idx:=[],Pn:=[],d:=60,u:=600,
 facts:=[true=true,i=b.length]}
theorem JK:(JJ w i c d l e a f t B).Runs w:=by intro b g h;cases a<;>kernel_rfl
def Ef (w:World) (i:Nat) (b:P5) (c:Nat) (l:P5) (e:Nat) (f:Option (Addr×Value)) (g:Addr) (t:P2) (B:P8):a7:={
 B:=λa=>B,Hd:=none,O:=oB [],k:=4,nn:=0,Pm:=0,H:=65536,N:=11,
 cF:=λa=>mF 0 (a 0) (a 2) (a 3) g,oF:=λa=>[cN (a 1) i,aa b c,aa l e,tC w.2 t f],
 uF:=λa n h=>[cN (a 1) i,aa b c,aa l e,tC w.2 t f],nF:=λa n h=>[],rF:=λa n h=>.again (rp 0 (a 0) (a 2) (a 3) g),idx:=[],Pn:=[],d:=60,u:=600,
 facts:=[]}
theorem JL:(Ef (eK true w) i xs nx l nl dv fr t B).Runs (eK true w):=by intro a b c;cases dv<;>kernel_rfl
def Eg (w:World) (i:Nat) (b:P5) (c:Nat) (l:P5) (e:Nat) (f:Option (Addr×Value)) (g:Addr) (t:P2) (B:P8):a7:={
 B:=λa=>B,Hd:=none,O:=oB [],k:=4,nn:=0,Pm:=0,H:=0x1010001000101010000,N:=21,
 cF:=λa=>mF 0 (a 0) (a 2) (a 3) g,oF:=λa=>[cN (a 1) i,aa b c,aa l e,tC w.2 t f],
 uF:=λa n h=>[cN (a 1) i,aa b c,aa l e,tC w.2 t f],nF:=λa n h=>[],rF:=λa n h=>.again (rp 0 (a 0) (a 2) (a 3) g),idx:=[],Pn:=[],d:=60,u:=600,
 facts:=[]}
theorem JM:(Eg (eK false w) i xs nx l nl dv fr t B).Runs (eK false w):=by intro a b c;cases dv<;>kernel_rfl
section
noncomputable def KD (a:Bool) (j k:Nat):Option (Addr×Value):=match a with
 |true=>some (j,.ref k)
 |false=>none
def E5 (w:World) (b:P5) (c i:Nat) (l:P5) (d:Nat) (e:Option (Addr×Value)) (t:P2) (a:P4):P7:=[cN (a 1) i,aa b c,aa l d,tC w.2 t e]
def MW (w:World) (b:Bool) (c:P5) (d:Nat) (a:P2):P7:=[av,aa c d,aa (ar (a 3)) (a 4),tC w.2 a (KD b (a 5) (a 6))]
def MX (w:World) (F:aA) (B:P8) (i:Addr) (e:Bool) (f:P5) (g:Nat) (a:P4) (c:Code) (h:P7) (b:List af):Prop:=
 ah aX w F 60 600 B none c (ab a h) (λY d=>MW w e f g d) 0 7 (λY Y=>[]) (λY Y=>.end_ (.ok .next)) (λY d=>[λF=>aM F (ar (d 3)) b])
section
variable {w:World} {F:aA} {B:P8} {a:P4} {fr:Addr} {d:P5} {f:Nat}
theorem xZ:∀(p:P5) {F:aA} (_:Le (top w.2) F) {a:P4} {t:P2} {i:Nat} {done l:P5} {v:Nat} {u:Option (Addr×Value)} {hb:Bool} {m:List (List af)} {r:List af},
  d.reverse=done++p->i=done.length->cq F p m->aM F l r->r.length+m.flatten.length<=900->(∀C∈m,C≠[])->
  (match hb with|true=>(p≠[]\/∃j k,u=some (j,.ref k))|false=>p=[]/\u=none)->
  MX w F B fr hb d f a (rp 0 (ae 4 a 0) (ae 4 a 2) (ae 4 a 3) fr) (E5 w d f i l v u t (ae 4 a)) (m.reverse.flatten++r)
 |[],F,E,a,t,i,done,l,v,u,hb,m,r,I,N,G,H,y,z,J=>by
  cases G;have O:i=d.length:=by
   have:=congrArg List.length I;simp at this;lia
  obtain ⟨e,he⟩:=cX H;obtain ⟨j,k,hk⟩:∃j k,KD hb j k=u:=by
   cases hb with
   |false=>exact ⟨0,0,J.2.symm⟩
   |true=>
    rcases J with h|⟨j,k,rfl⟩
    ·exact absurd rfl h
    ·exact ⟨j,k,rfl⟩
  have h1:=((JJ w i d f l v u fr t B).Pu E (bh (aI ⟨λ_ _=>lK,trivial⟩)) JK (ag ⟨rfl,O,trivial⟩) a);have h2:=(h1.giveUp 0 (o:=xi i) (λ_ _=>⟨_,rfl⟩) (λ_ _=>rfl) rfl (by show _<4;decide) (upd':=λ_ A=>[av,aa d f,aa l v,tC w.2 t u]) (λ_ _=>rfl) (λ_ _=>Nat.le_refl _)).Pw (gives':=λ_ _=>[λD=>aM D l r]) λQ A D L _ g T=>by
   cases List.mem_singleton.mp T;exact H.le L
  refine ah.Pt (λ_ A=>bl t [(3,e),(4,v),(5,j),(6,k)]) h2 (λQ A=>?_) (λ_ _=>rfl) (λ_ _=>rfl) (λQ A=>?_)
  ·show [av,aa d f,aa (ar e) v,tC w.2 (ae 7 (bl t [(3,e),(4,v),(5,j),(6,k)])) (KD hb j k)]=_
   rw [he,hk];cases u<;>kernel_rfl
  ·show [λF=>aM F (ar e) _]=_
   rw [he];rfl
 |x::p,F,E,a,t,i,done,l,v,u,hb,m,r,I,N,G,H,y,z,J=>by
  cases G with
  | @cons _ c _ m hp G=>
  obtain ⟨b,lc,n,rfl,L,U⟩:=hp;simp only [List.flatten_cons,List.length_append] at y;have V:d.reverse[i]? =some (.ref b):=by rw [I,N];simp
  have Y:d.reverse=(done++[.ref b])++p:=by rw [I];simp
  have Pm:i+1=(done++[Value.ref b]).length:=by rw [N];simp
  have e:(c::m).reverse.flatten++r=m.reverse.flatten++(c++r):=by simp
  have Po:=H.len;have Pn:hb=true:=by
   cases hb with
   |true=>rfl
   |false=>exact absurd J.1 (by simp)
  subst Pn;simp only [e];exact ah.PC My [1,2,3,4] ((JH w i d f l v u fr b lc n c r t B).Pu E (bh (aI ⟨λ_ _=>lI,λD s=>xY (E.trans s) (s _ _ L) (U.le s) (H.le s),trivial⟩)) JI (ag ⟨rfl,⟨z _ (.head _),by lia⟩,rfl,V,trivial⟩) a (hfro:=(bc L))) (λ_ _ A=>MW w true d f A)
   (λD Q A s hg=>xZ p (hb:=true) (E.trans s) Y Pm (G.imp λ_ _ h=>h.le s) (hg _ (by exact List.mem_cons_self) D (Le.refl D)) (by rw [List.length_append];lia) (λq hq=>z q (by simp [hq])) (Or.inr ⟨b,_,rfl⟩))
theorem x6 (h:Le (top w.2) F) {L:List (List af)} {j:Bool} (k:cq F d L) (o:L.flatten.length<=900) (q:∀C∈L,C≠[]) (b:j= !L.isEmpty):
  MX w F B fr j d f a (mF 0 (ae 4 a 0) (ae 4 a 2) (ae 4 a 3) fr) (E5 w d f 0 [] 0 none aO (ae 4 a)) L.flatten:=by
 have e:L.reverse.reverse.flatten++[]=L.flatten:=by simp
 have u:=k.len;have m:L.reverse.flatten.length=L.flatten.length:=by simp [List.length_flatten,List.sum_reverse]
 have n:∀c,Le F c->MX w c B fr j d f a (rp 0 (ae 4 a 0) (ae 4 a 2) (ae 4 a 3) fr) (E5 w d f 0 [] 0 none aO (ae 4 a)) L.flatten:=λc g=>by
  simp only [<-e];refine xZ d.reverse (h.trans g) (done:=[]) rfl rfl (cq.le g (ck.reverse k)) .nil (by show 0+_<=_;simp only [m];lia) (λC s=>q C (List.mem_reverse.mp s)) ?_
  cases k with
  |nil=>subst b;exact ⟨rfl,rfl⟩
  |cons _ _=>subst b;exact .inl (by simp)
 have R:∀r,eK r w=w->ah aX w F 60 600 B none (mF 0 (ae 4 a 0) (ae 4 a 2) (ae 4 a 3) fr) (ab a (E5 w d f 0 [] 0 none aO (ae 4 a))) (λY Y=>E5 w d f 0 [] 0 none aO (ae 4 a)) 0 0 (λY Y=>[]) (λY Y=>.again (rp 0 (ae 4 a 0) (ae 4 a 2) (ae 4 a 3) fr)) (λY Y=>[]):=λr p=>by
  cases r with
  |true=>
   have r:=JL (w:=w) (i:=0) (xs:=d) (nx:=f) (l:=[]) (nl:=0) (dv:=none) (fr:=fr) (t:=aO) (B:=B);rw [p] at r;exact (Ef w 0 d f [] 0 none fr aO B).Pu h cG r (ag (by dsimp only [Ef,ip])) a
  |false=>
   have r:=JM (w:=w) (i:=0) (xs:=d) (nx:=f) (l:=[]) (nl:=0) (dv:=none) (fr:=fr) (t:=aO) (B:=B);rw [p] at r;exact (Eg w 0 d f [] 0 none fr aO B).Pu h cG r (ag (by dsimp only [Eg,ip])) a
 exact ah.seq (R _ (gM w)) (λY Y=>rfl) (λY Y=>rfl) λc g v x=>n c g
def jk (w:World) (g:Bool) (L:List (List af)):aY:=λc b Y=>
 {need:=60,Po:=600,code:=mF 0 (fA b 0) (fA b 2) (fA b 3) (oC c),fs:=[(fA b 0,cN (fA b 1) 0),(fA b 1,fO b 1),(fA b 2,aa [] 0),(fA b 3,tC w.2 aO none)],
  Pq:=[(g= !L.isEmpty)/\(∀C∈L,C≠[])/\L.flatten.length<=900],wants:=[d8 (fO b 1) L],hand:=some none,
  upd:=λY e=>[av,fO b 1,aa (ar (e 3)) (e 4),tC w.2 e (KD g (e 5) (e 6))],nn:=0,new:=λY Y=>[],Pm:=7,res:=λY Y=>.end_ (.ok .next),gives:=λY e=>[cw (aa (ar (e 3)) (e 4)) L.flatten]}
theorem x7 (j:Le (top w.2) F) {c:Bool} {L:List (List af)} (y:Code) (b:Qa) (kn:Qb):(jk w c L y b kn).Ok w F:=by
 intro k l m H z o;obtain ⟨p,q,r⟩:(c= !L.isEmpty)/\(∀C∈L,C≠[])/\L.flatten.length<=900:=k _ (.head _);obtain ⟨d,n,e,s⟩:=l _ (List.mem_singleton.mpr rfl) F (Le.refl F);have t:H=none:=o none rfl;subst t;have u:(jk w c L y b kn).fs=ab (fA b) (E5 w d n 0 [] 0 none aO (fA b)):=by
  unfold jk;dsimp only;rw [e];rfl
 have v:(jk w c L y b kn).upd=λY i=>MW w c d n i:=by
  unfold jk;dsimp only;rw [e];rfl
 rw [u,v];exact ah.Pu ((x6 (a:=fA b) (fr:=oC y) (B:=m) j s r q p).Pw λA i D Y x g h=>by
  cases List.mem_singleton.mp h;exact ⟨_,_,rfl,x _ List.mem_cons_self⟩)
end
end
section
def O1 (P:Params) (t:P2) (a:Option (Nat×Addr×Addr×Bool×Addr)):List DictEntry:=match a with
 |none=>[]
 |some (s,g,d,r,n)=>[dE P "size" (t 6) (.int (s:Int) (t 7)),dE P "given" (t 8) (.ref g),dE P "told" (t 10) (.ref d),dE P "refused" (t 12) (.bool r),dE P "new" (t 14) (.ref n)]
def NX (P:Params) (t:P2) (a:P1) (b:Addr) (c:Bool) (d:Option (Nat×Addr×Addr×Bool×Addr)):List DictEntry:=
 [dE P "text" (t 0) (.str (mk a) (t 1)),dE P "old" (t 2) (.ref b),dE P "before" (t 4) (.bool c)]++O1 P t d
def mG (P:Params) (t:P2) (a:P1) (b:Addr) (c:Bool) (d:Option (Nat×Addr×Addr×Bool×Addr)) (e:Array P6):Obj:=aS (NX P t a b c d).toArray (NX P t a b c d).length e
def mc (a:P1) (L:List (List af)) (b:Bool):Prop:=∃f,zX a f/\f.rf=b/\f.L.filter iz=L
section
variable {w:World} {F:aA} {b:P1} {L:List (List af)} {i rd m g:Bool} {d:P5} {O N:List af}
def me (w:World) (rd:Bool) (b:P1) (L:List (List af)) (i:Bool):aY:=λc a Y=>
 {need:=200,Po:=2000,code:=.call (.ref 824) ⟨[.str (mk b) (aR (bD c 0))],[]⟩,fs:=[(fA a 0,aS (bE (fO a 0)) (bF (fO a 0)) (dN rd (fA a 1))),(fA a 1,aS (bE (fO a 1)) (bF (fO a 1)) (dh rd)),(fA a 2,fO a 2)],
  Pq:=[mc b L i],wants:=[],below:=some (MA (.ref (fA a 2)) (fA a)),hand:=some none,
  upd:=λY Y=>Ku (bE (fO a 0)) (bF (fO a 0)) (bE (fO a 1)) (bF (fO a 1)) (i||rd) (fA a)++[fO a 2],nn:=2,new:=λn e=>[az [.ref (n 1),.bool i],aa (ar (e 0)) (e 1)],Pm:=2,res:=λn Y=>.end_ (.ok (.ret (.ref (n 0)))),gives:=λY e=>[d8 (aa (ar (e 0)) (e 1)) L]}
theorem uB (j:Le (top w.2) F) (y:Code) (c:Qa) (kn:Qb):(me w rd b L i y c kn).Ok w F:=by
 intro k p C H l n;obtain ⟨f,h,e,o⟩:mc b L i:=k _ (.head _);subst e;subst o;have e:H=none:=n none rfl;subst e;rw [l _ rfl];exact ah.Pu ((qA (a:=fA c) (it:=.ref (fA c 2)) (x0:=aR (bD y 0)) (eg:=bE (fO c 0)) (ng:=bF (fO c 0)) (el:=bE (fO c 1)) (nlw:=bF (fO c 1)) (rd:=rd) j h).frame [fO c 2] (λY Y=>rfl))
def fD (d:P5) (O N:List af) (m rd g:Bool):aY:=λY a Y=>
 {need:=150,Po:=1500,code:=.call (.ref 838) ⟨[.ref (fA a 0),.ref (fA a 1),.bool g],[]⟩,
  fs:=[(fA a 0,aa d (Pr (fO a 0))),(fA a 1,fO a 1),(fA a 2,aS (bE (fO a 2)) (bF (fO a 2)) (dN rd (fA a 3))),(fA a 3,aS (bE (fO a 3)) (bF (fO a 3)) (dh rd)),(fA a 4,fO a 4)],
  Pq:=[(udB O N=m/\iG O N g/\O.length<=890/\N.length<=890)/\(∀q∈O,aB q)/\∀q∈N,aB q],wants:=[cw (fO a 1) N],below:=some (MQ (.ref (fA a 4)) (fA a)),hand:=some none,
  upd:=λY Y=>[aa d (Pr (fO a 0)),fO a 1,aS (bE (fO a 2)) (bF (fO a 2)) (dN (m||rd) (fA a 3)),aS (bE (fO a 3)) (bF (fO a 3)) (dh (m||rd)),fO a 4],nn:=0,new:=λY Y=>[],Pm:=0,res:=λY Y=>.end_ (.ok (.ret (.bool true))),gives:=λY Y=>[]}
theorem uC (h:Le (top w.2) F) (j:aM F d O) (y:Code) (c:Qa) (kn:Qb):(fD d O N m rd g y c kn).Ok w F:=by
 intro k l C H o p;obtain ⟨⟨r,s,t,u⟩,v,x⟩:(udB O N=m/\iG O N g/\O.length<=890/\N.length<=890)/\(∀q∈O,aB q)/\∀q∈N,aB q:=k _ (.head _);obtain ⟨f,n,e,z⟩:=l _ (List.mem_singleton.mpr rfl) F (Le.refl F);have A:H=none:=p none rfl;subst A;rw [o _ rfl];have B:(fD d O N m rd g y c kn).fs=ab (fA c) (E4 d f (Pr (fO c 0)) n (bE (fO c 2)) (bF (fO c 2)) (bE (fO c 3)) (bF (fO c 3)) rd (fA c)++[fO c 4]):=by
  unfold fD;dsimp only;rw [e];rfl
 have D:(fD d O N m rd g y c kn).upd=λY Y=>E4 d f (Pr (fO c 0)) n (bE (fO c 2)) (bF (fO c 2)) (bE (fO c 3)) (bF (fO c 3)) (m||rd) (fA c)++[fO c 4]:=by
  unfold fD;dsimp only;rw [e];rfl
 rw [B,D];exact ah.Pu ((mb (a:=fA c) (it:=.ref (fA c 4)) h j z v x t u r s).frame [fO c 4] (λY Y=>rfl))
end
end
def B8 (b:Option (Nat×Addr×Addr×Bool×Addr)) (t a:P2):Nat->Tok:=bl t ([(7,(a 1))]++xt (b.isNone) [(6,(a 0)),(8,(a 2)),(10,(a 3)),(12,(a 4)),(14,(a 5))])
def JN (w:World) (b:P1) (i l:Nat) (e:P5) (f:Nat) (g:Array DictEntry) (h:Nat) (rd:Bool) (j:Nat) (O:List af) (L:List (List af)) (rf m:Bool) (o:Option (Nat×Addr×Addr×Bool×Addr)) (t:P2):a7:={
 B:=λa=>[eT (a 0),d5 (a 1),d6],Hd:=none,O:=oT [mk (b.take i)] (aC [([],km i l),([],gh (b.take i) j L),([],me w rd (b.take i) L rf),([1,0],fC L),([1],jk w false L),([0],fD e O L.flatten m (rf||rd) false)]),k:=5,nn:=3,Pm:=13,H:=aQ 0xad8801848dc303056988b1ba9dc40f070e04680fc184b0010a07026701080b089d9d88c5a90aa9000c00eb0aa9000c00eb0aa9000c00a9c9840a968d9766c1c89d8800040602658ec89d88a5640300,N:=192,
 cF:=λa=>bO (.ref (a 2)) (a 0),oF:=λa=>[mG w.2 t b (a 3) false o (dN rd (a 1)),aS g h (dh rd),hK i (l+1),aa e f,dk j],
 uF:=λa n c=>[mG w.2 (B8 o t c) b (n 0) rf (some (i,n 1,n 2,rf,n 0)) (dN (m||(rf||rd)) (a 1)),aS g h (dh (m||(rf||rd))),hK (i+1) l,aa e f,dk (c 6)],nF:=λa n c=>[aa (ar (c 7)) (c 8),aa (ar (c 9)) (c 10),aa (ar (c 11)) (c 12)],rF:=λa n c=>.again (bO (.ref (a 2)) (a 0)),idx:=[15,7,10],Pn:=[1,0,6,10,11,19,3,15,16,4,5,8,9],gF:=λa n c=>[cw (aa (ar (c 7)) (c 8)) L.flatten,dD (c 6)],Pz:=[0,3],d:=300,u:=3000,
 facts:=[true=true,(udB O L.flatten=m/\iG O L.flatten false/\O.length<=890/\L.flatten.length<=890)/\(∀q∈O,aB q)/\∀q∈L.flatten,aB q,true=true,(false= !L.isEmpty)/\(∀C∈L,C≠[])/\L.flatten.length<=900,true=true,∀C∈L,∀q∈C,aB q,true=true,mc (b.take i) L rf,aD (mk b),ak .none,ak (.int ((i:Int):Int) 0),Txt.slice (mk b) none (some ((i:Int):Int))=(mk (b.take i)),true=true,ey (b.take i) L/\bw (b.take i)/\(b.take i).length<=900,aD (mk b),ak .none,ak (.int ((i:Int):Int) 0),Txt.slice (mk b) none (some ((i:Int):Int))=(mk (b.take i)),true=true]}
theorem JO {b:P5} {rd:Bool} {c:Nat}:(JN w a i l b f g h rd c O L j m d t).PB 4 78 w:=by intro e k n;cases d<;>kernel_rfl
def JP (w:World) (b:P1) (i l:Nat) (e:P5) (f:Nat) (g:Array DictEntry) (h:Nat) (rd:Bool) (j:Nat) (O:List af) (L:List (List af)) (rf m:Bool) (o:Option (Nat×Addr×Addr×Bool×Addr)) (t:P2):a7:={
 B:=λa=>[eT (a 0),d5 (a 1),d6],Hd:=none,O:=oT [mk (b.take i)] (aC [([],km i l),([],gh (b.take i) j L),([],me w rd (b.take i) L rf),([1,0],fC L),([1],jk w true L),([0],fD e O L.flatten m (rf||rd) false)]),k:=5,nn:=3,Pm:=13,H:=aQ 0xad8801848dc303056988b1bababa9dc40f070e04680fc184b0010a07026701080b089d9d88c5a90aa9000c00eb0aa9000c00eb0aa9000c00a9c9840a968d9766c1c89d8800040602658ec89d88a5640300,N:=200,
 cF:=λa=>bO (.ref (a 2)) (a 0),oF:=λa=>[mG w.2 t b (a 3) false o (dN rd (a 1)),aS g h (dh rd),hK i (l+1),aa e f,dk j],
 uF:=λa n c=>[mG w.2 (B8 o t c) b (n 0) rf (some (i,n 1,n 2,rf,n 0)) (dN (m||(rf||rd)) (a 1)),aS g h (dh (m||(rf||rd))),hK (i+1) l,aa e f,dk (c 6)],nF:=λa n c=>[aa (ar (c 7)) (c 8),aa (ar (c 9)) (c 10),aa (ar (c 11)) (c 12)],rF:=λa n c=>.again (bO (.ref (a 2)) (a 0)),idx:=[15,7,10],Pn:=[1,0,6,10,11,19,3,15,16,4,5,8,9],gF:=λa n c=>[cw (aa (ar (c 7)) (c 8)) L.flatten,dD (c 6)],Pz:=[0,3],d:=300,u:=3000,
 facts:=[true=true,(udB O L.flatten=m/\iG O L.flatten false/\O.length<=890/\L.flatten.length<=890)/\(∀q∈O,aB q)/\∀q∈L.flatten,aB q,true=true,(true= !L.isEmpty)/\(∀C∈L,C≠[])/\L.flatten.length<=900,true=true,∀C∈L,∀q∈C,aB q,true=true,mc (b.take i) L rf,aD (mk b),ak .none,ak (.int ((i:Int):Int) 0),Txt.slice (mk b) none (some ((i:Int):Int))=(mk (b.take i)),true=true,ey (b.take i) L/\bw (b.take i)/\(b.take i).length<=900,aD (mk b),ak .none,ak (.int ((i:Int):Int) 0),Txt.slice (mk b) none (some ((i:Int):Int))=(mk (b.take i)),true=true]}
theorem JQ {b:P5} {rd:Bool} {c:Nat}:(JP w a i l b f g h rd c O L j m d t).PB 4 78 w:=by intro e k n;cases d<;>kernel_rfl
def JR (t a:P2):Nat->Tok:=bl t [(7,(a 0))]
def JS (w:World) (b:P1) (i l:Nat) (e:P5) (f:Nat) (g:Array DictEntry) (h:Nat) (rd:Bool) (j:Nat) (O:List af) (L:List (List af)) (rf m:Bool) (o:Nat) (x2 x3:Addr) (x4:Bool) (p:Addr) (t:P2):a7:={
 B:=λa=>[eT (a 0),d5 (a 1),d6],Hd:=none,O:=oT [mk (b.take i)] (aC [([],km i l),([],gh (b.take i) j L),([],me w rd (b.take i) L rf),([1,0],fC L),([1],jk w true L),([0],fD e O L.flatten m (rf||rd) (!rf))]),k:=5,nn:=3,Pm:=8,H:=aQ 0xad8801848dc3030569889d00bababa9dc40f070e04680fc184b0010a07026701080b089d9d88c5a90aa9000c00eb0aa9000c00eb0aa9000c00a9c9840a968d9766c1c89d8800040602658ec89d88a5640300,N:=203,
 cF:=λa=>bO (.ref (a 2)) (a 0),oF:=λa=>[mG w.2 t b (a 3) true (some (o,x2,x3,x4,p)) (dN rd (a 1)),aS g h (dh rd),hK i (l+1),aa e f,dk j],
 uF:=λa n c=>[mG w.2 (JR t c) b (n 0) rf (some (i,n 1,n 2,rf,n 0)) (dN (m||(rf||rd)) (a 1)),aS g h (dh (m||(rf||rd))),hK (i+1) l,aa e f,dk (c 1)],nF:=λa n c=>[aa (ar (c 2)) (c 3),aa (ar (c 4)) (c 5),aa (ar (c 6)) (c 7)],rF:=λa n c=>.again (bO (.ref (a 2)) (a 0)),idx:=[15,7,10],Pn:=[0,3,15,16,4,5,8,9],gF:=λa n c=>[cw (aa (ar (c 2)) (c 3)) L.flatten,dD (c 1)],Pz:=[0,3],d:=300,u:=3000,
 facts:=[true=true,(udB O L.flatten=m/\iG O L.flatten (!rf)/\O.length<=890/\L.flatten.length<=890)/\(∀q∈O,aB q)/\∀q∈L.flatten,aB q,true=true,(true= !L.isEmpty)/\(∀C∈L,C≠[])/\L.flatten.length<=900,true=true,∀C∈L,∀q∈C,aB q,true=true,mc (b.take i) L rf,aD (mk b),ak .none,ak (.int ((i:Int):Int) 0),Txt.slice (mk b) none (some ((i:Int):Int))=(mk (b.take i)),true=true,ey (b.take i) L/\bw (b.take i)/\(b.take i).length<=900,aD (mk b),ak .none,ak (.int ((i:Int):Int) 0),Txt.slice (mk b) none (some ((i:Int):Int))=(mk (b.take i)),true=true]}
theorem JT {b:P5} {rd:Bool} {c:Nat}:(JS w a i l b f g h rd c O L d m j k n o p t).PB 4 78 w:=by intro e q r;cases d<;>kernel_rfl
def JU (w:World) (b:P1) (i:Nat) (c:P5) (e:Nat) (f:Array DictEntry) (g:Nat) (rd:Bool) (h j:Nat) (x2 x3:Addr) (x4:Bool) (l:Addr) (m:Bool) (t:P2):a7:={
 B:=λa=>[eT (a 0),d5 (a 1),d6],Hd:=none,O:=oT [] (aC [([],B5 i)]),k:=5,nn:=0,Pm:=0,H:=7705194660608,N:=15,
 cF:=λa=>bO (.ref (a 2)) (a 0),oF:=λa=>[mG w.2 t b (a 3) m (some (j,x2,x3,x4,l)) (dN rd (a 1)),aS f g (dh rd),hK i 0,aa c e,dk h],
 uF:=λa n o=>[mG w.2 t b (a 3) m (some (j,x2,x3,x4,l)) (dN rd (a 1)),aS f g (dh rd),hK i 0,aa c e,dk h],nF:=λa n o=>[],rF:=λa n o=>.end_ (.ok .next),idx:=[],Pn:=[],d:=300,u:=3000,
 facts:=[true=true]}
theorem JV {b:P5} {rd:Bool} {c:Nat}:(JU w a i b e f g rd c h j k l m n t).PB 4 78 w:=by intro d o p;kernel_rfl
section
inductive GW (text:P1):Nat->Nat->List af->Bool->Prop
 |stop (i:Nat) (O:List af) (bf:Bool):GW text i 0 O bf
 |turn (i l:Nat) (O:List af) (bf:Bool) (L:List (List af)) (rf:Bool):i<=text.length->ey (text.take i) L->mc (text.take i) L rf->(∀C∈L,C≠[])->(∀C∈L,∀q∈C,aB q)->L.flatten.length<=890->
   iG O L.flatten (bf&& !rf)->(bf=true->L≠[])->GW text (i+1) l L.flatten rf->GW text i (l+1) O bf
noncomputable def bT (t:Tok):Bool:=match t with
 |0=>false
 |_=>true
def MY (a:P4):P8:=[eT (a 0),d5 (a 1),d6]
def MZ (w:World) (t:P2) (b:P1) (i l:Nat) (c:Bool) (d:Option (Nat×Addr×Addr×Bool×Addr)) (e:P5) (f:Nat) (g:Array DictEntry) (h:Nat) (rd:Bool) (j:Nat) (a:P4):P7:=
 [mG w.2 t b (a 3) c d (dN rd (a 1)),aS g h (dh rd),hK i l,aa e f,dk j]
def JW (b:Array DictEntry) (c:Nat) (a:P2):P7:=[av,aS b c (dh (bT (a 0))),av,av,dk (a 1)]
noncomputable def B9 (b a:Tok) (i:Nat):Tok:=match i with
 |0=>b
 |_=>a
def NY (w:World) (F:aA) (b:Array DictEntry) (c:Nat) (a:P4) (d:P7):Prop:=
 ah aX w F 300 3000 (MY (ae 5 a)) none (bO (.ref (ae 5 a 2)) (ae 5 a 0)) (ab a d) (λY e=>JW b c e) 0 2 (λY Y=>[]) (λY Y=>.end_ (.ok .next)) (λY Y=>[])
noncomputable def uD:List (Nat⊕Nat):=[.inl 0,.inl 1,.inl 2,.inr 0,.inl 4]
section
variable {w:World} {F:aA} {b:P1} {el:Array DictEntry} {nw:Nat} {os:P5} {O N:List af} {L:List (List af)} {d m g rd f:Bool} {st i l:Nat}
theorem x8 {a:P5} {n:Nat} (h:cw (aa a n) N F):aM F a N:=by
 obtain ⟨c,k,e,h⟩:=h;have:a=c:=by
  have:=congrArg (λo:Obj=>match o.data with| .seq j _=>j.toList|_=>[]) e
  simpa [aa,bA] using this
 rw [this];exact h
theorem M0 (h:Le (top w.2) F) (j:dD st F) (p:aM F os O):∀id c k kn n H a,oT [mk (b.take i)] (aC [([],km i l),([],gh (b.take i) st L),([],me w rd (b.take i) L d),([1,0],fC L),([1],jk w f L),([0],fD os O L.flatten m (d||rd) g)]) id c k kn n H=some a->∀o,Le F o->a.Ok aX w o c k kn n H:=
 bh (aI ⟨λY Y=>xU,λY e=>qL (h.trans e) (j.le e),λY e=>uB (h.trans e),λY Y=>uy,λY e=>x7 (h.trans e),λY e=>uC (h.trans e) (p.le e),trivial⟩)
theorem Eh (hA:bw b) (Pm:b.length<=900) {z:Bool} (h:GW b i l O z):∀{F:aA} (_:Le (top w.2) F) {a:P4} {t:P2} {lt:Option (Nat×Addr×Addr×Bool×Addr)} {os:P5} {no st:Nat} {rd:Bool},a 4=78->dD st F->aM F os O->(∀q∈O,aB q)->O.length<=890->(lt=none->z=false/\l≠0)->
  NY w F el nw a (MZ w t b i l z lt os no el nw rd st (ae 5 a)):=by
 induction h with
 |stop i O z=>
  intro F u a t lt os no st rd I v y U V B;cases lt with
  |none=>exact absurd rfl (B rfl).2
  |some x=>
   obtain ⟨Y,x2,x3,x4,x5⟩:=x;have Q:=((((JU w b i os no el nw rd st Y x2 x3 x4 x5 z t).PD 4 78 u (bh (aI ⟨λN N=>xV,trivial⟩)) bL JV (ag ⟨rfl,trivial⟩) (λN=>rfl) rfl rfl a (by show 4<5;decide) I).gone 0).gone 2).gone 3
   have J:ah aX w F 300 3000 (MY (ae 5 a)) none (bO (.ref (ae 5 a 2)) (ae 5 a 0)) (ab a (MZ w t b i 0 z (some (Y,x2,x3,x4,x5)) os no el nw rd st (ae 5 a))) (λN N=>[av,aS el nw (dh rd),av,av,dk st]) 0 0 (λN N=>[]) (λN N=>.end_ (.ok .next)) (λN N=>[]):=Q;cases rd with
   |true=>exact ah.Pt (λN j=>B9 1 st) J (λc j=>rfl) (λN N=>rfl) (λN N=>rfl) (λc j=>rfl)
   |false=>exact ah.Pt (λN j=>B9 0 st) J (λc j=>rfl) (λN N=>rfl) (λN N=>rfl) (λc j=>rfl)
 |turn i l O z L d hi Q J h3 h4 h5 h6 h7 _ ih=>
  intro F u a t lt os no st rd I v y U V B;have hN:∀q∈L.flatten,aB q:=λq hq=>by
   obtain ⟨C,hC,hq⟩:=List.mem_flatten.mp hq;exact h4 C hC q hq
  have next:∀(o:aA) (c:P4) (t':P2) (k n D:Nat) (T:Bool),Le F o->(∀s,Le o s->cw (aa (ar k) n) L.flatten s)->(∀s,Le o s->dD D s)->
    NY w o el nw (bt a c uD) (MZ w t' b (i+1) l d (some (i,c 1,c 2,d,c 0)) (ar k) n el nw T D (ae 5 (bt a c uD))):=λo c t' k n D T E p1 p2=>
   ih (u.trans E) (a:=bt a c uD) (lt:=some (i,c 1,c 2,d,c 0)) I (p2 o (Le.refl _)) (x8 (p1 o (Le.refl _))) hN h5 (λe=>by injection e)
  have p:Txt.slice (mk b) none (some ((i:Nat):Int))=mk (b.take i):=by rw [iQ (by lia) (by lia)];simp
  have G:bw (b.take i):=hA.take i;have H:(b.take i).length<=900:=by rw [List.length_take];lia
  have r:aD (mk b):=au (by lia)
  cases z with
  |false=>
   cases hL:L.isEmpty with
   |true=>
    exact ah.PC uD [0,2,0,0,5] ((JN w b i l os no el nw rd st O L d (udB O L.flatten) lt t).PD 4 78 u (M0 u v y) bL JO (ag ⟨rfl,⟨⟨rfl,h6,V,h5⟩,U,hN⟩,rfl,⟨by rw [hL];rfl,h3,by lia⟩,rfl,h4,rfl,J,r,trivial,trivial,p,rfl,⟨Q,G,H⟩,r,trivial,trivial,p,rfl,trivial⟩) (λN=>rfl) rfl rfl a (by show 4<5;decide) I) (λN N j=>JW el nw j)
     (λo c j E A=>next o c _ _ _ _ _ E (A _ List.mem_cons_self) (A _ (List.mem_cons_of_mem _ List.mem_cons_self)))
   |false=>
    exact ah.PC uD [0,2,0,0,5] ((JP w b i l os no el nw rd st O L d (udB O L.flatten) lt t).PD 4 78 u (M0 u v y) bL JQ (ag ⟨rfl,⟨⟨rfl,h6,V,h5⟩,U,hN⟩,rfl,⟨by rw [hL];rfl,h3,by lia⟩,rfl,h4,rfl,J,r,trivial,trivial,p,rfl,⟨Q,G,H⟩,r,trivial,trivial,p,rfl,trivial⟩) (λN=>rfl) rfl rfl a (by show 4<5;decide) I) (λN N j=>JW el nw j)
     (λo c j E A=>next o c _ _ _ _ _ E (A _ List.mem_cons_self) (A _ (List.mem_cons_of_mem _ List.mem_cons_self)))
  |true=>
   cases lt with
   |none=>exact absurd (B rfl).1 (by decide)
   |some x=>
    obtain ⟨Y,x2,x3,x4,x5⟩:=x;have hL:L.isEmpty=false:=by
     cases L with
     |nil=>exact absurd rfl (h7 rfl)
     |cons _ _=>rfl
    exact ah.PC uD [0,2,0,0,5] ((JS w b i l os no el nw rd st O L d (udB O L.flatten) Y x2 x3 x4 x5 t).PD 4 78 u (M0 u v y) bL JT (ag ⟨rfl,⟨⟨rfl,h6,V,h5⟩,U,hN⟩,rfl,⟨by rw [hL];rfl,h3,by lia⟩,rfl,h4,rfl,J,r,trivial,trivial,p,rfl,⟨Q,G,H⟩,r,trivial,trivial,p,rfl,trivial⟩) (λN=>rfl) rfl rfl a (by show 4<5;decide) I) (λN N j=>JW el nw j)
     (λo c j E A=>next o c _ _ _ _ _ E (A _ List.mem_cons_self) (A _ (List.mem_cons_of_mem _ List.mem_cons_self)))
end
end
section
noncomputable def jS (n:Int) (a b c:Tok):Obj:={cls:=.type "range",data:=.fields #[.int 0 a,.int n b,.int 1 c]}
section
variable {w:World} {F:aA} {n:Int} {k:Nat} {d:P1}
theorem oR {s:Shared} {fs:Qa} {o:Obj} {t':Nat} (c:cK F s.1) (a:∀p∈fs,s.1.get? p.1=some p.2) (f:o.isFreed=false):
  ie F F s {s with heap:=s.1.push o,toks:=t'} (fN fs (fs.map (·.2)))/\fk s {s with heap:=s.1.push o,toks:=t'} fs (fs.map (·.2)) 1 [o] (λY=>s.1.1.size):=
 ⟨⟨Le.refl F,λb o e=>Heap.get?_push_of_some _ (c b o e),λY Y e=>.inl e⟩,
 (a5 s s.toks fs a (λY=>0)).push rfl o f t' (λY=>s.1.1.size) (λY h=>absurd h (Nat.not_lt_zero _)) rfl⟩
def qV (n:Int):aY:=λc Y Y=>
 {need:=10,Po:=100,code:=.call (.type "range") ⟨[.int n (aR (bD c 0))],[]⟩,fs:=[],Pq:=[],wants:=[],
  upd:=λY Y=>[],nn:=1,new:=λY a=>[jS n (a 0) (aR (bD c 0)) (a 1)],Pm:=2,res:=λn Y=>.end_ (.ok (.ret (.ref (n 0)))),gives:=λY Y=>[]}
theorem qW (c:Code) (b:Qa) (kn:Qb):(qV n c b kn).Ok w F:=by
 intro j _ C l _ _ A s R e _ _ a f g i;refine aK.o (aq (call_range_1 (n:=n) (t:=aR (bD c 0)) ?_));obtain ⟨G,X⟩:=oR (o:=jS n s.toks (aR (bD c 0)) (s.toks+1)) (t':=s.toks+1+1) a (fs:=[]) (λY h=>by cases h) rfl
 exact i _ (λY=>s.1.1.size) (m9 s.toks (s.toks+1)) F G (λY Y=>bq a (Nat.le_refl _)) (λY h=>by cases h) X
def x9 (n:Int) (k:Nat):aY:=λY a Y=>
 {need:=10,Po:=100,code:=.call (.builtin "range.__iter__") ⟨[.ref (fA a 0)],[]⟩,fs:=[(fA a 0,jS n (aE (fO a 0) 0) (aE (fO a 0) 1) (aE (fO a 0) 2))],Pq:=[n=(k:Int)/\k<=1000],wants:=[],
  upd:=λY Y=>[jS n (aE (fO a 0) 0) (aE (fO a 0) 1) (aE (fO a 0) 2)],nn:=1,new:=λY Y=>[hK 0 k],Pm:=0,res:=λn Y=>.end_ (.ok (.ret (.ref (n 0)))),gives:=λY Y=>[]}
theorem uE (c:Code) (a:Qa) (kn:Qb):(x9 n k c a kn).Ok w F:=by
 intro j _ C v _ _ A s R l _ _ g b m p;obtain ⟨rfl,x⟩:n=(k:Int)/\k<=1000:=j _ (.head _);have i:=b (fA a 0,jS (k:Int) (aE (fO a 0) 0) (aE (fO a 0) 1) (aE (fO a 0) 2)) (.head _);have r:s.TypeIs (.ref (fA a 0)) "range":=⟨_,i.1,rfl⟩;have f:Builtin.Range.small 0 (k:Int) 1=true:=small_one (by lia) (by lia) (by lia) (by lia)
 have t:Builtin.Range.rangeSize 0 (k:Int) 1=(k:Int):=by
  rw [rangeSize_one];split<;>cutsat
 unfold Builtin.Range.small at f;refine aK.o (aq (call_meets PySem.F.slot_range_iter r PySem.F.entry_range_iter (PySem.F.args_range_iter_1 _) (AutoRange.range___iter___range_1 (fA a 0) 0 (k:Int) 1 (aE (fO a 0) 0) (aE (fO a 0) 1) (aE (fO a 0) 2) (λe=>by rw [f] at e;injection e)) ⟨i.1,?_⟩))
 rw [if_pos f,t];obtain ⟨G,X⟩:=oR (o:=hK 0 k) (t':=s.toks) g (fs:=[(fA a 0,jS (k:Int) (aE (fO a 0) 0) (aE (fO a 0) 1) (aE (fO a 0) 2))]) (λq u=>(b q u).1) rfl;exact p {s with heap:=s.1.push (hK 0 k)} (λY=>s.1.1.size) (λY=>0) F G (λY Y=>bq g (Nat.le_refl _)) (λY h=>by cases h) X
def Ca (w:World) (d:P1):aY:=λY a Y=>
 {need:=300,Po:=3000,code:=bO (.ref (fA a 2)) (fA a 0),
  fs:=[(fA a 0,mG w.2 (aE (fO a 0)) d (fA a 3) false none #[]),(fA a 1,aS (bE (fO a 1)) (bF (fO a 1)) #[]),(fA a 2,hK 0 (d.length+1)),(fA a 3,aa [] 0),(78,dk 0)],
  Pq:=[GW d 0 (d.length+1) [] false/\bw d/\d.length<=900],wants:=[],below:=some (MY (fA a)),hand:=some none,
  upd:=λY b=>JW (bE (fO a 1)) (bF (fO a 1)) b,nn:=0,new:=λY Y=>[],Pm:=2,res:=λY Y=>.end_ (.ok .next),gives:=λY Y=>[]}
noncomputable def M1 (a:P4) (i:Nat):Addr:=match i with
 |0=>a 0
 |1=>a 1
 |2=>a 2
 |3=>a 3
 |_=>78
theorem ya (e:Le (top w.2) F) (c:Code) (b:Qa) (kn:Qb):(Ca w d c b kn).Ok w F:=by
 intro f q C H g i;obtain ⟨j,l,m⟩:GW d 0 (d.length+1) [] false/\bw d/\d.length<=900:=f _ (.head _);have o:H=none:=i none rfl;subst o;rw [g _ rfl];exact ah.Pu (Eh (a:=M1 (fA b)) (t:=aE (fO b 0)) (lt:=none) (os:=[]) (no:=0) (st:=0) (rd:=false) (el:=bE (fO b 1)) (nw:=bF (fO b 1)) l m j e rfl (λc p=>by injection p) .nil (λY h=>by cases h) (Nat.zero_le _) (λY=>⟨rfl,by lia⟩))
end
end
def NZ (w:World) (b:P1) (e:Array DictEntry) (f:Nat) (g:Tok):a7:={
 B:=λa=>[d5 (a 0),d6],Hd:=none,O:=oT [] (aC [([],qV (((mk b).length:Int)+1)),([],x9 (((mk b).length:Int)+1) (b.length+1)),([],Ca w b)]),k:=2,nn:=0,Pm:=2,H:=aQ 0x10305000205660604e401aa006484840387a0c6c694,N:=62,
 cF:=λa=>.call (.ref 843) ⟨[.str (mk b) g],[]⟩,oF:=λa=>[aS e f #[],dk 0],
 uF:=λa n c=>[aS e f (dh (bT (c 0))),dk (c 1)],nF:=λa n c=>[],rF:=λa n c=>.end_ (.ok (.ret (.bool true))),idx:=[],Pn:=[8,9],d:=350,u:=3500,
 facts:=[true=true,GW b 0 (b.length+1) [] false/\bw b/\b.length<=900,true=true,((mk b).length:Int)+1=((b.length+1:Nat):Int)/\b.length+1<=1000,true=true,aD (mk b)]}
theorem M3:(NZ w a c d e).PB 1 78 w:=by intro b f g;kernel_rfl
section
noncomputable def ct (a:P5) (b:List Int):Prop:=ck (λv z=>∃t,v=Value.int z t) a b
section
variable {w:World} {A:Around} {R:Result->Shared->Prop} {s:Shared} {E:Value->Shared->Prop} {I L S:Addr} {xs:P5} {n i:Nat}
theorem mH {Q:Option Value->Shared->Prop} (c:A.handled=none) (a:s.1.get? I=some (cN L i)) (d:s.1.get? L=some (aa xs n)) (f:i=xs.length)
  (h:Q none {s with heap:=((s.1.update I (Obj.mapFields (·.setIfInBounds 0 .none))).push (az [])).push (i7 "StopIteration" s.1.1.size .none)}):wpAny (model aX w) A (pyNext (.ref I)) Q E s:=by
 unfold pyNext;have g:(s.1.update I (Obj.mapFields (·.setIfInBounds 0 .none))).objs.size=s.1.1.size:=(Heap.SameBut.update ..).1;have e:((s.1.update I (Obj.mapFields (·.setIfInBounds 0 .none))).push (az [])).objs.size=s.1.1.size+1:=by rw [aN,g]
 refine wpAny_bind (wpAny_attempt (wpAny_callSpecial?_slot (name:=Str.ofString "__next__") ⟨_,a,rfl⟩ slot_listiter_next (gd c a d f ?_)));refine wpAny_bind (wpAny_isInstance (T:="StopIteration") (b:=true) ⟨_,by rw [<-e];exact Heap.get?_push_size _ rfl,rfl⟩ isSubtype_stop ?_)
 exact wpAny_pure h
theorem mf {x:Value} {Q:Option Value->Shared->Prop} (a:s.1.get? I=some (cN L i)) (b:s.1.get? L=some (aa xs n)) (c:xs.reverse[i]? =some x)
  (h:Q (some x) {s with heap:=s.1.update I (Obj.mapFields (·.setIfInBounds 1 (rawInt (((i:Int))+1))))}):wpAny (model aX w) A (pyNext (.ref I)) Q E s:=by
 unfold pyNext;exact wpAny_bind (wpAny_attempt (wpAny_callSpecial?_slot (name:=Str.ofString "__next__") ⟨_,a,rfl⟩ slot_listiter_next (oz a b c (wpAny_pure h))))
theorem nB (hh:A.handled=none) (G:I≠L) (u:I≠S) (H:L≠S):∀(h:P5) (r:List Int) (i:Nat) (g:P5) (s:Shared) (a:Int) (B:Tok) (c:Nat) (d:Int),(d=0\/d=2)->xs.reverse=g++h->i=g.length->ct h r->
  s.1.get? I=some (cN L i)->s.1.get? L=some (aa xs n)->s.1.get? S=some (bA #[.int a B] c)->
  (∀C l t',(∀b o,b≠I->b≠S->s.1.get? b=some o->C.get? b=some o)->s.1.1.size<=C.objs.size->C.life=s.1.life->R (.ok (.ret (.int (a+r.sum) t'))) {s with heap:=C,toks:=l})->
  codeAny (model aX w) A (.builtin "sum.loop" ⟨[.ref I,.ref S,rawInt d,rawInt 0],[]⟩) R s
 |[],r,i,g,s,a,B,c,d,J,T,hi,N,U,V,Y,hR=>by
  cases N;have Pm:i=xs.length:=by
   have:=congrArg List.length T;simp at this;lia
  refine codeAny_builtin PySem.F.entry_sum_loop ?_;simp only [Around.under_plainId PySem.F.plain_sum_loop _];refine wpAny_bind (m:=seqItems? (.ref S)) (wpAny_seqItems Y rfl ?_);refine wpAny_bind (m:=tryCatch (pyNext (.ref I)) _) (wpAny_tryCatch (mH hh U V Pm ?_));have x:Heap.SameBut I s.1 (s.1.update I (Obj.mapFields (·.setIfInBounds 0 .none))):=Heap.SameBut.update ..;have:=hR (((s.1.update I (Obj.mapFields (·.setIfInBounds 0 .none))).push (az [])).push (i7 "StopIteration" s.1.1.size .none)) s.toks B (λb o hb E e=>Heap.get?_push_of_some _ (Heap.get?_push_of_some _ ((x.2 b hb).trans e))) (by rw [aN,aN,x.1];lia) rfl
  simp only [List.sum_nil,Int.add_zero] at this;exact wpAny_pure this
 |v::h,r,i,g,s,a,B,c,d,J,T,hi,N,U,V,Y,hR=>by
  cases N with
  | @cons _ z _ r hv N=>
  obtain ⟨t,rfl⟩:=hv;have Pn:xs.reverse=(g++[Value.int z t])++h:=by simp only [T];simp
  have Po:i+1=(g++[Value.int z t]).length:=by simp only [hi];simp
  have Pp:xs.reverse[i]? =some (.int z t):=by rw [T,hi];simp
  have es:a+(z::r).sum=a+z+r.sum:=by simp only [List.sum_cons];lia
  rw [es] at hR;refine codeAny_builtin PySem.F.entry_sum_loop ?_;simp only [Around.under_plainId PySem.F.plain_sum_loop _];refine wpAny_bind (m:=seqItems? (.ref S)) (wpAny_seqItems Y rfl ?_);refine wpAny_bind (m:=tryCatch (pyNext (.ref I)) _) (wpAny_tryCatch (mf U V Pp ?_));have x:Heap.SameBut I s.1 (s.1.update I (Obj.mapFields (·.setIfInBounds 1 (rawInt (((i:Int))+1))))):=Heap.SameBut.update ..;have y:=Heap.get?_update_self (Obj.mapFields (·.setIfInBounds 1 (rawInt (((i:Int))+1)))) U rfl;have y:(s.1.update I (Obj.mapFields (·.setIfInBounds 1 (rawInt (((i:Int))+1))))).get? I=some (cN L (i+1)):=y;have p:=(x.2 S u.symm).trans Y;have Pq:=(x.2 L G.symm).trans V;have Pt:(s.1.update I (Obj.mapFields (·.setIfInBounds 1 (rawInt (((i:Int))+1))))).life=s.1.life:=rfl;generalize hg:s.1.update I (Obj.mapFields (·.setIfInBounds 1 (rawInt (((i:Int))+1))))=h1 at*;have go:∀(D:Heap) (k2:Nat) (t2:Tok) (c2:Nat) (j:Int),(j=0\/j=2)->Heap.SameBut S h1 D->D.life=h1.life->D.get? S=some (bA #[.int (a+z) t2] c2)->
    codeAny (model aX w) A (.builtin "sum.loop" ⟨[.ref I,.ref S,rawInt j,rawInt 0],[]⟩) R {s with heap:=D,toks:=k2}:=λD k2 t2 c2 j O u2 ul q=>
   nB hh G u H h r (i+1) _ {s with heap:=D,toks:=k2} (a+z) t2 c2 j O Pn Po N ((u2.2 I u).trans y) ((u2.2 L H).trans Pq) q
    (λC l t' hk Pu Pw=>hR C l t' (λb o hb Q e=>hk b o hb Q ((u2.2 b Q).trans ((x.2 b hb).trans e))) (by
     have:=x.1;have:=u2.1;dsimp only at Pu;lia) (by rw [<-Pt,<-ul];exact Pw))
  have plain:∀(k:Nat) (l:Tok),wpAny (model aX w) A.in1 (updateSeq S (λE=>#[.int (a+z) l])>>=λE=>letGo [.int a B,.int z t]>>=λE=>updateSeq S (λE=>#[.int (a+z) l])>>=λE=>again (.builtin "sum.loop" ⟨[.ref I,.ref S,rawInt 2,rawInt 0],[]⟩))
    (λPx s'=>match Px with| .done f=>R (.ok f) s'| .again c'=>c'.quiet=true/\codeAny (model aX w) A c' R s') (λe s'=>R (.error e) s') {s with heap:=h1,toks:=k}:=λk l=>by
   refine wpAny_bind (wpAny_updateSeq p rfl (wpAny_bind (wpAny_letGo ?_)));have q:=Heap.get?_update_self (Obj.mapSeq λE=>#[Value.int (a+z) l]) p rfl;refine wpAny_bind (wpAny_updateSeq q rfl (wpAny_pure ⟨plainId_quiet PySem.F.plain_sum_loop _,?_⟩));exact go _ k l _ 2 (.inr rfl) ((Heap.SameBut.update ..).trans (Heap.SameBut.update ..)) rfl (Heap.get?_update_self _ q rfl)
  rcases J with rfl|rfl
  ·show wpAny _ A.in1 (if (_:Bool)=true then (mkInt (a+z)>>=_) else _) _ _ _
   split
   ·refine wpAny_bind (wpAny_mkInt ?_)
    refine wpAny_bind (m:=updateSeq S (λE=>#[.int (a+z) s.toks])) (wpAny_updateSeq p rfl (wpAny_pure ⟨plainId_quiet PySem.F.plain_sum_loop _,?_⟩));exact go _ (s.toks+1) s.toks _ 0 (.inl rfl) (Heap.SameBut.update ..) rfl (Heap.get?_update_self _ p rfl)
   ·refine wpAny_bind (wpAny_rule ?_)
    refine wpAny_bind (wpAny_attempt (wpAny_holding (PySem.P.add_int ?_)));exact plain _ _
  ·show wpAny _ A.in1 ((holding [Value.int z t] (binaryOp .Add (.int a B) (.int z t))).attempt>>=_) _ _ _
   refine wpAny_bind (wpAny_attempt (wpAny_holding (PySem.P.add_int ?_)));exact plain _ _
end
end
section
noncomputable def bP (a:P5) (k:Nat):P5:=(slicePick a.reverse.toArray (some (k:Int)) none (some 10)).toList.reverse
noncomputable def Ag (a:P5):Prop:=∀v∈a,∃z t,v=Value.int z t
theorem sD {d:P5} (h:Ag d) (k:Nat):∃a,ct (bP d k).reverse a:=by
 have c:∀l:P5,(∀v∈l,∃z t,v=Value.int z t)->∃a,ct l a:=by
  intro l
  induction l with
  |nil=>exact λY=>⟨[],.nil⟩
  |cons v l f=>
   intro h;obtain ⟨z,t,e⟩:=h v (.head _);obtain ⟨a,g⟩:=f λu j=>h u (by simp [j])
   exact ⟨z::a,.cons ⟨t,e⟩ g⟩
 refine c _ λv b=>h v ?_;unfold bP slicePick at b;rw [List.reverse_reverse] at b;simp only [List.mem_filterMap] at b;obtain ⟨i,_,m⟩:=b;have:=Array.mem_of_getElem? m;simpa using this
section
variable {w:World} {F:aA} {d:P5} {k n:Nat} {z:Int} {s:Shared} {A:Around} {E:Value->Shared->Prop} {L:Addr}
theorem sE {a:Addr} {m:Nat} {t g:Tok} {Q:Value->Shared->Prop} (i:s.1.get? L=some (aa d m)) (l:s.1.get? a=some (xK (.int (k:Int) g) .none (.int 10 t))) (q:d.length<=900)
  (h:Q (.ref s.1.1.size) {s with heap:=s.1.push (aa (bP d k) 0)}):wpAny (model aX w) A (call (.builtin "list.__getitem__") [.ref L,.ref a]) Q E s:=by
 have field:∀{j:Nat} {x:Value} {P:Value->Shared->Prop},(#[.int (k:Int) g,.none,.int 10 t]:Array Value)[j]? =some x->P x s->wpAny (model aX w) A.in1 (field (.ref a) j) P E s:=λp f=>wpAny_field l rfl p f;have o:s.TypeIs (.ref a) "slice":=⟨_,l,rfl⟩;have b:∀{P:Option Int->Shared->Prop},P none s->wpAny (model aX w) A.in1 (Builtin.List.listSubscript? (.ref a)) P E s:=λf=>by
  unfold Builtin.List.listSubscript?;exact wpAny_bind (wpAny_specialOf o slice_no_index (wpAny_pure f))
 have c:∀{P:Value×Value×Value->Shared->Prop},P (rawInt (k:Int),.none,rawInt 10) s->wpAny (model aX w) A.in1 (Builtin.List.listSliceParts (.ref a)) P E s:=λf=>by
  rw [listSliceParts_eq];refine wpAny_bind (field (x:=.int 10 t) rfl (wpAny_bind (wpAny_listPart (.int 10 t) ?_)));rw [if_neg (by decide)]
  exact wpAny_bind (field (x:=.int (k:Int) g) rfl (wpAny_bind (wpAny_listPart (.int (k:Int) g) (wpAny_bind (field (x:=.none) rfl (wpAny_bind (wpAny_listPart .none (wpAny_pure f))))))))
 have e:(bP d k).reverse.toArray=slicePick d.reverse.toArray (some (k:Int)) none (some 10):=by unfold bP;simp
 refine wpAny_call_entry slot_list_getitem (T:="list") ⟨_,i,rfl⟩ entry_list_getitem ?_ (args_list_getitem _ _);show wpAny _ _ (Builtin.List.listSubscript? (.ref a)>>=λY=>_) _ _ s;refine wpAny_bind (b ?_);refine wpAny_bind (wpAny_typeOf o ?_);rw [if_neg (by decide)]
 refine wpAny_bind (c ?_);refine wpAny_bind (m:=Builtin.List.listItems (.ref L)) (wpAny_bind (wpAny_seqItems i rfl (wpAny_pure ?_)));refine wpAny_bind (wpAny_of_eq (sliceIndices_raw (some (k:Int)) none (some 10) d.reverse.toArray.size (by decide)) ?_)
 refine wpAny_bind (wpAny_newObj_type (wpAny_pure ⟨_,rfl,?_⟩) ?_)
 ·show Q _ {s with heap:=s.1.push {cls:=.type "list",data:=.seq (slicePick d.reverse.toArray (some (k:Int)) none (some 10))} }
  rw [<-e];exact h
 ·show (slicePick d.reverse.toArray (some (k:Int)) none (some 10)).size<=_
  have:=slicePick_size_le d.reverse.toArray (some (k:Int)) none (some 10);simp at this;simp [sizeLine];lia
def cU (d:P5) (k:Nat):aY:=λc a Y=>
 {need:=10,Po:=100,code:=.call (.builtin "list.__getitem__") ⟨[.ref (fA a 0),.ref (fA a 1)],[]⟩,fs:=[(fA a 0,aa d (Pr (fO a 0))),(fA a 1,xK (.int (k:Int) (aE (fO a 1) 0)) .none (.int 10 (aE (fO a 1) 2)))],Pq:=[d.length<=900],wants:=[],
  upd:=λY Y=>[aa d (Pr (fO a 0)),xK (.int (k:Int) (aE (fO a 1) 0)) .none (.int 10 (aE (fO a 1) 2))],nn:=1,new:=λY Y=>[aa (bP d k) 0],Pm:=0,res:=λn Y=>.end_ (.ok (.ret (.ref (n 0)))),gives:=λY Y=>[]}
theorem bW (c:Code) (b:Qa) (kn:Qb):(cU d k c b kn).Ok w F:=by
 intro f _ r t _ _ A s R u v x e a g i;have j:d.length<=900:=f _ (by simp [cU])
 have l:=a (fA b 0,aa d (Pr (fO b 0))) (.head _);have m:=a (fA b 1,xK (.int (k:Int) (aE (fO b 1) 0)) .none (.int 10 (aE (fO b 1) 2))) (.tail _ (.head _));refine aK.o (aq (sE l.1 m.1 j ?_));obtain ⟨G,X⟩:=oR (o:=aa (bP d k) 0) (t':=s.toks) e (λq p=>(a q p).1) rfl;exact i {s with heap:=s.1.push (aa (bP d k) 0)} (λY=>s.1.1.size) (λY=>0) F G (λY Y=>bq e (Nat.le_refl _)) (λY h=>by cases h) X
theorem qX {a b c:Nat} (e:b=a+1) (f:c=b) (g:c<a):False:=by lia
theorem Ei {g:List Int} {m:Nat} {Q:Value->Shared->Prop} (y:A.handled=none) (i:s.1.get? L=some (aa d m)) (B:ct d.reverse g)
  (h:∀c j l,(∀b o,s.1.get? b=some o->c.get? b=some o)->s.1.1.size<=c.1.size->c.life=s.1.life->Q (.int g.sum l) {s with heap:=c,toks:=j}):wpAny (model aX w) A (call (.builtin "sum") [.ref L]) Q E s:=by
 refine call_function_tree PySem.F.kind_sum PySem.F.plain_sum PySem.F.entry_sum (PySem.F.args_sum1 _) ?_;unfold Builtin.«sum»;dsimp only [List.length_cons,List.length_nil];rw [if_neg (by decide)]
 refine wpAny_bind (wpAny_of_eq (show Builtin.Builtins.bindParams "sum" ["start"] 0 { }=pure [none] from rfl) ?_)
 refine wpAny_bind (wpAny_pyIter_list (c3 i) ?_);refine wpAny_bind (wpAny_mkInt (wpAny_bind (wpAny_pure ?_)));dsimp only [List.forIn_cons,List.forIn_nil];refine wpAny_bind (wpAny_bind (wpAny_bind (wpAny_isInstance (T:="int") (b:=false) (typeIs_int _ _ _) PySem.sub_int_str ?_)));dsimp only [Bool.false_eq_true,if_false];refine wpAny_pure (wpAny_bind (wpAny_bind (wpAny_isInstance (T:="int") (b:=false) (typeIs_int _ _ _) sub_int_bytes ?_)));dsimp only [Bool.false_eq_true,if_false];refine wpAny_pure (wpAny_bind (wpAny_bind (wpAny_isInstance (T:="int") (b:=false) (typeIs_int _ _ _) sub_int_bytearray ?_)));dsimp only [Bool.false_eq_true,if_false];refine wpAny_pure (wpAny_pure ?_);have C:(s.1.push (cN L 0)).get? s.1.1.size=some (cN L 0):=Heap.get?_push_size _ rfl;have p:=Heap.get?_push_of_some (cN L 0) i;have D:s.1.1.size≠L:=λq=>Nat.lt_irrefl _ (q▸Heap.lt_size i);refine wpAny_bind (wpAny_newObj_type ?_);refine wpAny_pure ⟨plainId_quiet PySem.F.plain_sum_loop _,nB (w:=w) (xs:=d) (n:=m) (L:=L) y D (λq=>?_) (λq=>?_) d.reverse g 0 [] _ 0 s.toks 0 0 (.inl rfl) rfl rfl B (Heap.get?_push_of_some _ C) (Heap.get?_push_of_some _ p) (Heap.get?_push_size _ rfl) λc j l G a r=>?_⟩
 ·have u:s.1.1.size<(s.1.push (cN L 0)).objs.size:=by simp only [aN];lia
  have v:s.1.1.size=(s.1.push (cN L 0)).objs.size:=q;lia
 ·have u:(s.1.push (cN L 0)).objs.size=s.1.1.size+1:=aN _ _
  have v:L=(s.1.push (cN L 0)).objs.size:=q;have H:L<s.1.1.size:=Heap.lt_size i;exact qX u v H
 ·have f:(s.1.push (cN L 0)).objs.size=s.1.1.size+1:=aN _ _
  have t:((s.1.push (cN L 0)).push (bA #[.int 0 s.toks] 0)).objs.size=s.1.1.size+1+1:=by rw [aN,f]
  have:=h c j l (λb o e=>by
   have x:=Heap.lt_size e;exact G b o (Nat.ne_of_lt x) (λq=>by
    have q:b=(s.1.push (cN L 0)).objs.size:=q;exact qX f q x) (Heap.get?_push_of_some _ (Heap.get?_push_of_some _ e))) (by
   have a:((s.1.push (cN L 0)).push (bA #[.int 0 s.toks] 0)).objs.size<=c.1.size:=a;rw [t] at a;exact Nat.le_trans (Nat.le_trans (Nat.le_succ _) (Nat.le_succ _)) a) r
  rw [<-Int.zero_add g.sum] at this;exact this
def dG (a:P5) (z:Int):aY:=λY b Y=>
 {need:=20,Po:=200,code:=.call (.builtin "sum") ⟨[.ref (fA b 0)],[]⟩,fs:=[(fA b 0,aa a 0)],Pq:=[∃c,ct a.reverse c/\c.sum=z],wants:=[],hand:=some none,
  upd:=λY Y=>[aa a 0],nn:=0,new:=λY Y=>[],Pm:=1,res:=λY e=>.end_ (.ok (.ret (.int z (e 0)))),gives:=λY Y=>[]}
theorem cn {a:P5} (c:Code) (u:Qa) (kn:Qb):(dG a z c u kn).Ok w F:=by
 intro x _ Q y _ f A s R B T U C g D G;obtain ⟨i,H,rfl⟩:∃i,ct a.reverse i/\i.sum=z:=x _ (.head _);have I:y=none:=f none rfl;subst I;have v:=g (fA u 0,aa a 0) (.head _);refine aK.o (aq (Ei B v.1 H λJ N O l m q=>?_));refine G {s with heap:=J,toks:=N} (λY=>0) (λY=>O) F ⟨Le.refl F,λb o e=>l b o (C b o e),λY Y e=>.inl e⟩ (λY h=>absurd h (Nat.not_lt_zero _)) (λY h=>by cases h) ⟨λb o e Y=>l b o e,λj p o r t Y=>?_,λY Y h=>by simp [dG] at h,λY h=>absurd h (Nat.not_lt_zero _),λY h=>absurd h (Nat.not_lt_zero _),λY Y h=>absurd h (Nat.not_lt_zero _),m,q,rfl,rfl,rfl⟩
 match j,r,t with
 |0,r,t=>cases r;cases t;exact l _ _ v.1
def yb (z:Int):aY:=λc Y Y=>
 {need:=10,Po:=100,code:=.call (.builtin "int.__mod__") ⟨[.int z (aR (bD c 0)),.int 10 (aR (bD c 1))],[]⟩,fs:=[],Pq:=[],wants:=[],
  upd:=λY Y=>[],nn:=0,new:=λY Y=>[],Pm:=1,res:=λY a=>.end_ (.ok (.ret (.int (z.fmod 10) (a 0)))),gives:=λY Y=>[]}
theorem uG (c:Code) (a:Qa) (kn:Qb):(yb z c a kn).Ok w F:=by
 intro j _ l m _ _ A s R o p q b f g i;refine aK.o (aq (wpAny_mono (call_int_mod (by decide) ?_) (λv r h=>h.2) λY Y e=>e))
 exact i {s with toks:=s.toks+1} (λY=>0) (λY=>s.toks) F (bz b _) (λY h=>absurd h (Nat.not_lt_zero _)) (λY h=>by cases h) (jz s _ _)
noncomputable def dP (j:Nat):P1:=[[97],[98],[61],[59],[44],[32],[34],[92],[61,34],[39]].getD j []
def M4 (t:P2) (n:Nat):Obj:=aa [.str (mk [39]) (t 9),.str (mk [61,34]) (t 8),.str (mk [92]) (t 7),.str (mk [34]) (t 6),.str (mk [32]) (t 5),.str (mk [44]) (t 4),.str (mk [59]) (t 3),.str (mk [61]) (t 2),.str (mk [98]) (t 1),.str (mk [97]) (t 0)] n
theorem yc {l:P5} {t:Tok} {k:Int} {j:Nat} {x:Value} {Q:Value->Shared->Prop} (g:k=(j:Int)) (c:s.1.get? L=some (aa l n)) (f:l.reverse[j]? =some x) (p:j<1000) (h:Q x s):wpAny (model aX w) A (call (.builtin "list.__getitem__") [.ref L,.int k t]) Q E s:=by
 have i:=c3 c;have o:j<l.length:=by
  have:=(List.getElem?_eq_some_iff.mp f).1;simpa using this
 have b:l.reverse.toArray[j]? =some x:=by simpa using f
 have a:Builtin.List.listFitsIndex k=true:=fitsIndex_of (by lia) (Int.lt_trans (show k<1000 by lia) (by decide))
 refine wpAny_call_entry slot_list_getitem i.typeIs entry_list_getitem ?_ (args_list_getitem _ _);show wpAny _ _ (Builtin.List.listSubscript? (.int k t)>>=_) _ _ s;refine wpAny_bind (wpAny_listSubscript_int a ?_);have e:k=Int.ofNat j:=g;subst e;refine wpAny_bind (wpAny_bind (m:=seqItemAt L j) (wpAny_seqItemAt c rfl (wpAny_pure ?_)));rw [b];simp only [Option.map_some];exact wpAny_pure ⟨x,rfl,h⟩
def tD (z:Int) (j:Nat):aY:=λc a Y=>
 {need:=10,Po:=100,code:=.call (.builtin "list.__getitem__") ⟨[.ref (fA a 0),.int z (aR (bD c 1))],[]⟩,fs:=[(fA a 0,M4 (aE (fO a 0)) (Pr (fO a 0)))],Pq:=[z=(j:Int)/\j<10],wants:=[],
  upd:=λY Y=>[M4 (aE (fO a 0)) (Pr (fO a 0))],nn:=0,new:=λY Y=>[],Pm:=1,res:=λY b=>.end_ (.ok (.ret (.str (mk (dP j)) (b 0)))),gives:=λY Y=>[]}
theorem Ej {u:P2} {j:Nat} (a:j<10):∃t,([.str (mk [39]) (u 9),.str (mk [61,34]) (u 8),.str (mk [92]) (u 7),.str (mk [34]) (u 6),.str (mk [32]) (u 5),.str (mk [44]) (u 4),.str (mk [59]) (u 3),.str (mk [61]) (u 2),.str (mk [98]) (u 1),.str (mk [97]) (u 0)]:P5).reverse[j]? =some (.str (mk (dP j)) t):=by
 match j,a with
 |0,_=>exact ⟨_,rfl⟩
 |1,_=>exact ⟨_,rfl⟩
 |2,_=>exact ⟨_,rfl⟩
 |3,_=>exact ⟨_,rfl⟩
 |4,_=>exact ⟨_,rfl⟩
 |5,_=>exact ⟨_,rfl⟩
 |6,_=>exact ⟨_,rfl⟩
 |7,_=>exact ⟨_,rfl⟩
 |8,_=>exact ⟨_,rfl⟩
 |9,_=>exact ⟨_,rfl⟩
 |n+10,h=>exact absurd h (by lia)
theorem sF {j:Nat} (c:Code) (a:Qa) (kn:Qb):(tD z j c a kn).Ok w F:=by
 intro e _ r v _ _ A s R x y B f b g i;obtain ⟨rfl,l⟩:z=(j:Int)/\j<10:=e _ (.head _);have m:=b (fA a 0,M4 (aE (fO a 0)) (Pr (fO a 0))) (.head _);obtain ⟨t,o⟩:=Ej (u:=aE (fO a 0)) l;refine aK.o (aq (yc rfl m.1 o (by lia) ?_))
 exact i s (λY=>0) (λY=>t) F (bz f s.toks) (λY h=>absurd h (Nat.not_lt_zero _)) (λY h=>by cases h) (a5 s s.toks _ (λq p=>(b q p).1) _)
end
end
def N0 (w:World) (z:Int) (j:Nat) (c:Tok) (B:P8) (e:P6):a7:={
 B:=λa=>B,Hd:=e,O:=oT [] (aC [([],yb z),([],tD (z.fmod 10) j)]),k:=0,nn:=0,Pm:=1,H:=0x1016502020200640101010000ff,N:=43,
 cF:=λa=>.call (.ref 791) ⟨[.int z c],[]⟩,oF:=λa=>[],
 uF:=λa n b=>[],nF:=λa n b=>[],rF:=λa n b=>.end_ (.ok (.ret (.str (mk (dP j)) (b 0)))),idx:=[],Pn:=[13],d:=50,u:=500,
 facts:=[true=true,z.fmod 10=(j:Int)/\j<10,true=true]}
theorem M5:(N0 w z j b B c).Runs w:=by intro a d e;kernel_rfl
section
section
variable {w:World} {F:aA} {z:Int} {j:Nat}
def gq (z:Int) (j:Nat):aY:=λc Y Y=>
 {need:=50,Po:=500,code:=.call (.ref 791) ⟨[.int z (aR (bD c 0))],[]⟩,fs:=[],Pq:=[z.fmod 10=(j:Int)/\j<10],wants:=[],
  upd:=λY Y=>[],nn:=0,new:=λY Y=>[],Pm:=1,res:=λY a=>.end_ (.ok (.ret (.str (mk (dP j)) (a 0)))),gives:=λY Y=>[]}
theorem cR (b:Le (top w.2) F) (c:Code) (a:Qa) (kn:Qb):(gq z j c a kn).Ok w F:=by
 intro d e C H f g;have h:z.fmod 10=(j:Int)/\j<10:=d _ (.head _);exact ah.Pu ((N0 w z j (aR (bD c 0)) C H).Pu b (bh (aI ⟨λY Y=>uG,λY Y=>sF,trivial⟩)) M5 (ag ⟨rfl,h,rfl,trivial⟩) (fA a))
end
noncomputable def yd:List (Nat×Addr)->P4->Nat->Addr
 |[],a=>a
 |x::l,a=>ER x.1 x.2 (yd l a)
theorem nC:∀{l:List (Nat×Addr)} {a:P4},(∀x∈l,a x.1=x.2)->yd l a=a
 |[],_,_=>rfl
 |x::l,a,h=>by
  show ER x.1 x.2 (yd l a)=a;rw [nC λy b=>h y (by simp [b])]
  exact pL (h x (.head _))
def a7.PG (l:List (Nat×Addr)) (w:World) (J:a7):Prop:=∀a b c,(J.lhs w (yd l a) b c).map (pF J.k J.idx J.Px J.Pz)=J.rhs w (yd l a) b c
theorem a7.PO {w:World} {F:aA} (l:List (Nat×Addr)) (J:a7) (n:Le (top w.2) F) (o:bH w F J.O) (b:∀j x,J.Py j=some x->F x.1=some x.2)
  (d:J.PG l w) (p:∀x∈J.facts,x) (q:∀f,(J.oF f).length=J.k) (s:(J.idx++J.Px).length=J.nn) (t:dQ (J.idx++J.Px)=true) (a:P4) (i:∀x∈l,x.1<J.k/\a x.1=x.2) (u:∀id c k C x,J.X id c k C=some x->x.Ok aX w c k C:=by exact nN):
  ah aX w F J.d J.u (J.B (ae J.k a)) J.Hd (J.cF (ae J.k a)) (ab a (J.oF (ae J.k a))) (J.uF (ae J.k a)) J.nn J.Pm (J.nF (ae J.k a)) (J.rF (ae J.k a)) (J.gF (ae J.k a)):=
 nM n o b u p q s t a λg v y e=>by
  have r:=d g v y;rw [nC λx m=>?_] at r
  ·exact r
  ·have h:=congrFun e x.1
   unfold ae at h;rw [show Nat.blt x.1 J.k=true from by simpa [Nat.blt_eq] using (i x m).1] at h
   exact h.trans (i x m).2
noncomputable def Cb:Expr->Expr
 | .Call _ (e::_) _ _=>e
 |_=>.Constant .none 0 ⟨0,0,0,0⟩
def KE:Expr:=Cb (Cb (Ia (nO (bQ (er 42)) 1)))
noncomputable def JX (x:Str×NameKind):Str×NameKind:=match x.2 with
 | .free=>(x.1,.cell)
 |_=>x
def N1 (a d:Addr):Env:={scope:={ja KE with names:=(ja KE).names.map JX},locals:=d,globals:=3,cells:=[(Str.ofString "script",851),(Str.ofString "own",852)],qual:="law.<locals>.",func:=none,code:=.ref 847,frame:=some a,builtins:=0}
def JY (b a d c:Addr):Code:=.compLoop KE 0 (.ref b) (.ref a) (N1 c d)
def ye (b a d c:Addr):Code:=.compStart KE 0 (.ref b) (.ref a) (N1 c d)
noncomputable def a4 (v:P6):Obj:={cls:=.type "cell",data:=.cell v}
def mI (t:P2):Obj:=aa [.int 4 (t 9),.int 6 (t 8),.int 2 (t 7),.int 6 (t 6),.int 7 (t 5),.int 0 (t 4),.int 3 (t 3),.int 1 (t 2),.int 8 (t 1),.int 0 (t 0)] 0
def yf (j:Nat->Nat) (t:P2) (n:Nat):Obj:=aa [.str (mk (dP (j 9))) (t 9),.str (mk (dP (j 8))) (t 8),.str (mk (dP (j 7))) (t 7),.str (mk (dP (j 6))) (t 6),.str (mk (dP (j 5))) (t 5),.str (mk (dP (j 4))) (t 4),.str (mk (dP (j 3))) (t 3),.str (mk (dP (j 2))) (t 2),.str (mk (dP (j 1))) (t 1),.str (mk (dP (j 0))) (t 0)] n
def Ah (P:Params) (t:P2) (b:Bool):Obj:={cls:=.type "dict",data:=match b with
 |false=>.dict #[] 0
 |true=>.dict #[dE P "k" (t 0) (.int 9 (t 1))] 1}
end
def JZ (t a:P2):Nat->Tok:=bl aO [(0,(a 0)),(1,(a 1)),(2,(a 2)),(3,(a 3)),(4,(a 4)),(5,(a 5)),(6,(a 6)),(7,(a 7)),(8,(a 8)),(9,(a 9))]
def J0 (t a:P2):Nat->Tok:=bl aO [(0,(a 10)),(1,(a 11))]
def N2 (w:World) (b:P5) (f:Nat) (s:Nat->Int) (j:Nat->Nat) (g:Addr) (t:P2) (B:P8):a7:={
 B:=λa=>B,Hd:=none,O:=oT [] (aC [([],cU b 0),([],cU b 1),([],cU b 2),([],cU b 3),([],cU b 4),([],cU b 5),([],cU b 6),([],cU b 7),([],cU b 8),([],cU b 9),([],dG (bP b 0) (s 0)),([],dG (bP b 1) (s 1)),([],dG (bP b 2) (s 2)),([],dG (bP b 3) (s 3)),([],dG (bP b 4) (s 4)),([],dG (bP b 5) (s 5)),([],dG (bP b 6) (s 6)),([],dG (bP b 7) (s 7)),([],dG (bP b 8) (s 8)),([],dG (bP b 9) (s 9)),([],gq (0+s 0) (j 0)),([],gq (8+s 1) (j 1)),([],gq (1+s 2) (j 2)),([],gq (3+s 3) (j 3)),([],gq (0+s 4) (j 4)),([],gq (7+s 5) (j 5)),([],gq (6+s 6) (j 6)),([],gq (2+s 7) (j 7)),([],gq (6+s 8) (j 8)),([],gq (4+s 9) (j 9))]),k:=7,nn:=0,Pm:=12,H:=aQ 0x1dad84de9100028281831a01771903026da49f06a2d3aa0307c688ad9d84de9100028280831801761703026ca49f06a2d3aa0307c688ad9d84de910002827f831601751503026ba49f06a2d3aa0307c688ad9d84de910002827e831401741303026aa49f06a2d3aa0307c688ad9d84de910002827d8312017311030269a49f06a2d3aa0307c688ad9d84de910002827c831001720f030268a49f06a2d3aa0307c688ad9d84de910002827b830e01710d030267a49f06a2d3aa0307c688ad9d84de910002827a830c01700b030266a49f06a2d3aa0307c688ad9d84de9100028279830a016f09030265a49f06a2d3aa0307c688ad9d84de91000282788308016e0703b8a49f06a2d3aa0307c688ad9d84de,N:=704,
 cF:=λa=>JY (a 0) (a 1) (a 2) g,oF:=λa=>[hK 0 10,aa [] 0,Ah w.2 aO false,aa b f,mI t,a4 (some (.ref (a 3))),a4 (some (.ref (a 4)))],
 uF:=λa n e=>[hK 10 0,yf j (JZ t e) 10,Ah w.2 (J0 t e) true,aa b f,mI t,a4 (some (.ref (a 3))),a4 (some (.ref (a 4)))],nF:=λa n e=>[],rF:=λa n e=>.end_ (.ok .next),idx:=[],Pn:=[5,11,17,23,29,35,41,47,53,59,1,54],d:=100,u:=1000,
 facts:=[true=true,(4+s 9).fmod 10=(j 9:Int)/\j 9<10,true=true,∃c,ct (bP b 9).reverse c/\c.sum=s 9,true=true,b.length<=900,true=true,(6+s 8).fmod 10=(j 8:Int)/\j 8<10,true=true,∃c,ct (bP b 8).reverse c/\c.sum=s 8,true=true,b.length<=900,true=true,(2+s 7).fmod 10=(j 7:Int)/\j 7<10,true=true,∃c,ct (bP b 7).reverse c/\c.sum=s 7,true=true,b.length<=900,true=true,(6+s 6).fmod 10=(j 6:Int)/\j 6<10,true=true,∃c,ct (bP b 6).reverse c/\c.sum=s 6,true=true,b.length<=900,true=true,(7+s 5).fmod 10=(j 5:Int)/\j 5<10,true=true,∃c,ct (bP b 5).reverse c/\c.sum=s 5,true=true,b.length<=900,true=true,(0+s 4).fmod 10=(j 4:Int)/\j 4<10,true=true,∃c,ct (bP b 4).reverse c/\c.sum=s 4,true=true,b.length<=900,true=true,(3+s 3).fmod 10=(j 3:Int)/\j 3<10,true=true,∃c,ct (bP b 3).reverse c/\c.sum=s 3,true=true,b.length<=900,true=true,(1+s 2).fmod 10=(j 2:Int)/\j 2<10,true=true,∃c,ct (bP b 2).reverse c/\c.sum=s 2,true=true,b.length<=900,true=true,(8+s 1).fmod 10=(j 1:Int)/\j 1<10,true=true,∃c,ct (bP b 1).reverse c/\c.sum=s 1,true=true,b.length<=900,true=true,(0+s 0).fmod 10=(j 0:Int)/\j 0<10,true=true,∃c,ct (bP b 0).reverse c/\c.sum=s 0,true=true,b.length<=900]}
theorem M6:(N2 w b c s j d t B).PG [(5,851),(6,852)] w:=by intro a e f;kernel_rfl
def Ek (w:World) (b:P5) (c:Nat) (e:Addr) (t:P2) (B:P8):a7:={
 B:=λa=>B,Hd:=none,O:=oB [],k:=7,nn:=0,Pm:=0,H:=65536,N:=11,
 cF:=λa=>ye (a 0) (a 1) (a 2) e,oF:=λa=>[hK 0 10,aa [] 0,Ah w.2 aO false,aa b c,mI t,a4 (some (.ref (a 3))),a4 (some (.ref (a 4)))],
 uF:=λa n f=>[hK 0 10,aa [] 0,Ah w.2 aO false,aa b c,mI t,a4 (some (.ref (a 3))),a4 (some (.ref (a 4)))],nF:=λa n f=>[],rF:=λa n f=>.again (JY (a 0) (a 1) (a 2) e),idx:=[],Pn:=[],d:=100,u:=1000,
 facts:=[]}
theorem J1:(Ek (eK true w) xs nx fr t B).PG [(5,851),(6,852)] (eK true w):=by intro a b c;kernel_rfl
def El (w:World) (b:P5) (c:Nat) (e:Addr) (t:P2) (B:P8):a7:={
 B:=λa=>B,Hd:=none,O:=oB [],k:=7,nn:=0,Pm:=0,H:=0x1010001000101010000,N:=21,
 cF:=λa=>ye (a 0) (a 1) (a 2) e,oF:=λa=>[hK 0 10,aa [] 0,Ah w.2 aO false,aa b c,mI t,a4 (some (.ref (a 3))),a4 (some (.ref (a 4)))],
 uF:=λa n f=>[hK 0 10,aa [] 0,Ah w.2 aO false,aa b c,mI t,a4 (some (.ref (a 3))),a4 (some (.ref (a 4)))],nF:=λa n f=>[],rF:=λa n f=>.again (JY (a 0) (a 1) (a 2) e),idx:=[],Pn:=[],d:=100,u:=1000,
 facts:=[]}
theorem J2:(El (eK false w) xs nx fr t B).PG [(5,851),(6,852)] (eK false w):=by intro a b c;kernel_rfl
section
noncomputable def Ai (k:Nat):Int:=[0,8,1,3,0,7,6,2,6,4].getD k 0
def KG (w:World) (b:P5) (c:Nat) (t:P2) (a:P4):P7:=[hK 0 10,aa [] 0,Ah w.2 aO false,aa b c,mI t,a4 (some (.ref (a 3))),a4 (some (.ref (a 4)))]
def M7 (w:World) (c:P5) (d:Nat) (j:Nat->Nat) (t b:P2) (a:P4):P7:=[av,yf j b 10,Ah w.2 (sh 10 b) true,aa c d,mI t,a4 (some (.ref (a 3))),a4 (some (.ref (a 4)))]
def yg (b:P5) (j:Nat->Nat):Prop:=∃s:Nat->Int,(∀k,∃a,ct (bP b k).reverse a/\a.sum=s k)/\∀k,(Ai k+s k).fmod 10=(j k:Int)/\j k<10
noncomputable def J3 (t d:P2) (i:Nat):Tok:=match Nat.ble 10 i with
 |true=>d (i-10)
 |false=>t i
section
variable {w:World} {F:aA} {B:P8} {a:P4} {fr:Addr} {d:P5} {nx:Nat} {j:Nat->Nat} {t:P2} {b:P1}
theorem Em (e:Le (top w.2) F) (f:d.length<=900) (h:yg d j) (o:a 5=851/\a 6=852):
  ah aX w F 100 1000 B none (ye (ae 7 a 0) (ae 7 a 1) (ae 7 a 2) fr) (ab a (KG w d nx t (ae 7 a))) (λY k=>M7 w d nx j t k (ae 7 a)) 0 12 (λY Y=>[]) (λY Y=>.end_ (.ok .next)) (λY Y=>[]):=by
 obtain ⟨s,g,i⟩:=h;have m:∀x∈([(5,851),(6,852)]:List (Nat×Addr)),x.1<7/\a x.1=x.2:=λx p=>by
  simp only [List.mem_cons,List.not_mem_nil,or_false] at p;rcases p with rfl|rfl
  ·exact ⟨by show 5<7;decide,o.1⟩
  ·exact ⟨by show 6<7;decide,o.2⟩
 have n:∀l,Le F l->ah aX w l 100 1000 B none (JY (ae 7 a 0) (ae 7 a 1) (ae 7 a 2) fr) (ab a (KG w d nx t (ae 7 a))) (λY k=>M7 w d nx j t k (ae 7 a)) 0 12 (λY Y=>[]) (λY Y=>.end_ (.ok .next)) (λY Y=>[]):=λl c=>by
  have e:=e.trans c;have u:=((N2 w d nx s j fr t B).PO [(5,851),(6,852)] e (bh (aI ⟨λY Y=>bW,λY Y=>bW,λY Y=>bW,λY Y=>bW,λY Y=>bW,λY Y=>bW,λY Y=>bW,λY Y=>bW,λY Y=>bW,λY Y=>bW,λY Y=>cn,λY Y=>cn,λY Y=>cn,λY Y=>cn,λY Y=>cn,λY Y=>cn,λY Y=>cn,λY Y=>cn,λY Y=>cn,λY Y=>cn,λY c=>cR (e.trans c),λY c=>cR (e.trans c),λY c=>cR (e.trans c),λY c=>cR (e.trans c),λY c=>cR (e.trans c),λY c=>cR (e.trans c),λY c=>cR (e.trans c),λY c=>cR (e.trans c),λY c=>cR (e.trans c),λY c=>cR (e.trans c),trivial⟩)) bL M6 (ag ⟨rfl,i 9,rfl,g 9,rfl,f,rfl,i 8,rfl,g 8,rfl,f,rfl,i 7,rfl,g 7,rfl,f,rfl,i 6,rfl,g 6,rfl,f,rfl,i 5,rfl,g 5,rfl,f,rfl,i 4,rfl,g 4,rfl,f,rfl,i 3,rfl,g 3,rfl,f,rfl,i 2,rfl,g 2,rfl,f,rfl,i 1,rfl,g 1,rfl,f,rfl,i 0,rfl,g 0,rfl,f,trivial⟩) (λY=>rfl) rfl rfl a m).gone 0;exact ah.Pt (λY k=>J3 (JZ t k) (J0 t k)) u (λY Y=>by kernel_rfl) (λY Y=>rfl) (λY Y=>rfl) (λY Y=>rfl)
 have R:∀r,eK r w=w->ah aX w F 100 1000 B none (ye (ae 7 a 0) (ae 7 a 1) (ae 7 a 2) fr) (ab a (KG w d nx t (ae 7 a))) (λY Y=>KG w d nx t (ae 7 a)) 0 0 (λY Y=>[]) (λY Y=>.again (JY (ae 7 a 0) (ae 7 a 1) (ae 7 a 2) fr)) (λY Y=>[]):=λr q=>by
  cases r with
  |true=>
   have r:=J1 (w:=w) (xs:=d) (nx:=nx) (fr:=fr) (t:=t) (B:=B);rw [q] at r;exact (Ek w d nx fr t B).PO [(5,851),(6,852)] e cG bL r (ag (by dsimp only [Ek,ip])) (λY=>rfl) rfl rfl a m
  |false=>
   have r:=J2 (w:=w) (xs:=d) (nx:=nx) (fr:=fr) (t:=t) (B:=B);rw [q] at r;exact (El w d nx fr t B).PO [(5,851),(6,852)] e cG bL r (ag (by dsimp only [El,ip])) (λY=>rfl) rfl rfl a m
 exact ah.seq (R _ (gM w)) (λY Y=>rfl) (λY Y=>rfl) λl c v k=>n l c
noncomputable def N3 (a:P4) (i:Nat):Addr:=match i with
 |0=>a 0
 |1=>a 1
 |2=>a 2
 |3=>a 3
 |4=>a 4
 |5=>851
 |_=>852
def Cc (w:World) (d:P5) (j:Nat->Nat):aY:=λc e Y=>
 {need:=100,Po:=1000,code:=ye (fA e 0) (fA e 1) (fA e 2) (oC c),
  fs:=[(fA e 0,hK 0 10),(fA e 1,aa [] 0),(fA e 2,Ah w.2 aO false),(fA e 3,aa d (Pr (fO e 3))),(fA e 4,mI (aE (fO e 4))),(851,a4 (some (.ref (fA e 3)))),(852,a4 (some (.ref (fA e 4))))],
  Pq:=[d.length<=900/\yg d j],wants:=[],hand:=some none,
  upd:=λY f=>M7 w d (Pr (fO e 3)) j (aE (fO e 4)) f (N3 (fA e)),nn:=0,new:=λY Y=>[],Pm:=12,res:=λY Y=>.end_ (.ok .next),gives:=λY Y=>[]}
theorem yh (e:Le (top w.2) F) (y:Code) (c:Qa) (kn:Qb):(Cc w d j y c kn).Ok w F:=by
 intro f l C H m g;obtain ⟨h,i⟩:d.length<=900/\yg d j:=f _ (.head _);have k:H=none:=g none rfl;subst k;exact ah.Pu (Em (a:=N3 (fA c)) (fr:=oC y) (B:=C) (nx:=Pr (fO c 3)) (t:=aE (fO c 4)) e h i ⟨rfl,rfl⟩)
def gs (j:Nat->Nat):P1:=[dP (j 0),dP (j 1),dP (j 2),dP (j 3),dP (j 4),dP (j 5),dP (j 6),dP (j 7),dP (j 8),dP (j 9)].flatten
theorem dz (k:Nat):(dP k).length<=2:=by
 unfold dP
 match k with
 |0|1|2|3|4|5|6|7|8|9=>decide
 |n+10=>simp
theorem En (k:Nat):bw (dP k):=by
 unfold dP
 match k with
 |0|1|2|3|4|5|6|7|8|9=>intro c e;simp at e;unfold Al;lia
 |n+10=>intro c e;simp at e
theorem nD (j:Nat->Nat):(gs j).length<=20:=by
 unfold gs;simp only [List.flatten_cons,List.flatten_nil,List.length_append,List.length_nil];have:=dz (j 0);have:=dz (j 1);have:=dz (j 2);have:=dz (j 3);have:=dz (j 4);have:=dz (j 5);have:=dz (j 6);have:=dz (j 7);have:=dz (j 8);have:=dz (j 9);lia
theorem qY (j:Nat->Nat):bw (gs j):=λc e=>by
 unfold gs at e;obtain ⟨l,f,e⟩:=List.mem_flatten.mp e;simp only [List.mem_cons,List.not_mem_nil,or_false] at f;rcases f with rfl|rfl|rfl|rfl|rfl|rfl|rfl|rfl|rfl|rfl<;>exact En _ c e
def Cd (j:Nat->Nat):aY:=λc e Y=>
 {need:=20,Po:=200,code:=.call (.builtin "str.join") ⟨[.str (mk []) (aR (bD c 0)),.ref (fA e 0)],[]⟩,fs:=[(fA e 0,yf j (aE (fO e 0)) 10)],Pq:=[],wants:=[],
  upd:=λY Y=>[yf j (aE (fO e 0)) 10],nn:=0,new:=λY Y=>[],Pm:=1,res:=λY f=>.end_ (.ok (.ret (.str (mk (gs j)) (f 0)))),gives:=λY Y=>[]}
def M8 (j:Nat->Nat) (t:P2):List (Str×Tok):=[(mk (dP (j 0)),t 0),(mk (dP (j 1)),t 1),(mk (dP (j 2)),t 2),(mk (dP (j 3)),t 3),(mk (dP (j 4)),t 4),(mk (dP (j 5)),t 5),(mk (dP (j 6)),t 6),(mk (dP (j 7)),t 7),(mk (dP (j 8)),t 8),(mk (dP (j 9)),t 9)]
theorem yi (c:Code) (f:Qa) (kn:Qb):(Cd j c f kn).Ok w F:=by
 intro r _ u v _ _ A s R x y z g e i m;have n:=e (fA f 0,yf j (aE (fO f 0)) 10) (.head _);have C:=nD j;refine aK.o (aq (SC.join (l:=M8 j (aE (fO f 0))) (texts:=[dP (j 0),dP (j 1),dP (j 2),dP (j 3),dP (j 4),dP (j 5),dP (j 6),dP (j 7),dP (j 8),dP (j 9)].map mk) ⟨_,n.1,rfl,_,rfl⟩ rfl (je _ (by show (gs j).length<=1000;lia)) λo k=>?_))
 rw [jO];exact m {s with toks:=k} (λY=>0) (λY=>o) F (bz g _) (λY h=>absurd h (Nat.not_lt_zero _)) (λY h=>by cases h) (a5 s _ _ (λq p=>(e q p).1) _)
def yj (w:World) (b:P1):aY:=λc e Y=>
 {need:=350,Po:=3500,code:=.call (.ref 843) ⟨[.str (mk b) (aR (bD c 0))],[]⟩,fs:=[(fA e 0,aS (bE (fO e 0)) (bF (fO e 0)) #[]),(78,dk 0)],Pq:=[GW b 0 (b.length+1) [] false/\bw b/\b.length<=900],wants:=[],below:=some [d5 (fA e 0),d6],hand:=some none,
  upd:=λY f=>[aS (bE (fO e 0)) (bF (fO e 0)) (dh (bT (f 0))),dk (f 1)],nn:=0,new:=λY Y=>[],Pm:=2,res:=λY Y=>.end_ (.ok (.ret (.bool true))),gives:=λY Y=>[]}
theorem uH (f:Le (top w.2) F) (c:Code) (e:Qa) (kn:Qb):(yj w b c e kn).Ok w F:=by
 intro g n C H i k;have h:GW b 0 (b.length+1) [] false/\bw b/\b.length<=900:=g _ (.head _);have l:H=none:=k none rfl;subst l;rw [i _ rfl];exact ah.Pu ((NZ w b (bE (fO e 0)) (bF (fO e 0)) (aR (bD c 0))).PD 1 78 f (bh (aI ⟨λY Y=>qW,λY Y=>uE,λY m=>ya (f.trans m),trivial⟩)) bL M3 (ag ⟨rfl,h,rfl,⟨by show ((b.length:Nat):Int)+1=_;lia,by lia⟩,rfl,au (by lia),trivial⟩) (λY=>rfl) rfl rfl (B1 (fA e 0)) (by show 1<2;decide) rfl)
end
end
def M9 (a:P2):Nat->Tok:=bl aO [(0,(a 2)),(1,(a 3)),(2,(a 4)),(3,(a 5)),(4,(a 6)),(5,(a 7)),(6,(a 8)),(7,(a 9)),(8,(a 10)),(9,(a 11))]
def N4 (w:World) (b:P5) (e:Nat) (j:Nat->Nat):a7:={
 B:=λa=>[d6],Hd:=none,O:=oT [] (aC [([],Cc w b j),([],Cd j),([],yj w (gs j))]),k:=5,nn:=1,Pm:=12,H:=aQ 0x2000266c1e40a969f050109089364d0a60784e10700939eaa00,N:=86,
 cF:=λa=>d5 (a 0),oF:=λa=>[aS #[] 0 #[],aa b e,dk 0,a4 (some (.ref (a 1))),a4 none],
 uF:=λa n c=>[aS #[] 0 (dh (bT (c 0))),aa b e,dk (c 1),a4 (some (.ref (a 1))),a4 (some (.ref (n 0)))],nF:=λa n c=>[mI (M9 c)],rF:=λa n c=>.end_ (.ok (.ret (.bool true))),idx:=[5],Pn:=[27,28,0,1,2,3,4,5,6,7,8,9],d:=450,u:=4500,
 facts:=[true=true,GW (gs j) 0 ((gs j).length+1) [] false/\bw (gs j)/\(gs j).length<=900,true=true,true=true,b.length<=900/\yg b j]}
theorem Na:(N4 w b c j).PG [(2,78),(3,851),(4,852)] w:=by intro a d e;kernel_rfl
section
section
variable {α:Type} [DecidableEq α]
theorem jT:∀(l:List α) (b:α->Nat) (o:List α),(∀x,b x<=o.count x)->(bM b l).length<=o.length
 |[],_,_,_=>Nat.zero_le _
 |x::l,b,o,h=>by
  unfold bM;by_cases a:0<b x
  ·rw [if_pos a]
   have c:x∈o:=List.count_pos_iff.mp (Nat.lt_of_lt_of_le a (h x));have:=jT l (dw b x) (o.erase x) λy=>by
    unfold dw;by_cases e:y=x
    ·subst e
     rw [if_pos rfl,List.count_erase_self];have:=h y;lia
    ·rw [if_neg e,List.count_erase_of_ne e]
     exact h y
   simp only [List.length_erase_of_mem c] at this;have d:0<o.length:=List.length_pos_of_mem c;simp only [List.length_cons];lia
  ·rw [if_neg a]
   exact jT l b o h
theorem qZ (b a o:List α) (h:∀x,b.count x<=o.count x+a.count x):(kh b a).length<=o.length:=
 jT _ _ _ λx=>by have:=h x;omega
theorem Eo (n a o:List α):(kh (n++a) (o++a).reverse).length<=n.length:=qZ _ _ n λx=>by
 rw [List.count_reverse,List.count_append,List.count_append];lia
theorem Ep (n a o:List α):(kh (o++a).reverse (n++a).reverse).length<=o.length:=qZ _ _ o λx=>by
 rw [List.count_reverse,List.count_reverse,List.count_append,List.count_append];lia
end
theorem kH {o n base:List af} {a:Bool} (b:n.length<=1) (c:a=true\/o.length<=1):iG (o++base) (n++base) a:=by
 refine ⟨?_,c.imp id λh=>?_⟩
 ·rw [jj,List.reverse_reverse]
  exact Nat.lt_of_le_of_lt (Eo n base o) (Nat.lt_succ_of_le b)
 ·rw [jj]
  exact Nat.lt_of_le_of_lt (Ep n base o) (Nat.lt_succ_of_le h)
inductive Md where
 |B
 |N (w:P1)
 |M (w:P1)
 |E (w:P1)
 |V (w v:P1)
structure AS where
 m:Md
 C:List af
 D:List (List af)
noncomputable def AS.fin (s:AS):List af:=match s.m with
 | .B=>s.C
 | .N w=>(w,none)::s.C
 | .M w=>(w,none)::s.C
 | .E w=>(w,some [])::s.C
 | .V w v=>(w,some v)::s.C
noncomputable def mJ (C:List af) (D:List (List af)) (c:Nat):AS:=if c=44 then ⟨.B,[],C::D⟩ else ⟨.B,C,D⟩
def fL (s:AS) (c:Nat):AS:=match s.m with
 | .B=>if aT c then ⟨.N [c],s.C,s.D⟩ else mJ s.C s.D c
 | .N w=>if aT c then ⟨.N (w++[c]),s.C,s.D⟩ else if c=32 then ⟨.M w,s.C,s.D⟩ else if c=61 then ⟨.E w,s.C,s.D⟩ else mJ ((w,none)::s.C) s.D c
 | .M w=>if aT c then ⟨.N [c],(w,none)::s.C,s.D⟩ else if c=32 then s else if c=61 then ⟨.E w,s.C,s.D⟩ else mJ ((w,none)::s.C) s.D c
 | .E w=>if aG c then ⟨.V w [c],s.C,s.D⟩ else if c=32 then s else mJ ((w,some [])::s.C) s.D c
 | .V w v=>if aG c then ⟨.V w (v++[c]),s.C,s.D⟩ else mJ ((w,some v)::s.C) s.D c
noncomputable def AS.out (s:AS):List af:=s.fin++s.D.flatten
noncomputable def AS.core (s:AS):List af:=s.C++s.D.flatten
theorem AS.PK (s:AS):∃y:List af,s.out=y++s.core/\y.length<=1:=by
 obtain ⟨m,C,D⟩:=s;cases m
 ·exact ⟨[],rfl,Nat.zero_le _⟩
 all_goals exact ⟨[_],rfl,Nat.le_refl _⟩
theorem bJ (C:List af) (D:List (List af)) (c:Nat):(mJ C D c).out=C++D.flatten/\(mJ C D c).core=C++D.flatten:=by
 unfold mJ;split
 ·simp [AS.out,AS.core,AS.fin]
 ·simp [AS.out,AS.core,AS.fin]
theorem oU (s:AS) (c:Nat):∃o n a:List af,s.out=o++a/\(fL s c).out=n++a/\o.length<=1/\n.length<=1/\∃x,(fL s c).core=x++s.core:=by
 obtain ⟨m,C,D⟩:=s;cases m with
 |B=>
  refine ⟨[],(if aT c then [([c],none)] else []),C++D.flatten,rfl,?_,by simp,by split<;>simp,[],?_⟩
  ·unfold fL;dsimp only;split
   ·rfl
   ·exact (bJ _ _ _).1
  ·unfold fL;dsimp only;split
   ·rfl
   ·exact (bJ _ _ _).2
 |N w=>
  unfold fL;dsimp only;split
  ·exact ⟨[(w,none)],[(w++[c],none)],C++D.flatten,rfl,rfl,Nat.le_refl _,Nat.le_refl _,[],rfl⟩
  split
  ·exact ⟨[(w,none)],[(w,none)],C++D.flatten,rfl,rfl,Nat.le_refl _,Nat.le_refl _,[],rfl⟩
  split
  ·exact ⟨[(w,none)],[(w,some [])],C++D.flatten,rfl,rfl,Nat.le_refl _,Nat.le_refl _,[],rfl⟩
  ·exact ⟨[(w,none)],[(w,none)],C++D.flatten,rfl,(bJ _ _ _).1,Nat.le_refl _,Nat.le_refl _,[(w,none)],(bJ _ _ _).2⟩
 |M w=>
  unfold fL;dsimp only;split
  ·exact ⟨[],[([c],none)],(w,none)::C++D.flatten,rfl,rfl,Nat.zero_le _,Nat.le_refl _,[(w,none)],rfl⟩
  split
  ·exact ⟨[(w,none)],[(w,none)],C++D.flatten,rfl,rfl,Nat.le_refl _,Nat.le_refl _,[],rfl⟩
  split
  ·exact ⟨[(w,none)],[(w,some [])],C++D.flatten,rfl,rfl,Nat.le_refl _,Nat.le_refl _,[],rfl⟩
  ·exact ⟨[(w,none)],[(w,none)],C++D.flatten,rfl,(bJ _ _ _).1,Nat.le_refl _,Nat.le_refl _,[(w,none)],(bJ _ _ _).2⟩
 |E w=>
  unfold fL;dsimp only;split
  ·exact ⟨[(w,some [])],[(w,some [c])],C++D.flatten,rfl,rfl,Nat.le_refl _,Nat.le_refl _,[],rfl⟩
  split
  ·exact ⟨[(w,some [])],[(w,some [])],C++D.flatten,rfl,rfl,Nat.le_refl _,Nat.le_refl _,[],rfl⟩
  ·exact ⟨[(w,some [])],[(w,some [])],C++D.flatten,rfl,(bJ _ _ _).1,Nat.le_refl _,Nat.le_refl _,[(w,some [])],(bJ _ _ _).2⟩
 |V w v=>
  unfold fL;dsimp only;split
  ·exact ⟨[(w,some v)],[(w,some (v++[c]))],C++D.flatten,rfl,rfl,Nat.le_refl _,Nat.le_refl _,[],rfl⟩
  ·exact ⟨[(w,some v)],[(w,some v)],C++D.flatten,rfl,(bJ _ _ _).1,Nat.le_refl _,Nat.le_refl _,[(w,some v)],(bJ _ _ _).2⟩
noncomputable def b8:List Nat->P1
 |[]=>[]
 |[c]=>[c]
 |c::d::r=>if c=92 then d::b8 r else c::b8 (d::r)
inductive QS where
 |n (s:AS)
 |q (w q:P1) (e:Bool) (C:List af) (D:List (List af)) (s:AS)
noncomputable def QS.as:QS->AS
 | .n s=>s
 | .q _ _ _ _ _ s=>s
noncomputable def QS.rf:QS->Bool
 | .n _=>false
 | .q .. =>true
def q5 (s:AS):QS:=match s.m with
 | .E w=>.q w [] false s.C s.D (fL s 34)
 |_=>.n (fL s 34)
def cS (z:QS) (c:Nat):QS:=match z with
 | .n s=>if c=34 then q5 s else .n (fL s c)
 | .q w q e C D s=>if c=34/\e=false then .n ⟨.B,(w,some (b8 q))::C,D⟩ else .q w (q++[c]) (decide (c=92)&& !e) C D (fL s c)
def QS.Ok:QS->Prop
 | .n _=>True
 | .q _ _ _ C D s=>(∃x,s.core=x++(C++D.flatten))/\s.out≠[]
theorem yk {o n base:List af} {s:AS} {c:Nat}:s.out≠[]->(fL s c).out≠[]:=by
 intro h;obtain ⟨m,C,D⟩:=s;cases m with
 |B=>
  unfold fL;dsimp only;split
  ·simp [AS.out,AS.fin]
  ·rw [(bJ _ _ _).1];exact h
 |N w=>
  unfold fL;dsimp only;split
  ·simp [AS.out,AS.fin]
  split
  ·simp [AS.out,AS.fin]
  split
  ·simp [AS.out,AS.fin]
  ·rw [(bJ _ _ _).1];simp
 |M w=>
  unfold fL;dsimp only;split
  ·simp [AS.out,AS.fin]
  split
  ·simp [AS.out,AS.fin]
  split
  ·simp [AS.out,AS.fin]
  ·rw [(bJ _ _ _).1];simp
 |E w=>
  unfold fL;dsimp only;split
  ·simp [AS.out,AS.fin]
  split
  ·simp [AS.out,AS.fin]
  ·rw [(bJ _ _ _).1];simp
 |V w v=>
  unfold fL;dsimp only;split
  ·simp [AS.out,AS.fin]
  ·rw [(bJ _ _ _).1];simp
theorem q6 (s:AS):(q5 s).as=fL s 34:=by
 unfold q5;split<;>rfl
set_option tactic.hygienic true in
theorem yl (s:AS):(q5 s).Ok:=by
 obtain ⟨m,C,D⟩:=s;cases m
 case E w=>exact ⟨⟨[],rfl⟩,by simp [fL,aG,AS.out,AS.fin]⟩
 all_goals trivial
theorem ym (z:QS) (c:Nat) (h:z.Ok):(cS z c).Ok:=by
 cases z with
 |n s=>
  unfold cS;dsimp only;split
  ·exact yl s
  ·trivial
 |q w q e C D s=>
  unfold cS;dsimp only;split
  ·trivial
  ·obtain ⟨⟨x,a⟩,b⟩:=h
   obtain ⟨_,_,_,_,_,_,_,y,d⟩:=oU s c;exact ⟨⟨y++x,by rw [d,a,List.append_assoc]⟩,yk (o:=[]) (n:=[]) (base:=[]) b⟩
set_option tactic.hygienic true in
theorem yn (z:QS) (c:Nat) (h:z.Ok):iG z.as.out (cS z c).as.out (z.rf&& !(cS z c).rf)/\(z.rf=true->(cS z c).as.out≠[]):=by
 cases z with
 |n s=>
  have e:(cS (.n s) c).as=fL s c:=by
   unfold cS;dsimp only;split
   ·rename_i h;subst h;exact q6 s
   ·rfl
  obtain ⟨o,n,a,b,d,f,g,_⟩:=oU s c;rw [e,d];refine ⟨?_,λh=>by cases h⟩
  show iG s.out _ _;rw [b];exact kH g (.inr f)
 |q w q e C D s=>
  unfold cS;dsimp only;obtain ⟨⟨x,i⟩,j⟩:=h;split
  ·refine ⟨?_,λY=>by simp [QS.as,AS.out,AS.fin]⟩
   obtain ⟨y,k,_⟩:=s.PK;show iG s.out ([(w,some (b8 q))]++(C++D.flatten)) _;rw [k,i,<-List.append_assoc];exact kH (Nat.le_refl _) (.inl rfl)
  ·obtain ⟨o,n,a,b,d,f,g,_⟩:=oU s c
   refine ⟨?_,λY=>yk (o:=[]) (n:=[]) (base:=[]) j⟩;show iG s.out (fL s c).out _;rw [b,d];exact kH g (.inr f)
noncomputable def q0:QS:=.n ⟨.B,[],[]⟩
def d3 (x:P1):QS:=x.foldl cS q0
theorem Aj (x:P1):(d3 x).Ok:=by
 have:∀(x:P1) (z:QS),z.Ok->(x.foldl cS z).Ok:=by
  intro x
  induction x with
  |nil=>exact λY h=>h
  |cons c x a=>exact λz h=>a _ (ym z c h)
 exact this x q0 trivial
end
section
def ez (b:Bool) (z:QS) (c:Nat):QS:=match b with
 |true=>cS z c
 |false=>match z with
  | .n s=>.n (fL s c)
  |z=>cS z c
def aZ (b:Bool) (s:AS) (x:P1):List (List af)×Bool:=
 let z:=x.foldl (ez b) (.n s)
 (z.as.fin::z.as.D,z.rf)
theorem J4 (b:Bool) (s:AS):aZ b s []=(s.fin::s.D,false):=rfl
set_option tactic.hygienic true in
theorem oV {b:Bool} {s:AS} {c:Nat} (h:c≠34\/∀w,s.m≠ .E w):ez b (.n s) c= .n (fL s c):=by
 cases b with
 |false=>rfl
 |true=>
  show cS (.n s) c=_;unfold cS;dsimp only;by_cases a:c=34
  ·rw [if_pos a]
   subst a;unfold q5;split
   ·rename_i w e
    rcases h with h|h
    ·exact absurd rfl h
    ·exact absurd e (h w)
   ·rfl
  ·rw [if_neg a]
theorem bk {b:Bool} {s:AS} {c:Nat} {x:P1} (h:c≠34\/∀w,s.m≠ .E w):aZ b s (c::x)=aZ b (fL s c) x:=by
 unfold aZ;simp only [List.foldl_cons];rw [oV h]
section
variable {b:Bool} {C:List af} {D:List (List af)} {w v a t x:P1} {c:Nat}
theorem Pl {m:Md} (h:∀w,m≠ .E w):∀w,(⟨m,C,D⟩:AS).m≠ .E w:=h
theorem nE:aZ b ⟨.B,C,D⟩ (32::x)=aZ b ⟨.B,C,D⟩ x:=bk (.inl (by decide))
theorem gQ (h:c=61\/c=59):aZ b ⟨.B,C,D⟩ (c::x)=aZ b ⟨.B,C,D⟩ x:=by
 rcases h with rfl|rfl<;>exact bk (.inl (by decide))
theorem jU:aZ b ⟨.B,C,D⟩ (44::x)=aZ b ⟨.B,[],C::D⟩ x:=bk (.inl (by decide))
theorem mg (h:∀c∈a,pJ c=true):aZ b ⟨.B,C,D⟩ (a++x)=aZ b ⟨.B,C,D⟩ x:=by
 induction a with
 |nil=>rfl
 |cons c a f=>
  have g:=h c (by simp)
  have g:c=61\/c=32\/c=59:=by simpa [pJ,or_assoc] using g
  simp only [List.cons_append];rcases g with rfl|rfl|rfl
  ·rw [gQ (.inl rfl)];exact f λd e=>h d (by simp [e])
  ·rw [nE];exact f λd e=>h d (by simp [e])
  ·rw [gQ (.inr rfl)];exact f λd e=>h d (by simp [e])
theorem mh (h:∀c∈a,aW c=true):∀c∈a,pJ c=true:=λc d=>by
 have:c=32:=by simpa [aW] using h c d
 subst this;rfl
theorem yo (d:aT c=true):aZ b ⟨.B,C,D⟩ (c::x)=aZ b ⟨.N [c],C,D⟩ x:=by
 rw [bk (.inr (by intro w e;injection e))]
 show aZ b (if aT c then _ else _) x=_
 rw [if_pos d]
theorem Ak (h:∀c∈a,aT c=true):aZ b ⟨.N w,C,D⟩ (a++x)=aZ b ⟨.N (w++a),C,D⟩ x:=by
 induction a generalizing w with
 |nil=>rw [List.append_nil];rfl
 |cons c a f=>
  rw [List.cons_append,bk (.inr (by intro w e;injection e))]
  show aZ b (if aT c then _ else _) _=_
  rw [if_pos (h c (.head _)),f λd g=>h d (by simp [g]),List.append_assoc];rfl
theorem oW (h:∀c∈a,aG c=true):aZ b ⟨.V w v,C,D⟩ (a++x)=aZ b ⟨.V w (v++a),C,D⟩ x:=by
 induction a generalizing v with
 |nil=>rw [List.append_nil];rfl
 |cons c a f=>
  rw [List.cons_append,bk (.inr (by intro w e;injection e))]
  show aZ b (if aG c then _ else _) _=_
  rw [if_pos (h c (.head _)),f λd g=>h d (by simp [g]),List.append_assoc];rfl
theorem yp (d:aG c=true) (h:b=false\/c≠34):aZ b ⟨.E w,C,D⟩ (c::x)=aZ b ⟨.V w [c],C,D⟩ x:=by
 have e:ez b (.n ⟨.E w,C,D⟩) c= .n (fL ⟨.E w,C,D⟩ c):=by
  rcases h with rfl|h
  ·rfl
  ·exact oV (.inl h)
 unfold aZ;simp only [List.foldl_cons];rw [e];show (let z:=List.foldl (ez b) (QS.n (if aG c then _ else _)) x;(z.as.fin::z.as.D,z.rf))=_
 rw [if_pos d]
theorem iH (h:t=[]\/∃c r,t=c::r/\(c=32\/c=59\/c=44)):aZ b ⟨.V w v,C,D⟩ t=aZ b ⟨.B,(w,some v)::C,D⟩ t:=by
 rcases h with rfl|⟨c,r,rfl,h⟩
 ·rfl
 ·have e:c≠34:=by rcases h with rfl|rfl|rfl<;>decide
  rw [bk (.inl e),bk (.inl e)];rcases h with rfl|rfl|rfl<;>rfl
theorem q7 (h:t=[]\/∃c r,t=c::r/\(c=59\/c=44)):aZ b ⟨.E w,C,D⟩ t=aZ b ⟨.B,(w,some [])::C,D⟩ t:=by
 rcases h with rfl|⟨c,r,rfl,h⟩
 ·rfl
 ·have e:c≠34:=by rcases h with rfl|rfl<;>decide
  rw [bk (.inl e),bk (.inl e)];rcases h with rfl|rfl<;>rfl
theorem Ce:aZ b ⟨.N w,C,D⟩ (32::x)=aZ b ⟨.M w,C,D⟩ x:=bk (.inl (by decide))
theorem Er:aZ b ⟨.M w,C,D⟩ (32::x)=aZ b ⟨.M w,C,D⟩ x:=bk (.inl (by decide))
theorem q8 (h:∀c∈a,aW c=true):aZ b ⟨.M w,C,D⟩ (a++x)=aZ b ⟨.M w,C,D⟩ x:=by
 induction a with
 |nil=>rfl
 |cons c a e=>
  have f:c=32:=by simpa [aW] using h c (.head _)
  subst f;rw [List.cons_append,Er];exact e λd g=>h d (by simp [g])
theorem yq (h:∀c∈a,aW c=true):aZ b ⟨.E w,C,D⟩ (a++x)=aZ b ⟨.E w,C,D⟩ x:=by
 induction a with
 |nil=>rfl
 |cons c a e=>
  have f:c=32:=by simpa [aW] using h c (.head _)
  subst f;rw [List.cons_append,bk (.inl (by decide))];exact e λd g=>h d (by simp [g])
theorem yr:aZ b ⟨.N w,C,D⟩ (61::x)=aZ b ⟨.E w,C,D⟩ x/\aZ b ⟨.M w,C,D⟩ (61::x)=aZ b ⟨.E w,C,D⟩ x:=⟨bk (.inl (by decide)),bk (.inl (by decide))⟩
theorem oX (h:t=[]\/∃c r,t=c::r/\(c=59\/c=44\/aT c=true)):aZ b ⟨.M w,C,D⟩ t=aZ b ⟨.B,(w,none)::C,D⟩ t:=by
 rcases h with rfl|⟨c,r,rfl,h⟩
 ·rfl
 ·rw [bk (.inr (by intro w e;injection e)),bk (.inr (by intro w e;injection e))]
  rcases h with rfl|rfl|h
  ·rfl
  ·rfl
  ·show aZ b (if aT c then _ else _) r=aZ b (if aT c then _ else _) r
   rw [if_pos h,if_pos h]
end
noncomputable def bN:Bool->List Nat->Option (List Nat×P1)
 |_,[]=>none
 |e,c::l=>if c=34/\e=false then some ([],l) else (bN (decide (c=92)&& !e) l).map λp=>(c::p.1,p.2)
set_option tactic.hygienic true in
theorem gu:∀{l:P1} {e:Bool} {q r:P1},bN e l=some (q,r)->l=q++34::r
 |[],_,_,_,h=>by cases h
 |c::l,e,q,r,h=>by
  unfold bN at h;split at h
  ·rename_i a
   cases h;rw [a.1];rfl
  ·obtain ⟨⟨f,g⟩,b,d⟩:=Option.map_eq_some_iff.mp h
   cases d;rw [gu b];rfl
theorem fE:∀(n:Nat) {l q r:P1},l.length<=n->bN false l=some (q,r)->bX q (b8 q)
 |_,[],_,_,_,h=>by cases h
 |0,_::_,_,_,g,_=>by simp at g
 |n+1,c::l,q,r,g,h=>by
  simp only [List.length_cons] at g;unfold bN at h;by_cases j:c=34
  ·rw [if_pos ⟨j,rfl⟩] at h
   cases h;exact .nil
  ·rw [if_neg (λx=>j x.1)] at h
   obtain ⟨⟨f,t⟩,b,o⟩:=Option.map_eq_some_iff.mp h;cases o;by_cases a:c=92
   ·subst a
    cases l with
    |nil=>cases b
    |cons d l=>
     have b:bN true (d::l)=some (f,_):=b;unfold bN at b;rw [if_neg (λx=>by cases x.2)] at b
     obtain ⟨⟨k,u⟩,m,p⟩:=Option.map_eq_some_iff.mp b;cases p;have e:(decide (d=92)&& !true)=false:=by simp
     rw [e] at m;have i:=fE n (by simp only [List.length_cons] at g;lia) m
     show bX (92::d::k) (if (92:Nat)=92 then d::b8 k else _)
     rw [if_pos rfl];exact .PQ d i
   ·have e:(decide (c=92)&& !false)=false:=by simp [a]
    rw [e] at b;have i:=fE n (by lia) b
    have s:b8 (c::f)=c::b8 f:=by
     cases f with
     |nil=>rfl
     |cons d f=>show (if c=92 then _ else _)=_;rw [if_neg a]
    simp only [s];exact .chr a i
set_option tactic.hygienic true in
theorem ko:∀{l:P1} {e:Bool} {q r w p:P1} {C:List af} {D:List (List af)} {s:AS},bN e l=some (q,r)->
  l.foldl (ez true) (.q w p e C D s)=r.foldl (ez true) (.n ⟨.B,(w,some (b8 (p++q)))::C,D⟩)
 |[],_,_,_,_,_,_,_,_,h=>by cases h
 |c::l,e,q,r,w,p,C,D,s,h=>by
  unfold bN at h;simp only [List.foldl_cons];show l.foldl (ez true) (if c=34/\e=false then _ else _)=_
  split at h
  ·rename_i a
   cases h;rw [if_pos a,List.append_nil]
  ·rename_i a
   obtain ⟨⟨f,g⟩,b,d⟩:=Option.map_eq_some_iff.mp h;cases d;rw [if_neg a,ko b,List.append_assoc];rfl
set_option tactic.hygienic true in
theorem iI:∀{l:P1} {e:Bool} {w p:P1} {C:List af} {D:List (List af)} {s:AS},bN e l=none->
  (l.foldl (ez true) (.q w p e C D s)).as=l.foldl fL s/\(l.foldl (ez true) (.q w p e C D s)).rf=true
 |[],_,_,_,_,_,_,_=>⟨rfl,rfl⟩
 |c::l,e,w,p,C,D,s,h=>by
  unfold bN at h;split at h
  ·injection h
  ·rename_i a
   rw [List.foldl_cons,List.foldl_cons];have:ez true (.q w p e C D s) c= .q w (p++[c]) (decide (c=92)&& !e) C D (fL s c):=by
    show (if c=34/\e=false then _ else _)=_
    rw [if_neg a]
   rw [this];exact iI (Option.map_eq_none_iff.mp h)
set_option tactic.hygienic true in
theorem tE:∀{l:P1} {e:Bool} {s:AS},bN e l=none->(e=true->∀w,s.m≠ .E w)->l.foldl (ez true) (.n s)= .n (l.foldl fL s)
 |[],_,_,_,_=>rfl
 |c::l,e,s,h,f=>by
  unfold bN at h;split at h
  ·injection h
  ·rename_i g
   rw [List.foldl_cons,List.foldl_cons];rw [oV (by
    by_cases a:c=34
    ·refine .inr (f ?_)
     cases e with
     |true=>rfl
     |false=>exact absurd ⟨a,rfl⟩ g
    ·exact .inl a)]
   refine tE (Option.map_eq_none_iff.mp h) λd w=>?_;have b:c=92:=by
    simp only [Bool.and_eq_true] at d;exact of_decide_eq_true d.1
   subst b;obtain ⟨m,C,D⟩:=s;cases m<;>(intro q;injection q)
theorem jV:∀{l:P1} {s:AS},l.foldl (ez false) (.n s)= .n (l.foldl fL s)
 |[],_=>rfl
 |c::l,s=>by rw [List.foldl_cons,List.foldl_cons];exact jV
theorem nG {l q r w:P1} {C:List af} {D:List (List af)} (h:bN false l=some (q,r)):aZ true ⟨.E w,C,D⟩ (34::l)=aZ true ⟨.B,(w,some (b8 q))::C,D⟩ r:=by
 unfold aZ;have e:ez true (.n ⟨.E w,C,D⟩) 34= .q w [] false C D (fL ⟨.E w,C,D⟩ 34):=rfl;rw [List.foldl_cons,e,ko h];rfl
theorem q9 {l w:P1} {C:List af} {D:List (List af)} (h:bN false l=none):
  (aZ true ⟨.E w,C,D⟩ (34::l)).2=true/\(aZ true ⟨.E w,C,D⟩ (34::l)).1=(aZ false ⟨.V w [34],C,D⟩ l).1/\(aZ false ⟨.V w [34],C,D⟩ l).1=(aZ true ⟨.V w [34],C,D⟩ l).1:=by
 unfold aZ;have e:ez true (.n ⟨.E w,C,D⟩) 34= .q w [] false C D ⟨.V w [34],C,D⟩:=rfl;have a:=(iI (w:=w) (p:=[]) (C:=C) (D:=D) (s:=⟨.V w [34],C,D⟩) h).1;have b:=(iI (w:=w) (p:=[]) (C:=C) (D:=D) (s:=⟨.V w [34],C,D⟩) h).2;have c:=tE (s:=⟨.V w [34],C,D⟩) h (λe=>by injection e)
 refine ⟨by rw [List.foldl_cons,e];exact b,?_,?_⟩
 ·rw [List.foldl_cons,e]
  dsimp only;rw [a,jV];rfl
 ·dsimp only
  rw [c,jV]
end
section
section
variable {p:Nat->Bool} {l x:P1} {i c:Nat}
theorem oY (m:P1):m.drop (m.takeWhile p).length=m.dropWhile p/\m.take (m.takeWhile p).length=m.takeWhile p:=by
 induction m with
 |nil=>exact ⟨rfl,rfl⟩
 |cons c m a=>
  by_cases h:p c=true
  ·rw [List.takeWhile_cons,List.dropWhile_cons,if_pos h,if_pos h]
   exact ⟨a.1,congrArg (c::·) a.2⟩
  ·rw [List.takeWhile_cons,List.dropWhile_cons,if_neg h,if_neg h]
   exact ⟨rfl,rfl⟩
theorem jl:l.drop (i+tw p l i)=(l.drop i).dropWhile p:=by
 rw [<-List.drop_drop];exact (oY _).1
theorem Am:(l.drop i).take (tw p l i)=(l.drop i).takeWhile p:=(oY _).2
theorem fc:l.drop (tw p l 0)=l.dropWhile p:=by
 have:=jl (p:=p) (l:=l) (i:=0);simpa using this
theorem c4 {r:P1} (h:l.drop i=c::r):i<l.length/\l.getD i 0=c/\l.drop (i+1)=r:=by
 have a:i<l.length:=by
  have:=congrArg List.length h;simp at this;omega
 rw [List.drop_eq_getElem_cons a] at h;injection h with b d;exact ⟨a,by rw [List.getD_eq_getElem?_getD,List.getElem?_eq_getElem a];exact b,d⟩
theorem oZ {z:P1} (h:l.dropWhile aW=61::z):ku l/\l.drop (vB l)=z.dropWhile aW:=by
 rw [<-fc] at h;obtain ⟨a,b,d⟩:=c4 h;refine ⟨⟨a,b⟩,?_⟩;unfold vB;rw [jl,d]
theorem yt (h:∀z,l.dropWhile aW≠61::z):¬ku l:=λ⟨a,b⟩=>by
 refine h (l.drop (tw aW l 0+1)) ?_;rw [<-fc,List.drop_eq_getElem_cons a];rw [List.getD_eq_getElem?_getD,List.getElem?_eq_getElem a] at b;exact congrArg (· ::_) b
set_option tactic.hygienic true in
theorem cv {r:P1} (h:l.dropWhile p=c::r):p c=false:=by
 induction l with
 |nil=>cases h
 |cons d l a=>
  rw [List.dropWhile_cons] at h;split at h
  ·exact a h
  ·cases h
   rename_i b;simpa using b
theorem yu:∀c∈l.takeWhile p,p c=true:=λc a=>by
 have:=List.all_takeWhile (l:=l) (p:=p);rw [List.all_eq_true] at this;exact this c a
theorem bR:l.dropWhile p <:+ l:=List.dropWhile_suffix p
theorem bw.PE {m:P1} (h:bw l) (a:m <:+ l):bw m:=λc b=>h c (a.subset b)
theorem rb:∀{a m:P1},(∀c∈a,pQ c=true)->bN false (a++m)=(bN false m).map λq=>(a++q.1,q.2)
 |[],m,_=>by simp
 |c::a,m,h=>by
  have e:=h c (.head _);have b:c≠34/\c≠92:=by simpa [pQ] using e
  simp only [List.cons_append];show (if c=34/\false=false then _ else (bN (decide (c=92)&& !false) (a++m)).map _)=_
  rw [if_neg (λq=>b.1 q.1),show (decide (c=92)&& !false)=false by simp [b.2],rb λd f=>h d (by simp [f]),Option.map_map]
  rfl
theorem Cf:∀(n:Nat) {s:Nat},l.length-s<=n->QE l (s+tw pQ l s) ((bN false (l.drop s)).map λq=>s+q.1.length):=by
 intro n
 induction n with
 |zero=>
  intro s u;have:l.drop s=[]:=List.drop_eq_nil_of_le (by lia)
  rw [this];exact .eof (by lia)
 |succ n v=>
  intro s u;have e:=List.takeWhile_append_dropWhile (p:=pQ) (l:=l.drop s);have b:=jl (p:=pQ) (l:=l) (i:=s);have a:tw pQ l s=((l.drop s).takeWhile pQ).length:=rfl;have w:bN false (l.drop s)=(bN false ((l.drop s).dropWhile pQ)).map λq=>((l.drop s).takeWhile pQ++q.1,q.2):=by
   conv=>lhs;rw [<-e]
   exact rb yu
  rw [w,Option.map_map];cases g:(l.drop s).dropWhile pQ with
  |nil=>
   simp only [g] at b;exact .eof (by
    have:=congrArg List.length b;simp at this;lia)
  |cons c r=>
   simp only [g] at b;have k:=(c4 b).1;have h:=(c4 b).2.1;have f:=(c4 b).2.2;have j:=cv g;have j:c=34\/c=92:=by
    by_cases m:c=34
    ·exact .inl m
    ·by_cases o:c=92
     ·exact .inr o
     ·simp [pQ,m,o] at j
   rcases j with rfl|rfl
   ·have:(bN false (34::r))=some ([],r):=rfl
    rw [this];show QE l _ (some (s+(((l.drop s).takeWhile pQ)++[]).length));rw [List.append_nil,<-a];exact .close k h
   ·cases r with
    |nil=>
     have:(bN false [92])=none:=rfl;simp only [this];exact .PP k h (by
      have:=congrArg List.length f;simp at this;lia)
    |cons d r=>
     have y:=(c4 f).1;have B:=(c4 f).2.1;have z:=(c4 f).2.2;have A:bN false (92::d::r)=(bN false r).map λq=>(92::d::q.1,q.2):=by
      show (if (92:Nat)=34/\false=false then _ else (bN true (d::r)).map _)=_
      rw [if_neg (by decide)]
      show ((if d=34/\true=false then _ else (bN (decide (d=92)&& !true) r).map _).map _)=_
      rw [if_neg (by simp),show (decide (d=92)&& !true)=false by simp,Option.map_map]
      rfl
     rw [A,Option.map_map];have t:=v (s:=s+tw pQ l s+2) (by lia)
     simp only [show l.drop (s+tw pQ l s+2)=r from z] at t
     refine .PQ y h ?_;have:(λq:List Nat×P1=>s+tw pQ l s+2+q.1.length)=((λq=>s+q.1.length)∘λq=>(List.takeWhile pQ (List.drop s l)++q.1,q.2))∘λq=>(92::d::q.1,q.2):=by
      funext q;simp only [Function.comp,List.length_append,List.length_cons,a];lia
     rw [<-this];exact t
end
theorem Es {c:Nat} (h:Al c) (a:aT c=false):c=61\/c=32\/c=59\/c=44:=by
 rcases h with rfl|rfl|rfl|rfl|rfl|rfl|rfl|rfl|rfl<;>simp [aT] at a⊢
theorem kI {c:Nat} (a:aT c=false):c=61\/c=32\/c=59\/c=44:=by
 have:((c=61\/c=32)\/c=59)\/c=44:=by simpa [aT,Decidable.or_iff_not_imp_left] using a
 lia
theorem eA {c:Nat} (a:aG c=false):c=32\/c=59\/c=44:=by
 have:(c=32\/c=59)\/c=44:=by simpa [aG,Decidable.or_iff_not_imp_left] using a
 lia
theorem iJ {c:Nat} (a:aW c=false):c≠32:=by simpa [aW] using a
theorem dg (p:Nat->Bool) (l:P1):∃run,l=run++l.dropWhile p/\run=l.takeWhile p/\∀c∈run,p c=true:=⟨l.takeWhile p,List.takeWhile_append_dropWhile.symm,rfl,yu⟩
theorem gw {b:Bool} {w t:P1} {C:List af} {D:List (List af)} (m:t=[]\/∃c r,t=c::r/\aT c=false) (j:∀z,t.dropWhile aW≠61::z):aZ b ⟨.N w,C,D⟩ t=aZ b ⟨.B,(w,none)::C,D⟩ t:=by
 rcases m with rfl|⟨c,r,rfl,n⟩
 ·rfl
 ·by_cases f:c=32
  ·subst f
   rw [Ce,nE];have j:∀z,r.dropWhile aW≠61::z:=j;obtain ⟨run,e,_,a⟩:=dg aW r;rw [e,q8 a,mg (mh a)];refine oX ?_;cases k:r.dropWhile aW with
   |nil=>exact .inl rfl
   |cons d y=>
    refine .inr ⟨d,y,rfl,?_⟩;have o:=iJ (cv k);by_cases l:aT d=true
    ·exact .inr (.inr l)
    ·rcases kI (by simpa using l) with rfl|rfl|rfl|rfl
     ·exact absurd k (j y)
     ·exact absurd rfl o
     ·exact .inl rfl
     ·exact .inr (.inl rfl)
  ·have g:c=59\/c=44:=by
    rcases kI n with rfl|rfl|h|h
    ·exact absurd (by rw [List.dropWhile_cons];rfl) (j r)
    ·exact absurd rfl f
    ·exact .inl h
    ·exact .inr h
   have i:c≠34:=by rcases g with rfl|rfl<;>decide
   rw [bk (.inl i),bk (.inl i)];rcases g with rfl|rfl<;>rfl
theorem o5 {b:Bool} {w t z:P1} {C:List af} {D:List (List af)} (h:t.dropWhile aW=61::z):aZ b ⟨.N w,C,D⟩ t=aZ b ⟨.E w,C,D⟩ (z.dropWhile aW):=by
 obtain ⟨run,e,_,g⟩:=dg aW z;have i:aZ b ⟨.E w,C,D⟩ z=aZ b ⟨.E w,C,D⟩ (z.dropWhile aW):=by
  conv=>lhs;rw [e]
  exact yq g
 simp only [<-i];obtain ⟨f,j,_,a⟩:=dg aW t;rw [j,h];cases f with
 |nil=>exact yr.1
 |cons c f=>
  have k:c=32:=by simpa [aW] using a c (.head _)
  subst k;rw [List.cons_append,Ce,q8 λd l=>a d (by simp [l])]
  exact yr.2
theorem fe {b:Bool} {w u:P1} {C:List af} {D:List (List af)} (g:b=false\/u.head?≠some 34) (i:u.head?≠some 32):aZ b ⟨.E w,C,D⟩ u=aZ b ⟨.B,(w,some (u.takeWhile aG))::C,D⟩ (u.dropWhile aG):=by
 cases u with
 |nil=>rfl
 |cons d u=>
  by_cases a:aG d=true
  ·obtain ⟨run,e,j,f⟩:=dg aG u
   rw [yp a (g.imp id λh q=>h (by rw [q];rfl))]
   rw [List.takeWhile_cons,List.dropWhile_cons,if_pos a,if_pos a]
   conv=>lhs;rw [e]
   rw [oW f,j];refine iH ?_;cases k:u.dropWhile aG with
   |nil=>exact .inl rfl
   |cons c r=>exact .inr ⟨c,r,rfl,eA (cv k)⟩
  ·rw [List.takeWhile_cons,List.dropWhile_cons,if_neg a,if_neg a]
   refine q7 (.inr ⟨d,u,rfl,?_⟩);rcases eA (by simpa using a) with rfl|h|h
   ·exact absurd rfl i
   ·exact .inl h
   ·exact .inr h
end
section
section
variable {x y r:P1} {c:Nat}
theorem sG:tw aT x (kz x)=((x.dropWhile aW).takeWhile aT).length:=by
 unfold kz;show ((x.drop _).takeWhile aT).length=_;rw [fc]
theorem ml:x.drop (kz x)=x.dropWhile aW:=fc
theorem yv:x.drop (kE x)=(x.dropWhile aW).dropWhile aT:=by
 unfold kE;rw [jl,fc]
theorem uI (h:x.dropWhile aW=c::y) (a:aT c=true):du x ((c::y).takeWhile aT) ((c::y).dropWhile aT):=by
 refine ⟨?_,?_,?_⟩
 ·rw [sG,h,List.takeWhile_cons,if_pos a];simp
 ·rw [ml,h]
  have:kE x-kz x=((c::y).takeWhile aT).length:=by
   rw [<-h,<-sG];delta kE kz;lia
  rw [this];exact (oY _).2
 ·rw [yv,h]
theorem tF (h:∀c y,x.dropWhile aW=c::y->aT c=false):tw aT x (kz x)=0:=by
 rw [sG];cases a:x.dropWhile aW with
 |nil=>rfl
 |cons c y=>rw [List.takeWhile_cons,if_neg (by rw [h c y a];decide)];rfl
theorem mm (h:x.dropWhile aW=44::y):ew x y:=⟨tF λc z e=>by rw [h] at e;cases e;rfl,by rw [ml,h]⟩
theorem uJ (h:∀c y,x.dropWhile aW=c::y->aT c=false/\c≠44) (b:x≠[]):oK x (x.dropWhile pJ):=by
 refine ⟨tF λc y e=>(h c y e).1,?_,?_,fc⟩
 ·rw [ml]
  cases f:x.dropWhile aW with
  |nil=>simp
  |cons c y=>simpa using (h c y f).2
 ·cases x with
  |nil=>exact absurd rfl b
  |cons d x=>
   have g:pJ d=true:=by
    by_cases a:aW d=true
    ·have:d=32:=by simpa [aW] using a
     subst this;rfl
    ·have e:(d::x).dropWhile aW=d::x:=by rw [List.dropWhile_cons,if_neg a]
     obtain ⟨i,j⟩:=h d x e;have k:=iJ (by simpa using a)
     rcases kI i with rfl|rfl|rfl|rfl
     ·rfl
     ·exact absurd rfl k
     ·rfl
     ·exact absurd rfl j
   unfold tw;rw [List.drop_zero,List.takeWhile_cons,if_pos g];simp
theorem yw {z u q t:P1} (h:x.dropWhile aW=61::z) (g:z.dropWhile aW=34::u) (b:bN false u=some (q,t)):xD x (b8 q) t:=by
 obtain ⟨i,f⟩:=oZ h;simp only [g] at f;obtain ⟨j,k,d⟩:=c4 f;have e:=Cf (l:=x) x.length (s:=vB x+1) (by omega)
 simp only [d,b] at e;have a:=gu b;refine ⟨vB x+1+q.length,⟨i,j,k⟩,e,?_,?_⟩
 ·rw [d,Nat.add_sub_cancel_left,a]
  simp only [List.take_left];exact fE u.length (Nat.le_refl _) b
 ·rw [Nat.add_assoc,<-List.drop_drop,d,a]
  simp
theorem yx {z:P1} (h:x.dropWhile aW=61::z) (i:∀u,z.dropWhile aW=34::u->bN false u=none):xC x ((z.dropWhile aW).takeWhile aG) ((z.dropWhile aW).dropWhile aG):=by
 have j:=(oZ h).1;have b:=(oZ h).2;refine ⟨j,?_,by rw [Am,b],by rw [jl,b]⟩
 by_cases a:yM x
 ·refine .inr ?_
  have d:=a.2.1;have f:=a.2.2;have g:x.drop (vB x)=34::x.drop (vB x+1):=by
   rw [List.drop_eq_getElem_cons d];rw [List.getD_eq_getElem?_getD,List.getElem?_eq_getElem d] at f;exact congrArg (· ::_) f
  rw [b] at g;have e:=Cf (l:=x) x.length (s:=vB x+1) (by lia)
  rw [i _ g] at e;exact e
 ·exact .inl a
theorem cJ {p:Nat->Bool} {l:P1}:(l.dropWhile p).length<=l.length:=bR.length_le
theorem dx {b:Bool} {C:List af} {D:List (List af)}:aZ b ⟨.B,C,D⟩ x=aZ b ⟨.B,C,D⟩ (x.dropWhile aW):=by
 obtain ⟨run,e,_,a⟩:=dg aW x
 conv=>lhs;rw [e]
 exact mg (mh a)
theorem mn {b:Bool} {C:List af} {D:List (List af)} (h:x.dropWhile aW=c::y) (d:aT c=true):aZ b ⟨.B,C,D⟩ x=aZ b ⟨.N ((c::y).takeWhile aT),C,D⟩ ((c::y).dropWhile aT):=by
 rw [dx,h,yo d,List.takeWhile_cons,List.dropWhile_cons,if_pos d,if_pos d];obtain ⟨run,e,f,a⟩:=dg aT y
 conv=>lhs;rw [e]
 rw [Ak a,f];rfl
end
theorem d4 {C:List af} {D:List (List af)} (h:C≠[]):(C::D).filter iz=C::D.filter iz:=by
 rw [List.filter_cons_of_pos];cases C with
 |nil=>exact absurd rfl h
 |cons _ _=>rfl
theorem fF {D:List (List af)}:(([]:List af)::D).filter iz=D.filter iz:=rfl
def Et (x:P1) (sh:Sh) (a:P1) (b:P9) (c:P1) (C:List af) (D L:List (List af)):Prop:=
 ∃d f,SP d ⟨x,sh,a,b,c,C,D⟩ f/\f.C.length<=900/\f.D.length<=900/\f.D.filter iz=f.D/\(f.C::f.D).filter iz=L.filter iz
theorem yy:∀(n:Nat) (x:P1),x.length<=n->bw x->∀(sh:Sh) (O:P1) (Q:P9) (s:P1) (C:List af) (D a:List (List af)),D=a.filter iz->C.length+D.length+x.length<=890->
  Et x sh O Q s C D (aZ true ⟨.B,C,a⟩ x).1:=by
 intro n
 induction n with
 |zero=>
  intro x hn hA sh O Q s C D a l hl;have m:x=[]:=List.length_eq_zero_iff.mp (by lia)
  subst m;exact ⟨false,_,.stop _ rfl,by show C.length<=_;lia,by show D.length<=_;lia,by rw [l,List.filter_filter];simp,by
   show (C::D).filter iz=(C::a).filter iz;rw [l];cases C with
   |nil=>rw [fF,fF,List.filter_filter];simp
   |cons p C=>rw [d4 (by simp),d4 (by simp),List.filter_filter];simp⟩
 |succ n ih=>
  intro x hn hA sh O Q s C D a l hl;by_cases m:x=[]
  ·subst m
   exact ⟨false,_,.stop _ rfl,by show C.length<=_;lia,by show D.length<=_;lia,by rw [l,List.filter_filter];simp,by
    show (C::D).filter iz=(C::a).filter iz;rw [l];cases C with
    |nil=>rw [fF,fF,List.filter_filter];simp
    |cons p C=>rw [d4 (by simp),d4 (by simp),List.filter_filter];simp⟩
  ·have Py:0<x.length:=List.length_pos_iff.mpr m
   have Po:(x.dropWhile aW).length<=x.length:=cJ;have U:bw (x.dropWhile aW):=hA.PE bR;have PN:(∀c y,x.dropWhile aW=c::y->aT c=false/\c≠44)->Et x sh O Q s C D (aZ true ⟨.B,C,a⟩ x).1:=λh=>by
    have hj:=uJ h m;obtain ⟨run,e,e1,o⟩:=dg pJ x;have Pz:(x.dropWhile pJ).length<x.length:=by
     have h3:=hj.2.2.1;unfold tw at h3;rw [List.drop_zero,<-e1] at h3;have:=congrArg List.length e;rw [List.length_append] at this;lia
    obtain ⟨G,f,h1,h2,h3,h4,h5⟩:=ih (x.dropWhile pJ) (by lia) (hA.PE bR) (zZ sh) O Q (x.dropWhile pJ) C D a l (by lia)
    refine ⟨G,f,.PN _ _ _ m hj h1,h2,h3,h4,?_⟩;rw [h5]
    conv=>rhs;rw [e]
    rw [mg o]
   cases v:x.dropWhile aW with
   |nil=>exact PN λc y e=>by rw [v] at e;cases e
   |cons c y=>
    rw [v] at Po U;simp only [List.length_cons] at Po;by_cases k:aT c=true
    ·
     have i:=uI v k;have g:=mn (b:=true) (C:=C) (D:=a) v k;have PA:((c::y).dropWhile aT).length<x.length:=by
      rw [List.dropWhile_cons,if_pos k];have:(y.dropWhile aT).length<=y.length:=cJ;lia
     have Pp:bw ((c::y).dropWhile aT):=U.PE bR;have Y:(c::y).dropWhile aT=[]\/∃d r,(c::y).dropWhile aT=d::r/\aT d=false:=by
      cases j:(c::y).dropWhile aT with
      |nil=>exact .inl rfl
      |cons d r=>exact .inr ⟨d,r,rfl,cv j⟩
     generalize (c::y).dropWhile aT=t at*;generalize (c::y).takeWhile aT=w at*;by_cases j:∃z,t.dropWhile aW=61::z
     ·obtain ⟨z,j⟩:=j
      have Pw:(z.dropWhile aW).length<x.length:=by
       have h1:(z.dropWhile aW).length<=z.length:=cJ;have h2:(t.dropWhile aW).length<=t.length:=cJ;rw [j,List.length_cons] at h2;lia
      have Pm:bw (z.dropWhile aW):=by
       have:bw (61::z):=j▸Pp.PE bR;exact bw.PE (λc k=>this c (by simp [k])) bR
      have T:(z.dropWhile aW).head?≠some 32:=by
       cases A:z.dropWhile aW with
       |nil=>simp
       |cons d r=>
        have:=iJ (cv A);simpa using this
      have hE:=o5 (b:=true) (w:=w) (C:=C) (D:=a) j;have plain:(∀u,z.dropWhile aW=34::u->bN false u=none)->(aZ true ⟨.E w,C,a⟩ (z.dropWhile aW)).1=(aZ true ⟨.B,(w,some ((z.dropWhile aW).takeWhile aG))::C,a⟩ ((z.dropWhile aW).dropWhile aG)).1->Et x sh O Q s C D (aZ true ⟨.B,C,a⟩ x).1:=λhq he=>by
       have h1:((z.dropWhile aW).dropWhile aG).length<=(z.dropWhile aW).length:=cJ;obtain ⟨G,f,H,I,J,L,N⟩:=ih ((z.dropWhile aW).dropWhile aG) (by lia) (Pm.PE bR) (jN sh) w (some ((z.dropWhile aW).takeWhile aG)) s ((w,some ((z.dropWhile aW).takeWhile aG))::C) D a l (by simp only [List.length_cons];lia)
       refine ⟨G,f,.val _ _ _ _ _ _ m i (yx j hq) (by show C.length<=_;lia) H,I,J,L,?_⟩
       rw [N,g,hE,he]
      cases A:z.dropWhile aW with
      |nil=>
       rw [A] at plain;exact plain (λu e=>by cases e) rfl
      |cons d u=>
       by_cases Pn:d=34
       ·subst Pn
        cases hq:bN false u with
        |none=>
         rw [A] at plain;refine plain (λu' e=>by cases e;exact hq) ?_
         obtain ⟨_,g2,g3⟩:=q9 (w:=w) (C:=C) (D:=a) hq;rw [g2,g3];have:aZ true ⟨.V w [34],C,a⟩ u=aZ true ⟨.B,(w,some ((34::u).takeWhile aG))::C,a⟩ ((34::u).dropWhile aG):=by
          rw [List.takeWhile_cons,List.dropWhile_cons,if_pos (by rfl),if_pos (by rfl)]
          obtain ⟨run,e,e1,o⟩:=dg aG u
          conv=>lhs;rw [e]
          rw [oW o,e1];refine iH ?_;cases v:u.dropWhile aG with
          |nil=>exact .inl rfl
          |cons c r=>exact .inr ⟨c,r,rfl,eA (cv v)⟩
         rw [this]
        |some qt=>
         obtain ⟨q,t3⟩:=qt;have Pq:=gu hq;have PB:t3.length<x.length:=by
          rw [A,List.length_cons,Pq,List.length_append,List.length_cons] at Pw;lia
         have Px:bw t3:=by
          rw [A,Pq] at Pm;exact λc k=>Pm c (by simp [k])
         obtain ⟨G,f,H,I,J,L,N⟩:=ih t3 (by lia) Px (jN sh) w (some (b8 q)) s ((w,some (b8 q))::C) D a l (by simp only [List.length_cons];lia)
         refine ⟨G,f,.PR _ _ _ _ _ _ m i (yw j A hq) (by show C.length<=_;lia) H,I,J,L,?_⟩
         rw [N,g,hE,A,nG hq]
       ·rw [A] at plain
        refine plain (λu' e=>by cases e;exact absurd rfl Pn) ?_
        rw [fe (.inr (by simpa using Pn)) (by rw [A] at T;exact T)]
     ·have j:∀z,t.dropWhile aW≠61::z:=λz e=>j ⟨z,e⟩
      obtain ⟨G,f,H,I,J,L,N⟩:=ih t (by lia) Pp (jN sh) w none s ((w,none)::C) D a l (by simp only [List.length_cons];lia)
      refine ⟨G,f,.name _ _ _ _ m i (yt j) (by show C.length<=_;lia) H,I,J,L,?_⟩
      rw [N,g,gw Y j]
    ·have k:aT c=false:=by simpa using k
     by_cases Pt:c=44
     ·subst Pt
      have g:aZ true ⟨.B,C,a⟩ x=aZ true ⟨.B,[],C::a⟩ y:=by rw [dx,v,jU]
      have Pu:bw y:=λc k=>U c (by simp [k])
      cases C with
      |nil=>
       obtain ⟨G,f,H,I,J,L,N⟩:=ih y (by lia) Pu (qB sh) O Q s [] D ([]::a) (by rw [l,fF]) (by simp only [List.length_nil] at hl⊢;lia)
       exact ⟨true,f,.PM _ _ _ m (mm v) H,I,J,L,by rw [N,g]⟩
      |cons p C=>
       obtain ⟨G,f,H,I,J,L,N⟩:=ih y (by lia) Pu (qB sh) O Q s [] ((p::C)::D) ((p::C)::a) (by rw [l,d4 (List.cons_ne_nil p C)]) (by simp only [List.length_nil,List.length_cons] at hl⊢;lia)
       exact ⟨true,f,.comma _ _ _ m (mm v) (by simp only [List.length_cons] at hl⊢;lia) (by lia) H,I,J,L,by rw [N,g]⟩
     ·exact PN λd z e=>by rw [v] at e;cases e;exact ⟨k,Pt⟩
theorem sH {x:P1} (b:bw x) (c:x.length<=890):ey x ((d3 x).as.fin::(d3 x).as.D |>.filter iz):=by
 obtain ⟨d,f,g,h,i,a,j⟩:=yy x.length x (Nat.le_refl _) b .s0 [] none [] [] [] [] rfl (by simpa using c)
 refine ⟨d,f,g,h,i,?_⟩;have e:(aZ true ⟨.B,[],[]⟩ x).1=(d3 x).as.fin::(d3 x).as.D:=rfl;rw [<-e,<-j];cases k:f.C with
 |nil=>rw [fF,a]
 |cons p C=>rw [d4 (by simp),a]
end
section
noncomputable def b9 (a:P1) (q:Bool):List Nat->eN
 |[]=>⟨a,none,[],none,[],q⟩
 |c::r=>if c=32 then ⟨a,some [32],r,none,[32],q⟩ else ⟨a,some [32],r,some c,[c],q⟩
theorem o6 {a r:P1} {q:Bool} {c:Nat} (h:c≠32):b9 a q (c::r)=⟨a,some [32],r,some c,[c],q⟩:=if_neg h
theorem KH {a r:P1} {q:Bool}:b9 a q (32::r)=⟨a,some [32],r,none,[32],q⟩:=rfl
theorem sI {W Q:P1} {P:Nat->Bool} (f:∀c,Al c->c≠32->((c∈W\/c∈Q)↔P c=true)) (b:P 32=false) {q:Bool}:∀{r a:P1},bw r->j4 W Q q a r=b9 (a++r.takeWhile P) q (r.dropWhile P)
 |[],a,_=>by simp [j4,b9]
 |c::r,a,g=>by
  unfold j4;by_cases h:c=32
  ·subst h
   rw [if_pos rfl,List.takeWhile_cons,List.dropWhile_cons,if_neg (by rw [b];decide),if_neg (by rw [b];decide),List.append_nil]
   rfl
  ·rw [if_neg h]
   have i:=f c (g c (.head _)) h;by_cases e:P c=true
   ·rw [if_pos (i.mpr e),sI f b λd j=>g d (by simp [j]),List.takeWhile_cons,List.dropWhile_cons,if_pos e,if_pos e,List.append_assoc];rfl
   ·rw [if_neg (λq=>e (i.mp q)),List.takeWhile_cons,List.dropWhile_cons,if_neg e,if_neg e,List.append_nil]
    show _=if c=32 then _ else _
    rw [if_neg h]
theorem fG {W Q:P1} {q:Bool}:∀{r:P1},lg W Q q r=(match r.dropWhile aW with|[]=>⟨[],none,[],none,[],q⟩|c::y=>if c∈W then j4 W Q q [c] y else if c∈Q then gX [c] y else ⟨[c],some [32],y,none,[c],q⟩)/\
  (rL W Q r↔(match r.dropWhile aW with|[]=>True|c::y=>if c∈W then True else if c∈Q then 34∈y else True))
 |[]=>⟨rfl,Iff.rfl⟩
 |c::r=>by
  unfold lg rL;by_cases h:c=32
  ·subst h
   rw [if_pos rfl,if_pos rfl];exact fG (r:=r)
  ·have e:(c::r).dropWhile aW=c::r:=by
    have a:aW c=false:=by simpa [aW] using h
    rw [List.dropWhile_cons,if_neg (by rw [a];decide)]
   rw [if_neg h,if_neg h,e];exact ⟨rfl,Iff.rfl⟩
def yz (a:P1) (b:P9) (d:Option Nat) (r x:P1):Prop:=
 r <:+ a/\((b=some [32]/\d=none/\x.dropWhile aW=r.dropWhile aW)\/(b=some [32]/\∃c,d=some c/\x=c::r/\c≠32/\aT c=false)\/(b=none/\d=none/\r=[]/\x=[]))
theorem Eu {l:P1} (h:bw l):10∉l:=λa=>by
 have:=h 10 a;unfold Al at this;lia
theorem o7 {c:Nat} (h:Al c):(c∈WN\/c∈([]:P1))↔aT c=true:=by
 rcases h with rfl|rfl|rfl|rfl|rfl|rfl|rfl|rfl|rfl<;>decide
theorem An {c:Nat} (h:Al c):(c∈WV\/c∈[34])↔aG c=true:=by
 rcases h with rfl|rfl|rfl|rfl|rfl|rfl|rfl|rfl|rfl<;>decide
theorem Ao {c:Nat} (h:Al c):(c∈WR\/c∈([]:P1))↔aG c=true:=by
 rcases h with rfl|rfl|rfl|rfl|rfl|rfl|rfl|rfl|rfl<;>decide
section
variable {buf r x y:P1} {a:P9} {b:Option Nat} {c:Nat} {k:Int} {W Q:P1}
theorem gx (e:buf.length<=900) (f:bw buf) (g:Q=[]\/Q=[34]) (h:r <:+ buf) (d:rL W Q r) {o:eN} (i:o=lg W Q false r):aF W Q buf (some [32]) [] r o:=⟨e,Eu f,g,h,.inl ⟨rfl,rfl,d,i⟩⟩
theorem kJ (g:buf.length<=900) (i:bw buf) (j:Q=[]\/Q=[34]) (h:yz buf a b r x) (f:x.dropWhile aW=[]):b=none/\(a=some [32]\/a=none)/\aF W Q buf a [] r eE:=by
 obtain ⟨l,⟨rfl,rfl,e⟩|⟨rfl,d,rfl,rfl,m,n⟩|⟨rfl,rfl,rfl,rfl⟩⟩:=h
 ·rw [f] at e
  have s:=fG (W:=W) (Q:=Q) (q:=false) (r:=r);rw [<-e] at s;exact ⟨rfl,.inl rfl,gx g i j l (s.2.mpr trivial) s.1.symm⟩
 ·rw [List.dropWhile_cons,if_neg (by simpa [aW] using m)] at f
  injection f
 ·exact ⟨rfl,.inr rfl,g,Eu i,j,l,.inr (.inl ⟨rfl,rfl,rfl,rfl⟩)⟩
theorem kK {e:P1} {q:Bool} {p:Nat->Bool} (j:p 32=false) (f:∀c,p c=false->c≠32->aT c=false) (h:y <:+ buf):yz buf (b9 e q (y.dropWhile p)).st (b9 e q (y.dropWhile p)).pb (b9 e q (y.dropWhile p)).r (y.dropWhile p):=by
 have g:y.dropWhile p <:+ buf:=bR.trans h;cases i:y.dropWhile p with
 |nil=>exact ⟨List.nil_suffix,.inr (.inr ⟨rfl,rfl,rfl,rfl⟩)⟩
 |cons d t=>
  rw [i] at g;by_cases h:d=32
  ·subst h
   exact ⟨bb g,.inl ⟨rfl,rfl,rfl⟩⟩
  ·rw [o6 h]
   exact ⟨bb g,.inr (.inl ⟨rfl,d,rfl,rfl,h,f d (cv i) h⟩)⟩
theorem rg {d:P1} {q:Bool} {l:P1}:(b9 d q l).w=d:=by
 cases l with
 |nil=>rfl
 |cons c l=>
  by_cases h:c=32
  ·subst h;rfl
  ·rw [o6 h]
theorem o8 {tok:P1} {q:Bool} {l:P1}:dZ (b9 tok q l).st (b9 tok q l).pb:=by
 cases l with
 |nil=>exact .inr (.inr ⟨rfl,rfl⟩)
 |cons c l=>
  by_cases h:c=32
  ·subst h;exact .inl ⟨rfl,rfl⟩
  ·rw [o6 h];exact .inr (.inl ⟨rfl,_,rfl⟩)
theorem rh (p:buf.length<=900) (l:bw buf) (h:yz buf a b r x) (j:x.dropWhile aW=c::y) (f:aT c=true):
  ∃o,GN WN [] buf a b r k o/\o.w=(c::y).takeWhile aT/\yz buf o.st o.pb o.r ((c::y).dropWhile aT):=by
 obtain ⟨m,⟨rfl,rfl,e⟩|⟨rfl,d,rfl,rfl,t,u⟩|⟨rfl,rfl,rfl,rfl⟩⟩:=h
 ·rw [j] at e
  have n:c::y <:+ buf:=by rw [e];exact bR.trans m
  have g:bw (c::y):=l.PE n;have i:c∈WN:=(o7 (g c (by simp))).mpr f |>.resolve_right (by simp)
  have s:=fG (W:=WN) (Q:=[]) (q:=false) (r:=r);rw [<-e] at s;dsimp only at s;rw [if_pos i,if_pos i,sI (P:=aT) (λc f Y=>o7 f) rfl (λd v=>g d (by simp [v]))] at s
  have z:(b9 ([c]++y.takeWhile aT) false (y.dropWhile aT)).w≠[]:=by rw [rg];simp
  refine ⟨_,.word r k _ (gx p l (.inl rfl) m (s.2.mpr trivial) s.1.symm) z,?_,?_⟩
  ·rw [List.takeWhile_cons,if_pos f];exact rg
  ·rw [List.dropWhile_cons,if_pos f]
   exact kK rfl (λY h Y=>h) (bb n)
 ·rw [List.dropWhile_cons,if_neg (by simpa [aW] using t)] at j
  cases j;rw [u] at f;cases f
 ·injection j
theorem jm (n:buf.length<=900) (l:bw buf) (h:yz buf a b r x) (g:x.dropWhile aW=c::y) (o:aT c=false):
  y <:+ buf/\∃p,GN WN [] buf a b r k ⟨[c],some [32],y,none,p⟩:=by
 obtain ⟨i,⟨rfl,rfl,e⟩|⟨rfl,d,rfl,rfl,t,u⟩|⟨rfl,rfl,rfl,rfl⟩⟩:=h
 ·rw [g] at e
  have m:c::y <:+ buf:=by rw [e];exact bR.trans i
  have j:bw (c::y):=l.PE m;have f:c∉WN:=λq=>by
   have:=(o7 (j c (by simp))).mp (.inl q)
   rw [o] at this;cases this
  have s:=fG (W:=WN) (Q:=[]) (q:=false) (r:=r);rw [<-e] at s;dsimp only at s;rw [if_neg f,if_neg f,if_neg (by simp),if_neg (by simp)] at s
  exact ⟨bb m,k,.word r k _ (gx n l (.inl rfl) i (s.2.mpr trivial) s.1.symm) (by simp)⟩
 ·rw [List.dropWhile_cons,if_neg (by simpa [aW] using t)] at g
  cases g;exact ⟨i,_,.PL _ _ _⟩
 ·injection g
theorem o9 (p:buf.length<=900) (l:bw buf) (i:W=WV/\Q=[34]\/W=WR/\Q=[]) (m:r <:+ buf) (n:r.dropWhile aW=c::y) (e:aG c=true) (j:W=WR\/c≠34):
  aF W Q buf (some [32]) [] r (b9 (c::y.takeWhile aG) false (y.dropWhile aG)):=by
 have t:c::y <:+ buf:=by rw [<-n];exact bR.trans m
 have f:bw (c::y):=l.PE t;have o:∀c,Al c->c≠32->((c∈W\/c∈Q)↔aG c=true):=by
  rcases i with ⟨rfl,rfl⟩|⟨rfl,rfl⟩
  ·exact λc e Y=>An e
  ·exact λc e Y=>Ao e
 have g:c∈W:=by
  rcases (o c (f c (by simp)) (by rintro rfl;injection e)).mpr e with h|h
  ·exact h
  ·rcases i with ⟨rfl,rfl⟩|⟨rfl,rfl⟩
   ·rcases j with h2|h2
    ·cases h2
    ·exact absurd (List.mem_singleton.mp h) h2
   ·cases h
 have s:=fG (W:=W) (Q:=Q) (q:=false) (r:=r);rw [n] at s;dsimp only at s;rw [if_pos g,if_pos g,sI o rfl (λd u=>f d (by simp [u]))] at s
 exact gx p l (by rcases i with ⟨_,rfl⟩|⟨_,rfl⟩<;>simp) m (s.2.mpr trivial) s.1.symm
theorem ri (j:buf.length<=900) (l:bw buf) (e:W=WV/\Q=[34]\/W=WR/\Q=[]) (m:r <:+ buf) (n:r.dropWhile aW=c::y) (o:aG c=false) (f:c≠32):
  aF W Q buf (some [32]) [] r ⟨[c],some [32],y,none,[c],false⟩:=by
 have d:c=59\/c=44:=by
  rcases eA o with h|h|h
  ·exact absurd h f
  ·exact .inl h
  ·exact .inr h
 have s:=fG (W:=W) (Q:=Q) (q:=false) (r:=r);rw [n] at s;dsimp only at s;have g:c∉W:=by rcases e with ⟨rfl,rfl⟩|⟨rfl,rfl⟩<;>rcases d with rfl|rfl<;>decide
 have i:c∉Q:=by rcases e with ⟨rfl,rfl⟩|⟨rfl,rfl⟩<;>rcases d with rfl|rfl<;>decide
 rw [if_neg g,if_neg g,if_neg i,if_neg i] at s;exact gx j l (by rcases e with ⟨_,rfl⟩|⟨_,rfl⟩<;>simp) m (s.2.mpr trivial) s.1.symm
theorem jn (d:buf.length<=900) (e:bw buf) (f:Q=[]\/Q=[34]) (g:r <:+ buf) (h:r.dropWhile aW=[]):aF W Q buf (some [32]) [] r eE:=by
 have s:=fG (W:=W) (Q:=Q) (q:=false) (r:=r);rw [h] at s;exact gx d e f g (s.2.mpr trivial) s.1.symm
end
end
section
def jW (l:P1):Bool:=m3 l%2==1
theorem mq (l:P1) (c:Nat):m3 (l++[c])=if c=92 then m3 l+1 else 0:=by
 unfold m3;rw [List.reverse_append];show (([c]++l.reverse).takeWhile _).length=_;rw [List.singleton_append,List.takeWhile_cons];by_cases h:c=92
 ·subst h;simp
 ·simp [h]
theorem gz (l:P1) (c:Nat):jW (l++[c])=(decide (c=92)&& !jW l):=by
 unfold jW;rw [mq];by_cases h:c=92
 ·rw [if_pos h,decide_eq_true h]
  rcases Nat.mod_two_eq_zero_or_one (m3 l) with e|e
  ·rw [e,show (m3 l+1)%2=1 by lia];rfl
  ·rw [e,show (m3 l+1)%2=0 by lia];rfl
 ·rw [if_neg h,decide_eq_false h];rfl
theorem sJ (p:P1):m3 (34::p)=m3 p:=by
 have a:∀n (p:P1),p.length<=n->m3 (34::p)=m3 p:=by
  intro n
  induction n with
  |zero=>intro p h;have:p=[]:=List.length_eq_zero_iff.mp (by lia);subst this;rfl
  |succ n b=>
   intro p h;rcases List.eq_nil_or_concat p with rfl|⟨q,c,rfl⟩
   ·rfl
   ·rw [List.concat_eq_append]
    show m3 ((34::q)++[c])=_;rw [mq,mq,b q (by simp at h;omega)]
 exact a p.length p (Nat.le_refl _)
theorem jX (a:P1):cu (a++[34])=jW a:=by
 delta cu jW;rw [List.dropLast_concat]
theorem iK (p:P1):jW (34::p)=jW p:=by unfold jW;rw [sJ]
theorem Ew:∀{r p:P1},vq (34::p) r=(bN (jW p) r).map λq=>(34::(p++(q.1++[34])),q.2)
 |[],p=>rfl
 |c::r,p=>by
  show (if c=34 then (if cu ((34::p)++[34]) then vq ((34::p)++[34]) r else some ((34::p)++[34],r)) else vq ((34::p)++[c]) r)=(if c=34/\jW p=false then _ else (bN (decide (c=92)&& !jW p) r).map _).map _
  by_cases h:c=34
  ·subst h
   rw [if_pos rfl,jX,iK];cases a:jW p with
   |true=>
    rw [if_pos rfl,if_neg (by simp)]
    show vq (34::(p++[34])) r=_;rw [Ew,gz,Option.map_map];congr 1;funext q;simp [Function.comp]
   |false=>
    rw [if_neg (by decide),if_pos ⟨rfl,rfl⟩]
    rfl
  ·rw [if_neg h,if_neg (λq=>h q.1)]
   show vq (34::(p++[c])) r=_;rw [Ew,gz,Option.map_map];congr 1;funext q;simp [Function.comp]
theorem rj:∀{b row r:P1},34∉b->vq row (b++34::r)=yN (row++(b++[34])) r
 |[],row,r,_=>rfl
 |c::b,row,r,h=>by
  show (if c=34 then _ else vq (row++[c]) (b++34::r))=_
  rw [if_neg (λe=>h (by simp [e])),rj λq=>h (by simp [q]),List.append_assoc];rfl
theorem gB:∀{b a r:P1},34∉b->gX a (b++34::r)=⟨a++(b++[34]),some [32],r,none,[34],true⟩
 |[],a,r,_=>rfl
 |c::b,a,r,h=>by
  show (if c=34 then _ else gX (a++[c]) (b++34::r))=_
  rw [if_neg (λe=>h (by simp [e])),gB λq=>h (by simp [q]),List.append_assoc];rfl
theorem yA:∀{u:P1} {e:Bool},34∉u->bN e u=none
 |[],_,_=>rfl
 |c::u,e,h=>by
  show (if c=34/\e=false then _ else _)=_
  rw [if_neg (λq=>h (by simp [q.1])),yA λq=>h (by simp [q])];rfl
theorem sL:∀{b m p:P1},34∉b->bN (jW p) (b++m)=(bN (jW (p++b)) m).map λq=>(b++q.1,q.2)
 |[],m,p,_=>by rw [List.append_nil];simp
 |c::b,m,p,h=>by
  show (if c=34/\jW p=false then _ else (bN (decide (c=92)&& !jW p) (b++m)).map _)=_
  rw [if_neg (λq=>h (by simp [q.1])),<-gz,sL (λq=>h (by simp [q])),Option.map_map,List.append_assoc];rfl
theorem pa {u:P1} (h:34∈u):∃b r,u=b++34::r/\34∉b:=by
 induction u with
 |nil=>cases h
 |cons c u d=>
  by_cases a:c=34
  ·subst a;exact ⟨[],u,rfl,by simp⟩
  ·rcases List.mem_cons.mp h with h|h
   ·exact absurd h.symm a
   ·obtain ⟨b,r,rfl,f⟩:=d h
    exact ⟨c::b,r,rfl,λq=>(List.mem_cons.mp q).elim (λe=>a e.symm) f⟩
theorem Ex:∀(n:Nat) {p r:P1},r.length<=n->jW p=false->cu (34::p)=true->bN false r=none->∃d a,uT p r d a/\d++a=p++r/\34∉a/\cu (34::d)=true/\a <:+ r:=by
 intro n
 induction n with
 |zero=>
  intro p r k l c o;have:r=[]:=List.length_eq_zero_iff.mp (by lia)
  subst this;exact ⟨p,[],.here c (by simp),rfl,by simp,c,List.suffix_refl _⟩
 |succ n u=>
  intro p r k l c o;by_cases h:34∈r
  ·obtain ⟨b,f,rfl,s⟩:=pa h
   have e:=sL (p:=p) (m:=34::f) s;rw [l,o] at e;have g:bN (jW (p++b)) (34::f)=none:=Option.map_eq_none_iff.mp e.symm;have t:jW (p++b)=true:=by
    cases q:jW (p++b) with
    |true=>rfl
    |false=>rw [q] at g;injection g
   rw [t] at g;have v:bN false f=none:=Option.map_eq_none_iff.mp (show (bN false f).map _=none from g)
   have i:cu (34::(p++(b++[34])))=true:=by
    rw [<-List.append_assoc];show cu ((34::(p++b))++[34])=true;rw [jX,iK,t]
   have j:jW (p++(b++[34]))=false:=by rw [<-List.append_assoc,gz];rfl
   obtain ⟨d,a,w,x,y,z,A⟩:=u (p:=p++(b++[34])) (r:=f) (by simp at k;lia) j i v
   exact ⟨d,a,.more c s w,by rw [x];simp,y,z,A.trans ((List.suffix_cons _ _).trans (List.suffix_append _ _))⟩
  ·exact ⟨p,r,.here c h,rfl,h,c,List.suffix_refl _⟩
set_option tactic.hygienic true in
theorem yB:∀{r u:P1},r.dropWhile aW=34::u->uS r u
 |[],_,h=>by cases h
 |c::r,u,h=>by
  rw [List.dropWhile_cons] at h;split at h
  ·rename_i a
   have:c=32:=by simpa [aW] using a
   subst this;exact .more (yB h)
  ·cases h;exact .here _
section
variable {a r u:P1} {k:Int}
theorem Ey (B:a.length<=800) (y:bw a) (l:r <:+ a) (m:r.dropWhile aW=34::u) {q t:P1} (n:bN false u=some (q,t)):VA a k r ⟨34::(q++[34]),some [32],t,none,k⟩/\t <:+ a/\q.length<=a.length:=by
 have i:34::u <:+ a:=by rw [<-m];exact bR.trans l
 have d:=gu n;have o:34∈u:=by rw [d];simp
 obtain ⟨b,f,e,c⟩:=pa o;have g:=i.length_le;have s:=fG (W:=WV) (Q:=[34]) (q:=false) (r:=r);rw [m] at s;dsimp only at s;rw [if_neg (show (34:Nat)∉WV by decide),if_neg (show (34:Nat)∉WV by decide),if_pos (show (34:Nat)∈[34] by simp),if_pos (show (34:Nat)∈[34] by simp)] at s
 have z:yN (34::(b++[34])) f=some (34::(q++[34]),t):=by
  have v:=rj (row:=[34]) (r:=f) c;rw [<-e] at v;have w:=Ew (r:=u) (p:=[]);rw [show jW []=false from rfl,n] at w
  exact v.symm.trans w
 have j:f <:+ a:=by
  refine List.IsSuffix.trans ?_ i;rw [e];exact (List.suffix_cons _ _).trans ((List.suffix_append _ _).trans (List.suffix_cons _ _))
 have h:aF WV [34] a (some [32]) [] r ⟨34::(b++[34]),some [32],f,none,[34],true⟩:=gx (by lia) y (.inr rfl) l (s.2.mpr o) (by
  rw [s.1,e,gB c];rfl)
 simp only [List.length_cons] at g;have A:u.length=b.length+1+f.length:=by rw [e];simp;lia
 have x:u.length=q.length+1+t.length:=by rw [d];simp;lia
 refine ⟨.PR r (b++[34]) f (34::(q++[34]),t) h j (by rw [List.length_append];simp;lia) z,?_,by lia⟩
 refine List.IsSuffix.trans ?_ i;rw [d];exact (List.suffix_cons _ _).trans ((List.suffix_append _ _).trans (List.suffix_cons _ _))
theorem J5 (N:a.length<=800) (t:bw a) (l:r <:+ a) (n:r.dropWhile aW=34::u) (A:bN false u=none):VX a r (34::u):=by
 have v:34::u <:+ a:=by rw [<-n];exact bR.trans l
 have g:=v.length_le;rw [List.length_cons] at g;by_cases o:34∈u
 ·obtain ⟨b,d,e,f⟩:=pa o
  have s:=fG (W:=WV) (Q:=[34]) (q:=false) (r:=r);rw [n] at s;dsimp only at s;rw [if_neg (show (34:Nat)∉WV by decide),if_neg (show (34:Nat)∉WV by decide),if_pos (show (34:Nat)∈[34] by simp),if_pos (show (34:Nat)∈[34] by simp)] at s
  have h:d <:+ a:=by
   refine List.IsSuffix.trans ?_ v;rw [e];exact (List.suffix_cons _ _).trans ((List.suffix_append _ _).trans (List.suffix_cons _ _))
  have i:aF WV [34] a (some [32]) [] r ⟨34::(b++[34]),some [32],d,none,[34],true⟩:=gx (by lia) t (.inr rfl) l (s.2.mpr o) (by
   rw [s.1,e,gB f];rfl)
  have w:=sL (p:=[]) (m:=34::d) f;rw [List.nil_append,<-e,show jW []=false from rfl,A] at w
  have j:bN (jW b) (34::d)=none:=Option.map_eq_none_iff.mp w.symm;have x:jW b=true:=by
   cases q:jW b with
   |true=>rfl
   |false=>rw [q] at j;cases j
  rw [x] at j;have B:bN false d=none:=Option.map_eq_none_iff.mp (show (bN false d).map _=none from j)
  have C:cu (34::(b++[34]))=true:=by
   show cu ((34::b)++[34])=true;rw [jX,iK,x]
  have D:jW (b++[34])=false:=by rw [gz];rfl
  obtain ⟨y,z,E,G,H,I,J⟩:=Ex d.length (Nat.le_refl _) D C B;have L:u.length=b.length+1+d.length:=by rw [e];simp;lia
  have c:y++z=u:=by rw [G,e];simp
  rw [<-c];refine .loop r (b++[34]) d y z i h (by rw [List.length_append];simp;lia) E (J.trans h) H I (by rw [c,List.length_cons];lia)
 ·exact .fst r u (by lia) (Eu t) o l (yB n) (by simp only [List.length_cons];lia)
end
end
section
def Nb (b a:P1) (e:P9) (g:Option Nat) (r:P1) (k:Int) (h:Bool) (C:List af) (D c:List (List af)):Prop:=
 ∀i,∃o d f,GR WN [] b a e g r k o d/\TR b a d ⟨o.st,o.pb,o.r,o.k,h,o.w,C,D,some i⟩ f/\f.rf=true/\f.L=c
def Ez (a b:P1) (n:Nat):Prop:=∀(x:P1),x.length<=n->bw x->∀(st:P9) (c:Option Nat) (r:P1) (k:Int) (d:Bool) (C:List af) (D:List (List af)),yz a st c r x->(d=true->∀z,x.dropWhile aW≠61::z)->
 C.length+D.length+x.length<=790->Nb a b st c r k d C D (aZ false ⟨.B,C,D⟩ x).1
theorem Cg {c:Nat} (h:aT c=false) (a:c≠32):c=61\/c=59\/c=44:=by
 rcases kI h with h|h|h|h
 ·exact .inl h
 ·exact absurd h a
 ·exact .inr (.inl h)
 ·exact .inr (.inr h)
theorem pd {c:Nat} (h:aG c=false) (a:c≠32):aT c=false:=by
 rcases eA h with rfl|rfl|rfl
 ·exact absurd rfl a
 ·rfl
 ·rfl
theorem eC {c:Nat} {y:P1} (a:aT c=true):(c::y).takeWhile aT≠[]/\(c::y).takeWhile aT≠[61]/\(c::y).takeWhile aT≠[59]/\(c::y).takeWhile aT≠[44]:=by
 rw [List.takeWhile_cons,if_pos a];refine ⟨by simp,λe=>?_,λe=>?_,λe=>?_⟩<;>(injection e with b d;subst b;injection a)
theorem yC {c:Nat} {y:P1} (a:aG c=true):¬f9 (c::y):=λh=>by
 rcases h with h|h<;>(injection h with b d;subst b;injection a)
theorem eD {a y:P1} (h:y <:+ a):yz a (some [32]) none y y:=⟨h,.inl ⟨rfl,rfl,rfl⟩⟩
theorem hV {c:Nat} {y:P1} (h:bw (c::y)):bw y:=λd a=>h d (by simp [a])
section
variable {buf buf2:P1} {n:Nat}
theorem tG (i:Ez buf buf2 n) {c:Nat} {y:P1} (p:c=59\/c=44) (j:y <:+ buf) (l:y.length<=n) (m:bw y) {k:Int} {nm:Bool} {C:List af} {D:List (List af)} (q:C.length+D.length+(y.length+1)<=790) {rv:List Nat×P1}:
  ∃f,TR buf buf2 false ⟨some [32],none,y,k,nm,[c],C,D,some rv⟩ f/\f.rf=true/\f.L=(aZ false ⟨.B,C,D⟩ (c::y)).1:=by
 rcases p with rfl|rfl
 ·obtain ⟨o,a,f,b,d,g,h⟩:=i y l m (some [32]) none y k false C D (eD j) (λe=>by injection e) (by lia) rv
  exact ⟨f,.semi o a f b d,g,by rw [h,gQ (.inr rfl)]⟩
 ·obtain ⟨o,a,f,b,d,g,h⟩:=i y l m (some [32]) none y k false [] (C::D) (eD j) (λe=>by injection e) (by simp only [List.length_nil,List.length_cons];lia) rv
  exact ⟨f,.comma o a f (by show D.length<900;lia) b d,g,by rw [h,jU]⟩
theorem yD (hb:buf.length<=800) (m:bw buf) (T:buf2.length<=800) (B:bw buf2) (L:Ez buf buf2 n) {z w:P1} (p:z <:+ buf) (hn:z.length<=n) {k:Int} {C:List af} {D:List (List af)} (hl:C.length+D.length+(z.length+1)<=790) {rv:List Nat×P1}:
  ∃f,TR buf buf2 false ⟨some [32],none,z,k,true,[61],(w,none)::C,D,some rv⟩ f/\f.rf=true/\f.L=(aZ false ⟨.E w,C,D⟩ (z.dropWhile aW)).1:=by
 have U:bw z:=m.PE p;have s:(z.dropWhile aW).length<=z.length:=cJ;have b:z.dropWhile aW <:+ buf:=bR.trans p;cases t:z.dropWhile aW with
 |nil=>
  exact ⟨_,.fin (w,none) C _ (.none _ _ _ (jn (by lia) m (.inl rfl) p t) (jn (by lia) B (.inl rfl) List.nil_suffix rfl) (.inl rfl)) (.stop _),rfl,rfl⟩
 |cons d y=>
  simp only [t] at s b;simp only [List.length_cons] at s;have u:bw (d::y):=m.PE b;have g:d≠32:=iJ (cv t);by_cases a:aG d=true
  ·have V:(y.dropWhile aG).length<=y.length:=cJ
   have G:=o9 (W:=WR) (Q:=[]) (by lia) m (.inr ⟨rfl,rfl⟩) p t a (.inl rfl)
   have N:(b9 (d::y.takeWhile aG) false (y.dropWhile aG)).w=d::y.takeWhile aG:=rg;have i:yz buf (b9 (d::y.takeWhile aG) false (y.dropWhile aG)).st (b9 (d::y.takeWhile aG) false (y.dropWhile aG)).pb (b9 (d::y.takeWhile aG) false (y.dropWhile aG)).r (y.dropWhile aG):=kK rfl (λ_=>pd) (bb b);have j:=o8 (tok:=d::y.takeWhile aG) (q:=false) (l:=y.dropWhile aG);generalize b9 (d::y.takeWhile aG) false (y.dropWhile aG)=o3 at*;obtain ⟨w3,v,O,x,Y,Pm⟩:=o3;dsimp only at N i j;subst N;obtain ⟨o,en,f,H,I,J,h4⟩:=L (y.dropWhile aG) (by lia) ((hV u).PE bR) v x O k false ((w,some (d::y.takeWhile aG))::C) D i (λe=>by injection e) (by simp only [List.length_cons];lia) (d::y.takeWhile aG,d::y.takeWhile aG)
   have Pn:(y.takeWhile aG).length<=y.length:=(List.takeWhile_prefix _).length_le;refine ⟨f,.word (w,none) C d (y.takeWhile aG) v x O o en f (yC a) (by simp only [List.length_cons];lia) j (.some (.word _ _ ⟨_,_,_,_,_,_⟩ G (by simp))) H I,J,?_⟩
   rw [h4,fe (.inl rfl) (by simpa using g),List.takeWhile_cons,List.dropWhile_cons,if_pos a,if_pos a]
  ·have a:aG d=false:=by simpa using a
   have A:d=59\/d=44:=by
    rcases eA a with h|h|h
    ·exact absurd h g
    ·exact .inl h
    ·exact .inr h
   have G:=ri (W:=WR) (Q:=[]) (by lia) m (.inr ⟨rfl,rfl⟩) p t a g
   obtain ⟨f,H,I,J⟩:=tG L (c:=d) (y:=y) (k:=k) (nm:=false) (C:=(w,some [])::C) (D:=D) (rv:=([d],[])) A (bb b) (by lia) (hV u) (by simp only [List.length_cons];lia)
   refine ⟨f,.sep (w,none) C d y f A (.some (.word _ _ ⟨_,_,_,_,_,_⟩ G (by simp))) H,I,?_⟩
   rw [J,fe (.inl rfl) (by simpa using g),List.takeWhile_cons,List.dropWhile_cons,if_neg (by rw [a];decide),if_neg (by rw [a];decide)]
theorem yE (hb:buf.length<=800) (G:bw buf) (Y:buf2.length<=800) (m:bw buf2):∀n,Ez buf buf2 n:=by
 intro n
 induction n with
 |zero=>
  intro x hn H st pb r k Q C D a I hl J;have hx:x=[]:=List.length_eq_zero_iff.mp (by lia)
  subst hx;obtain ⟨rfl,p,hp⟩:=kJ (by lia) G (.inl rfl) a rfl
  exact ⟨_,true,_,.none st r k hp (jn (by lia) m (.inl rfl) List.nil_suffix rfl) p,.stop _,rfl,rfl⟩
 |succ n T=>
  intro x hn H st pb r k Q C D a I hl J;have L:(x.dropWhile aW).length<=x.length:=cJ;cases l:x.dropWhile aW with
  |nil=>
   obtain ⟨rfl,p,hp⟩:=kJ (by lia) G (.inl rfl) a l
   exact ⟨_,true,_,.none st r k hp (jn (by lia) m (.inl rfl) List.nil_suffix rfl) p,.stop _,rfl,by rw [dx,l];rfl⟩
  |cons c y=>
   have q:bw (c::y):=by rw [<-l];exact H.PE bR
   simp only [l] at L;simp only [List.length_cons] at L;by_cases i:aT c=true
   ·obtain ⟨o,N,hw,s⟩:=rh (k:=k) (by lia) G a l i
    have g:=mn (b:=false) (C:=C) (D:=D) l i;have n1:=(eC (y:=y) i).1;have n2:=(eC (y:=y) i).2.1;have n3:=(eC (y:=y) i).2.2.1;have n4:=(eC (y:=y) i).2.2.2;have Px:((c::y).dropWhile aT).length<=y.length:=by
     rw [List.dropWhile_cons,if_pos i];exact cJ
    have Pm:((c::y).takeWhile aT).length<=(c::y).length:=(List.takeWhile_prefix _).length_le;simp only [List.length_cons] at Pm;have Pn:bw ((c::y).dropWhile aT):=q.PE bR;have u:(c::y).dropWhile aT=[]\/∃d r,(c::y).dropWhile aT=d::r/\aT d=false:=by
     cases j:(c::y).dropWhile aT with
     |nil=>exact .inl rfl
     |cons d r=>exact .inr ⟨d,r,rfl,cv j⟩
    generalize (c::y).dropWhile aT=t at*;generalize (c::y).takeWhile aT=w at*;obtain ⟨U,Po,or,Pp,ok⟩:=o;dsimp only at hw s;subst hw;by_cases j:∃z,t.dropWhile aW=61::z
    ·obtain ⟨z,j⟩:=j
     obtain ⟨Pq,V,Pt⟩:=jm (k:=ok) (by lia) G s j rfl
     have h2:(t.dropWhile aW).length<=t.length:=cJ;simp only [j,List.length_cons] at h2;obtain ⟨f,v,A,E⟩:=yD hb G Y m T (z:=z) (w:=U) (k:=V) (C:=C) (D:=D) (rv:=J) Pq (by lia) (by lia)
     exact ⟨_,false,f,.some N,.name _ false f n1 n2 n3 n4 (by show C.length<=900;lia) (by show U.length<=900;lia) (.some Pt) v,A,by rw [E,g,o5 j]⟩
    ·have j:∀z,t.dropWhile aW≠61::z:=λz e=>j ⟨z,e⟩
     obtain ⟨o2,en,f,v,A,E,f4⟩:=T t (by lia) Pn Po Pp or ok true ((U,none)::C) D s (λ_=>j) (by simp only [List.length_cons];lia) J
     exact ⟨_,false,f,.some N,.name o2 en f n1 n2 n3 n4 (by show C.length<=900;lia) (by show U.length<=900;lia) v A,E,by rw [f4,g,gw u j]⟩
   ·have i:aT c=false:=by simpa using i
    have Pu:c≠32:=iJ (cv l);obtain ⟨O,V,hg⟩:=jm (k:=k) (by lia) G a l i
    have g:aZ false ⟨.B,C,D⟩ x=aZ false ⟨.B,C,D⟩ (c::y):=by rw [dx,l]
    rcases Cg i Pu with rfl|h
    ·have Pw:Q=false:=by
      cases Q with
      |false=>rfl
      |true=>exact absurd l (I rfl y)
     subst Pw;obtain ⟨o2,en,f,v,A,E,f4⟩:=T y (by lia) (hV q) (some [32]) none y V false C D (eD O) (λe=>by injection e) (by lia) J
     exact ⟨_,false,f,.some hg,.eq o2 en f v A,E,by rw [f4,g,gQ (.inl rfl)]⟩
    ·obtain ⟨f,v,A,E⟩:=tG T (c:=c) (y:=y) (k:=V) (nm:=Q) (C:=C) (D:=D) (rv:=J) h O (by lia) (hV q) (by lia)
     exact ⟨_,false,f,.some hg,v,A,by rw [E,g]⟩
end
end
section
def Nc (a:P1) (c:P9) (d:Option Nat) (r:P1) (k:Int) (e:Bool) (C:List af) (D:List (List af)) (b:List (List af)×Bool):Prop:=
 ∀g,∃o f,GA WN [] a c d r k o/\TA a ⟨o.st,o.pb,o.r,o.k,e,o.w,C,D,g⟩ f/\f.rf=b.2/\f.L=b.1
def EA (a:P1) (n:Nat):Prop:=∀(x:P1),x.length<=n->bw x->∀(st:P9) (b:Option Nat) (r:P1) (k:Int) (c:Bool) (C:List af) (D:List (List af)),yz a st b r x->(c=true->∀z,x.dropWhile aW≠61::z)->
 C.length+D.length+x.length<=700->Nc a st b r k c C D (aZ true ⟨.B,C,D⟩ x)
section
variable {a:P1} {n:Nat}
theorem tH (i:EA a n) {c:Nat} {y:P1} (p:c=59\/c=44) (j:y <:+ a) (l:y.length<=n) (m:bw y) {k:Int} {nm:Bool} {C:List af} {D:List (List af)} (q:C.length+D.length+(y.length+1)<=700) {rv:Option (List Nat×P1)}:
  ∃f,TA a ⟨some [32],none,y,k,nm,[c],C,D,rv⟩ f/\f.rf=(aZ true ⟨.B,C,D⟩ (c::y)).2/\f.L=(aZ true ⟨.B,C,D⟩ (c::y)).1:=by
 rcases p with rfl|rfl
 ·obtain ⟨o,f,b,d,g,h⟩:=i y l m (some [32]) none y k false C D (eD j) (λe=>by injection e) (by lia) rv
  rw [gQ (.inr rfl)];exact ⟨f,.semi o f b d,g,h⟩
 ·obtain ⟨o,f,b,d,g,h⟩:=i y l m (some [32]) none y k false [] (C::D) (eD j) (λe=>by injection e) (by simp only [List.length_nil,List.length_cons];lia) rv
  rw [jU];exact ⟨f,.comma o f (by show D.length<900;lia) b d,g,h⟩
theorem yF (hb:a.length<=700) (v:bw a) (IH:EA a n) {z w:P1} (G:z <:+ a) (hn:z.length<=n) {k:Int} {C:List af} {D:List (List af)} (hl:C.length+D.length+(z.length+1)<=700) {rv:Option (List Nat×P1)}:
  ∃f,TA a ⟨some [32],none,z,k,true,[61],(w,none)::C,D,rv⟩ f/\f.rf=(aZ true ⟨.E w,C,D⟩ (z.dropWhile aW)).2/\f.L=(aZ true ⟨.E w,C,D⟩ (z.dropWhile aW)).1:=by
 have Pz:bw z:=v.PE G;have T:(z.dropWhile aW).length<=z.length:=cJ;have j:z.dropWhile aW <:+ a:=bR.trans G;cases H:z.dropWhile aW with
 |nil=>exact ⟨_,.fin (w,none) C _ (.fin _ (jn (by lia) v (.inr rfl) G H)) (.stop),rfl,rfl⟩
 |cons d y=>
  simp only [H] at T j;simp only [List.length_cons] at T;have m:bw (d::y):=v.PE j;have I:d≠32:=iJ (cv H);by_cases i:d=34
  ·subst i
   cases O:bN false y with
   |some qt=>
    obtain ⟨q,t⟩:=qt;obtain ⟨Pq,U,PA⟩:=Ey (k:=k) (by lia) v G H O
    have Pt:=gu O;have PB:y.length=q.length+1+t.length:=by rw [Pt];simp;lia
    obtain ⟨o,f,J,L,N,Y⟩:=IH t (by lia) (v.PE U) (some [32]) none t k false ((w,some (b8 q))::C) D (eD U) (λe=>by injection e) (by simp only [List.length_cons];lia) (some (34::(q++[34]),b8 q))
    rw [nG O];exact ⟨f,.PR (w,none) C q (b8 q) t o f (by lia) (fE y.length (Nat.le_refl _) O) Pq J L,N,Y⟩
   |none=>
    obtain ⟨g1,g2,g3⟩:=q9 (w:=w) (C:=C) (D:=D) O;have Pu:=J5 (by lia) v G H O
    have Pw:(34::y).length<=800:=by
     have:=j.length_le;lia
    have hp:=o9 (buf:=34::y) (r:=34::y) (c:=34) (y:=y) (W:=WR) (Q:=[]) (by lia) m (.inr ⟨rfl,rfl⟩) (List.suffix_refl _) rfl rfl (.inl rfl)
    have hw:(b9 (34::y.takeWhile aG) false (y.dropWhile aG)).w=34::y.takeWhile aG:=rg;have b:yz (34::y) (b9 (34::y.takeWhile aG) false (y.dropWhile aG)).st (b9 (34::y.takeWhile aG) false (y.dropWhile aG)).pb (b9 (34::y.takeWhile aG) false (y.dropWhile aG)).r (y.dropWhile aG):=kK rfl (λ_=>pd) (List.suffix_cons _ _);have g:=o8 (tok:=34::y.takeWhile aG) (q:=false) (l:=y.dropWhile aG);generalize b9 (34::y.takeWhile aG) false (y.dropWhile aG)=o3 at*;obtain ⟨w3,p,r3,s,Pm,Pn⟩:=o3;dsimp only at hw b g;subst hw;have Px:(y.dropWhile aG).length<=y.length:=cJ;have Py:(y.takeWhile aG).length<=y.length:=(List.takeWhile_prefix _).length_le;simp only [List.length_cons] at Pw;obtain ⟨o,en,f,J,L,N,Y⟩:=yE (buf:=34::y) (buf2:=a) (by rw [List.length_cons];lia) m (by lia) v (y.dropWhile aG).length (y.dropWhile aG) (Nat.le_refl _) ((hV m).PE bR) p s r3 k false ((w,some (34::y.takeWhile aG))::C) D b (λe=>by injection e) (by simp only [List.length_cons];lia) (34::y.takeWhile aG,34::y.takeWhile aG)
    refine ⟨f,.refuse (w,none) C (34::y) (y.takeWhile aG) p s r3 Pm Pn o en f (by simp only [List.length_cons];lia) g Pu hp J L,by rw [N,g1],?_⟩
    rw [Y,g2];obtain ⟨run,e,e1,Po⟩:=dg aG y;have:aZ false ⟨.V w [34],C,D⟩ y=aZ false ⟨.B,(w,some (34::y.takeWhile aG))::C,D⟩ (y.dropWhile aG):=by
     conv=>lhs;rw [e]
     rw [oW Po,e1];refine iH ?_;cases hy:y.dropWhile aG with
     |nil=>exact .inl rfl
     |cons c r=>exact .inr ⟨c,r,rfl,eA (cv hy)⟩
    simp only [this]
  ·have x:(d::y).head?≠some 34:=by simpa using i
   have A:(d::y).head?≠some 32:=by simpa using I
   by_cases u:aG d=true
   ·have Px:(y.dropWhile aG).length<=y.length:=cJ
    have hp:=o9 (W:=WV) (Q:=[34]) (by lia) v (.inl ⟨rfl,rfl⟩) G H u (.inr i)
    have hw:(b9 (d::y.takeWhile aG) false (y.dropWhile aG)).w=d::y.takeWhile aG:=rg;have b:yz a (b9 (d::y.takeWhile aG) false (y.dropWhile aG)).st (b9 (d::y.takeWhile aG) false (y.dropWhile aG)).pb (b9 (d::y.takeWhile aG) false (y.dropWhile aG)).r (y.dropWhile aG):=kK rfl (λ_=>pd) (bb j);have g:=o8 (tok:=d::y.takeWhile aG) (q:=false) (l:=y.dropWhile aG);generalize b9 (d::y.takeWhile aG) false (y.dropWhile aG)=o3 at*;obtain ⟨w3,p,r3,s,Pm,Pn⟩:=o3;dsimp only at hw b g;subst hw;have Py:(y.takeWhile aG).length<=y.length:=(List.takeWhile_prefix _).length_le;obtain ⟨o,f,J,L,N,Y⟩:=IH (y.dropWhile aG) (by lia) ((hV m).PE bR) p s r3 k false ((w,some (d::y.takeWhile aG))::C) D b (λe=>by injection e) (by simp only [List.length_cons];lia) (some (d::y.takeWhile aG,d::y.takeWhile aG))
    rw [fe (.inr x) A,List.takeWhile_cons,List.dropWhile_cons,if_pos u,if_pos u];exact ⟨f,.word (w,none) C d (y.takeWhile aG) p s r3 o f i (yC u) (by simp only [List.length_cons];lia) g (.word _ _ _ _ _ _ _ _ hp i (by simp only [List.length_cons];lia)) J L,N,Y⟩
   ·have u:aG d=false:=by simpa using u
    have Pp:d=59\/d=44:=by
     rcases eA u with h|h|h
     ·exact absurd h I
     ·exact .inl h
     ·exact .inr h
    have hp:=ri (W:=WV) (Q:=[34]) (by lia) v (.inl ⟨rfl,rfl⟩) G H u I
    obtain ⟨f,J,L,N⟩:=tH IH (c:=d) (y:=y) (k:=k) (nm:=false) (C:=(w,some [])::C) (D:=D) (rv:=some ([d],[])) Pp (bb j) (by lia) (hV m) (by simp only [List.length_cons];lia)
    rw [fe (.inr x) A,List.takeWhile_cons,List.dropWhile_cons,if_neg (by rw [u];decide),if_neg (by rw [u];decide)]
    exact ⟨f,.sep (w,none) C d y f Pp (.word _ _ _ _ _ _ _ _ hp i (by simp)) J,L,N⟩
theorem yG (hb:a.length<=700) (E:bw a):∀n,EA a n:=by
 intro n
 induction n with
 |zero=>
  intro x hn G st pb r k O C D g H hl I;have hx:x=[]:=List.length_eq_zero_iff.mp (by lia)
  subst hx;obtain ⟨rfl,p,V⟩:=kJ (by lia) E (.inl rfl) g rfl
  exact ⟨_,_,.none st r k V p,.stop,rfl,rfl⟩
 |succ n Q=>
  intro x hn G st pb r k O C D g H hl I;have J:(x.dropWhile aW).length<=x.length:=cJ;cases l:x.dropWhile aW with
  |nil=>
   obtain ⟨rfl,p,V⟩:=kJ (by lia) E (.inl rfl) g l
   rw [dx,l];exact ⟨_,_,.none st r k V p,.stop,rfl,rfl⟩
  |cons c y=>
   have q:bw (c::y):=by rw [<-l];exact G.PE bR
   simp only [l] at J;simp only [List.length_cons] at J;by_cases i:aT c=true
   ·obtain ⟨o,L,hw,s⟩:=rh (k:=k) (by lia) E g l i
    have m:=mn (b:=true) (C:=C) (D:=D) l i;rw [m];have n1:=(eC (y:=y) i).1;have n2:=(eC (y:=y) i).2.1;have n3:=(eC (y:=y) i).2.2.1;have n4:=(eC (y:=y) i).2.2.2;have Pw:((c::y).dropWhile aT).length<=y.length:=by
     rw [List.dropWhile_cons,if_pos i];exact cJ
    have Y:((c::y).takeWhile aT).length<=(c::y).length:=(List.takeWhile_prefix _).length_le;simp only [List.length_cons] at Y;have Pm:bw ((c::y).dropWhile aT):=q.PE bR;have u:(c::y).dropWhile aT=[]\/∃d r,(c::y).dropWhile aT=d::r/\aT d=false:=by
     cases j:(c::y).dropWhile aT with
     |nil=>exact .inl rfl
     |cons d r=>exact .inr ⟨d,r,rfl,cv j⟩
    clear m;generalize (c::y).dropWhile aT=t at*;generalize (c::y).takeWhile aT=w at*;obtain ⟨T,Pn,or,Po,ok⟩:=o;dsimp only at hw s;subst hw;by_cases j:∃z,t.dropWhile aW=61::z
    ·obtain ⟨z,j⟩:=j
     obtain ⟨Pp,U,Pq⟩:=jm (k:=ok) (by lia) E s j rfl
     have h2:(t.dropWhile aW).length<=t.length:=cJ;simp only [j,List.length_cons] at h2;obtain ⟨f,v,A,B⟩:=yF hb E Q (z:=z) (w:=T) (k:=U) (C:=C) (D:=D) (rv:=I) Pp (by lia) (by lia)
     rw [o5 j];exact ⟨_,f,.some L,.name _ f n1 n2 n3 n4 (by show C.length<=900;lia) (by show T.length<=900;lia) (.some Pq) v,A,B⟩
    ·have j:∀z,t.dropWhile aW≠61::z:=λz e=>j ⟨z,e⟩
     obtain ⟨o2,f,v,A,B,f4⟩:=Q t (by lia) Pm Pn Po or ok true ((T,none)::C) D s (λ_=>j) (by simp only [List.length_cons];lia) I
     rw [gw u j];exact ⟨_,f,.some L,.name o2 f n1 n2 n3 n4 (by show C.length<=900;lia) (by show T.length<=900;lia) v A,B,f4⟩
   ·have i:aT c=false:=by simpa using i
    have Pt:c≠32:=iJ (cv l);obtain ⟨N,U,hg⟩:=jm (k:=k) (by lia) E g l i
    rw [dx,l];rcases Cg i Pt with rfl|h
    ·have Pu:O=false:=by
      cases O with
      |false=>rfl
      |true=>exact absurd l (H rfl y)
     subst Pu;obtain ⟨o2,f,v,A,B,f4⟩:=Q y (by lia) (hV q) (some [32]) none y U false C D (eD N) (λe=>by injection e) (by lia) I
     rw [gQ (.inl rfl)];exact ⟨_,f,.some hg,.eq o2 f v A,B,f4⟩
    ·obtain ⟨f,v,A,B⟩:=tH Q (c:=c) (y:=y) (k:=U) (nm:=O) (C:=C) (D:=D) (rv:=I) h N (by lia) (hV q) (by lia)
     exact ⟨_,f,.some hg,v,A,B⟩
end
end
section
structure uK (n:Nat) (s:AS):Prop where
 d:s.D.length<=n
 o:s.out.length<=n
 p:∀q∈s.out,aB q
theorem mr {w:P1} {c:Nat} (h:uV w) (a:c<1114112):uV (w++[c]):=λd hd=>by
 rcases List.mem_append.mp hd with hd|hd
 ·exact h d hd
 ·rw [List.mem_singleton.mp hd];exact a
theorem pg {c:Nat} (a:c<1114112):uV [c]:=λd b=>by rw [List.mem_singleton.mp b];exact a
theorem pj {w:P1} (h:uV w):aB (w,none):=⟨h,λY e=>by cases e⟩
theorem jo {w v:P1} (h:uV w) (a:uV v):aB (w,some v):=⟨h,λY e=>by cases e;exact a⟩
theorem gC {n:Nat} {C:List af} {D:List (List af)} {c:Nat} (a:D.length<=n) (d:(C++D.flatten).length<=n) (b:∀q∈C++D.flatten,aB q):uK (n+1) (mJ C D c):=by
 refine ⟨?_,by rw [(bJ C D c).1];lia,by rw [(bJ C D c).1];exact b⟩
 unfold mJ;split
 ·simpa using a
 ·exact Nat.le_succ_of_le a
theorem pk {n:Nat} {s:AS} {c:Nat} (h:uK n s) (g:c<1114112):uK (n+1) (fL s c):=by
 obtain ⟨m,C,D⟩:=s;obtain ⟨d,a,b⟩:=h;have d:D.length<=n:=d;cases m with
 |B=>
  have a:(C++D.flatten).length<=n:=a;have b:∀q∈C++D.flatten,aB q:=b;unfold fL;dsimp only;split
  ·exact ⟨Nat.le_succ_of_le d,by show ((([c],none)::C)++D.flatten).length<=_;simp only [List.cons_append,List.length_cons];lia,List.forall_mem_cons.mpr ⟨pj (pg g),b⟩⟩
  ·exact gC d a b
 |N w=>
  have a:(((w,none)::C)++D.flatten).length<=n:=a;have b:∀q∈((w,none)::C)++D.flatten,aB q:=b;obtain ⟨e,f⟩:=List.forall_mem_cons.mp b;unfold fL;dsimp only;split
  ·exact ⟨Nat.le_succ_of_le d,Nat.le_succ_of_le a,List.forall_mem_cons.mpr ⟨pj (mr e.1 g),f⟩⟩
  split
  ·exact ⟨Nat.le_succ_of_le d,Nat.le_succ_of_le a,b⟩
  split
  ·exact ⟨Nat.le_succ_of_le d,Nat.le_succ_of_le a,List.forall_mem_cons.mpr ⟨jo e.1 (λY h=>by cases h),f⟩⟩
  ·exact gC d a b
 |M w=>
  have a:(((w,none)::C)++D.flatten).length<=n:=a;have b:∀q∈((w,none)::C)++D.flatten,aB q:=b;obtain ⟨e,f⟩:=List.forall_mem_cons.mp b;unfold fL;dsimp only;split
  ·exact ⟨Nat.le_succ_of_le d,by show ((([c],none)::(w,none)::C)++D.flatten).length<=_;simp only [List.cons_append,List.length_cons] at a⊢;lia,List.forall_mem_cons.mpr ⟨pj (pg g),b⟩⟩
  split
  ·exact ⟨Nat.le_succ_of_le d,Nat.le_succ_of_le a,b⟩
  split
  ·exact ⟨Nat.le_succ_of_le d,Nat.le_succ_of_le a,List.forall_mem_cons.mpr ⟨jo e.1 (λY h=>by cases h),f⟩⟩
  ·exact gC d a b
 |E w=>
  have a:(((w,some [])::C)++D.flatten).length<=n:=a;have b:∀q∈((w,some [])::C)++D.flatten,aB q:=b;obtain ⟨e,f⟩:=List.forall_mem_cons.mp b;unfold fL;dsimp only;split
  ·exact ⟨Nat.le_succ_of_le d,Nat.le_succ_of_le a,List.forall_mem_cons.mpr ⟨jo e.1 (pg g),f⟩⟩
  split
  ·exact ⟨Nat.le_succ_of_le d,Nat.le_succ_of_le a,b⟩
  ·exact gC d a b
 |V w v=>
  have a:(((w,some v)::C)++D.flatten).length<=n:=a;have b:∀q∈((w,some v)::C)++D.flatten,aB q:=b;obtain ⟨e,f⟩:=List.forall_mem_cons.mp b;unfold fL;dsimp only;split
  ·exact ⟨Nat.le_succ_of_le d,Nat.le_succ_of_le a,List.forall_mem_cons.mpr ⟨jo e.1 (mr (e.2 v rfl) g),f⟩⟩
  ·exact gC d a b
theorem iL:∀(n:Nat) {q:P1},q.length<=n->∀c∈b8 q,c∈q
 |_,[],_,c,h=>by cases h
 |_,[d],_,c,h=>h
 |0,_::_::_,h,_,_=>by simp at h
 |n+1,d::e::r,a,c,h=>by
  simp only [List.length_cons] at a;have h:c∈(if d=92 then e::b8 r else d::b8 (e::r)):=h
  split at h
  ·rcases List.mem_cons.mp h with rfl|h
   ·simp
   ·have:=iL n (q:=r) (by lia) c h
    simp [this]
  ·rcases List.mem_cons.mp h with rfl|h
   ·simp
   ·have:=iL n (q:=e::r) (by simp only [List.length_cons];lia) c h
    exact List.mem_cons_of_mem _ this
def yH (n:Nat) (z:QS):Prop:=uK n z.as/\match z with
 | .n _=>True
 | .q w q _ C D _=>uV w/\uV q/\D.length<=n/\(C++D.flatten).length+1<=n/\∀p∈C++D.flatten,aB p
set_option tactic.hygienic true in
theorem uL {n:Nat} {z:QS} {c:Nat} (h:yH n z) (a:c<1114112):yH (n+1) (cS z c):=by
 cases z with
 |n s=>
  obtain ⟨h, -⟩:=h;have h:uK n s:=h;unfold cS;dsimp only;split
  ·rename_i e
   subst e;refine ⟨by simp only [q6];exact pk h a,?_⟩
   obtain ⟨m,C,D⟩:=s;obtain ⟨d,b,f⟩:=h;cases m
   case E w=>
    have b:(((w,some [])::C)++D.flatten).length<=n:=b;obtain ⟨j,k⟩:=List.forall_mem_cons.mp (show ∀q∈((w,some [])::C)++D.flatten,aB q from f)
    exact ⟨j.1,(λY h=>by exact nomatch h),Nat.le_succ_of_le d,Nat.le_succ_of_le b,k⟩
   all_goals trivial
  ·exact ⟨pk h a,trivial⟩
 |q w q e C D s=>
  obtain ⟨h,g,i,d,b,f⟩:=h;have h:uK n s:=h;unfold cS;dsimp only;split
  ·exact ⟨⟨Nat.le_succ_of_le d,by show ((w,some (b8 q))::C++D.flatten).length<=n+1;simp only [List.cons_append,List.length_cons];lia,List.forall_mem_cons.mpr ⟨jo g (λc a=>i c (iL q.length (Nat.le_refl _) c a)),f⟩⟩,trivial⟩
  ·exact ⟨pk h a,g,mr i a,Nat.le_succ_of_le d,Nat.le_succ_of_le b,f⟩
theorem J6 {c:Nat} (h:Al c):c<1114112:=by unfold Al at h;lia
theorem rk {x:P1} (a:bw x):yH x.length (d3 x):=by
 have:∀(x:P1) (n:Nat) (z:QS),bw x->yH n z->yH (n+x.length) (x.foldl cS z):=by
  intro x
  induction x with
  |nil=>exact λn z Y h=>h
  |cons c x b=>
   intro n z a h;have:=b (n+1) (cS z c) (hV a) (uL h (J6 (a c (.head _))));rw [List.length_cons,show n+(x.length+1)=n+1+x.length by lia]
   exact this
 have h:=this x 0 q0 a ⟨⟨Nat.le_refl _,Nat.le_refl _,λY h=>by cases h⟩,trivial⟩
 rw [Nat.zero_add] at h;exact h
def Ap (z:QS):List (List af):=(z.as.fin::z.as.D).filter iz
theorem pn:∀(L:List (List af)),(L.filter iz).flatten=L.flatten
 |[]=>rfl
 |C::L=>by
  cases C with
  |nil=>rw [fF,pn L];rfl
  |cons p C=>rw [d4 (by simp),List.flatten_cons,List.flatten_cons,pn L]
theorem jY (z:QS):(Ap z).flatten=z.as.out:=pn _
theorem Aq {z:QS}:∀C∈Ap z,C≠[]:=λC a e=>by
 have:=(List.mem_filter.mp a).2;rw [e] at this;injection this
theorem Ar {x:P1} (b:bw x) (c:x.length<=700):mc x (Ap (d3 x)) (d3 x).rf:=by
 obtain ⟨o,f,h,i,g,a⟩:=yG c b x.length x (Nat.le_refl _) b (some [32]) none x 0 false [] [] (eD (List.suffix_refl _)) (λe=>by injection e) (by simpa using c) none
 have k:=(rk b).1.d;have j:aZ true ⟨.B,[],[]⟩ x=((d3 x).as.fin::(d3 x).as.D,(d3 x).rf):=rfl;rw [j] at g a;exact ⟨f,⟨⟨o,h,i⟩,by rw [a];simp,by rw [a];simp only [List.length_cons];lia⟩,g,by rw [a];rfl⟩
theorem uM {x:P1} {i:Nat} (a:i<x.length):d3 (x.take (i+1))=cS (d3 (x.take i)) (x.getD i 0):=by
 unfold d3;rw [List.take_add_one,List.getElem?_eq_getElem a];simp only [Option.toList_some,List.foldl_append,List.foldl_cons,List.foldl_nil];rw [List.getD_eq_getElem?_getD,List.getElem?_eq_getElem a];rfl
theorem tI {x:P1} (g:bw x) (p:x.length<=400) {i l:Nat} {O:List af} {b:Bool} (j:i<=x.length) (d:iG O (d3 (x.take i)).as.out (b&& !(d3 (x.take i)).rf)) (k:b=true->(d3 (x.take i)).as.out≠[])
  (h:GW x (i+1) l (d3 (x.take i)).as.out (d3 (x.take i)).rf):GW x i (l+1) O b:=by
 have a:=g.take i;have m:(x.take i).length<=400:=by rw [List.length_take];lia
 have f:=(rk a).1;have c:=f.o;rw [<-jY] at d h c;exact .turn i l O b (Ap (d3 (x.take i))) _ j (sH a (by lia)) (Ar a (by lia)) Aq (λC n q o=>f.p q (by
  rw [<-jY];exact List.mem_flatten.mpr ⟨C,n,o⟩)) (by lia) d (λe=>by
  have:=k e;rw [<-jY] at this;intro q;rw [q] at this;exact this rfl) h
theorem tJ {x:P1} (a:bw x) (b:x.length<=400):∀(l i:Nat),i+1+l=x.length+1->GW x (i+1) l (d3 (x.take i)).as.out (d3 (x.take i)).rf
 |0,i,_=>.stop _ _ _
 |l+1,i,h=>by
  obtain ⟨c,d⟩:=yn (d3 (x.take i)) (x.getD i 0) (Aj _);rw [<-uM (by lia)] at c d
  exact tI a b (by lia) c d (tJ a b l (i+1) (by lia))
theorem J7 {x:P1} (a:bw x) (b:x.length<=400):GW x 0 (x.length+1) [] false:=
 tI a b (Nat.zero_le _) (kH (o:=[]) (n:=[]) (base:=[]) (Nat.zero_le _) (.inr (Nat.zero_le _))) (λe=>by injection e) (tJ a b x.length 0 (by lia))
end
section
noncomputable def Ci:Sem PySem.Fin->Obj->Sem PySem.Fin
 | .load _ _ k=>k
 |t=>λY=>t
noncomputable def KI:Sem PySem.Fin->P6
 | .load _ p _=>p
 |_=>none
noncomputable def uW:Sem PySem.Fin->Addr->Sem PySem.Fin
 | .alloc _ k=>k
 |t=>λY=>t
noncomputable def Nd:Sem PySem.Fin->Unit->Sem PySem.Fin
 | .update _ _ _ k=>k
 |t=>λY=>t
noncomputable def N5:Sem PySem.Fin->P6
 | .update _ p _ _=>p
 |_=>none
noncomputable def As:Sem PySem.Fin->Obj->Obj
 | .update _ _ f _=>f
 |_=>id
noncomputable def mK (o:Obj):FuncData:=match o.data with
 | .func a=>a
 |_=>default
@[irreducible] def Au (P:Params):Sem PySem.Fin:=jt 848 (mK (fR P)) ⟨[.ref 849],[]⟩
@[irreducible] def E6 (P:Params):Sem PySem.Fin:=Ci (Au P) (y0 P)
@[irreducible] def E7 (P:Params):Sem PySem.Fin:=uW (E6 P) 850
@[irreducible] def E8 (P:Params):Sem PySem.Fin:=uW (E7 P) 851
@[irreducible] def Av (P:Params):Sem PySem.Fin:=uW (E8 P) 852
theorem J8 (P:Params):jt 848 (mK (fR P)) ⟨[.ref 849],[]⟩=Au P:=by kernel_rfl
theorem J9 (P:Params):Ci (Au P) (y0 P)=E6 P:=by kernel_rfl
theorem Ka (P:Params):uW (E6 P) 850=E7 P:=by kernel_rfl
theorem Kb (P:Params):uW (E7 P) 851=E8 P:=by kernel_rfl
theorem Kc (P:Params):uW (E8 P) 852=Av P:=by kernel_rfl
theorem EB (P:Params):Au P= .load 847 (KI (Au P)) (Ci (Au P)):=by kernel_rfl
theorem EC (P:Params):E6 P= .alloc (aS #[] 0 #[]) (uW (E6 P)):=by kernel_rfl
theorem ED (P:Params):E7 P= .alloc (a4 none) (uW (E7 P)):=by kernel_rfl
theorem EE (P:Params):E8 P= .alloc (a4 none) (uW (E8 P)):=by kernel_rfl
@[irreducible] def rq (P:Params):Sem PySem.Fin:=Ci (Av P) (a4 none)
theorem Kd (P:Params):Ci (Av P) (a4 none)=rq P:=by kernel_rfl
theorem EF (P:Params):Av P= .load 851 (KI (Av P)) (Ci (Av P)):=by kernel_rfl
theorem EG (P:Params):rq P= .update 851 (N5 (rq P)) (As (rq P)) (Nd (rq P)):=by kernel_rfl
theorem EH (P:Params):Nd (rq P) ()= .pure (.again (d5 850)):=by kernel_rfl
theorem yI (P:Params):As (rq P) (a4 none)=a4 (some (.ref 849)):=by kernel_rfl
noncomputable def Nf (i:Nat):Addr:=match i with
 |0=>850
 |1=>849
 |2=>78
 |3=>851
 |_=>852
theorem Ke {c:P5} (h:Ag c):∃j,yg c j:=by
 have d:∀k,∃z,∃a,ct (bP c k).reverse a/\a.sum=z:=λk=>by
  obtain ⟨a,e⟩:=sD h k;exact ⟨_,a,e,rfl⟩
 obtain ⟨s,f⟩:=Classical.axiomOfChoice d;refine ⟨λk=>((Ai k+s k).fmod 10).toNat,s,f,λk=>?_⟩;have g:=Int.fmod_nonneg_of_pos (Ai k+s k) (b:=10) (by decide)
 have i:=Int.fmod_lt_of_pos (Ai k+s k) (b:=10) (by decide)
 exact ⟨by lia,by lia⟩
theorem dH {P:Params} {a:Nat} {o:Option Obj} (h:(tQ P).get a=o):top P a=o:=by unfold top;exact h
theorem EI {w:World} {A:Around} {C:P8} {c:Code} {Q:PySem.Fin->Shared->Prop} {E:Value->Shared->Prop} {s:Shared} {a:Addr} {o:Obj} {fd:FuncData} {b:Args} (d:s.1.get? a=some o) (e:o.data= .func fd) (f:(fd.scope.isGenerator||fd.scope.isCoroutine)=false)
  (z:eM (model aX w) A C c (tail true (jt a fd b)) Q E s):eM (model aX w) A C c (callAny (.ref a) b) Q E s:=by
 unfold callAny;refine c6 (bU (wpAny_load d ?_));rw [e];dsimp only;rw [fH f];exact z
theorem pq (P:Params):(fR P).data= .func (mK (fR P)):=by kernel_rfl
theorem EJ (P:Params):((mK (fR P)).scope.isGenerator||(mK (fR P)).scope.isCoroutine)=false:=by kernel_rfl
theorem Kf {w:World} {A:Around} {C:P8} {c:Code} {Q:PySem.Fin->Shared->Prop} {E:Value->Shared->Prop} {s:Shared} (a:s.1.get? 848=some (fR w.2))
  (z:eM (model aX w) A C c (tail true (Au w.2)) Q E s):eM (model aX w) A C c (callAny (.ref 848) ⟨[.ref 849],[]⟩) Q E s:=EI a (pq _) (EJ _) (by rw [J8];exact z)
section
variable {w:World} {s:Shared} {A:Around} {R:Result->Shared->Prop} {a:P5} {c:Nat}
theorem Aw (Q:cK (top w.2) s.1) (h:s.1.1.size=850) (k:s.1.get? 849=some (aa a c)) (U:s.1.get? 78=some (dk 0)) (L:Ag a) (hl:a.length<=63) (hh:A.handled=none) (hd:A.depth+500<recursionLimit) (hu:A.units+5000<cLine)
  (V:∀l st,(∀b o,s.1.get? b=some o->b≠78->l.1.get? b=some o)->l.1.get? 78=some (dk st)->l.1.life=s.1.life->l.gens=s.gens->l.os=s.os->R (.ok (.ret (.bool true))) l):
  gT (model aX w) A [d6] (.call (.ref 848) ⟨[.ref 849],[]⟩) R s:=by
 have C:s.1.get? 848=some (fR w.2):=Q _ _ (dH (by kernel_rfl))
 have D:s.1.get? 847=some (y0 w.2):=Q _ _ (dH (by kernel_rfl))
 refine ic ?_;show eM _ A _ _ (callAny (.ref 848) ⟨[.ref 849],[]⟩) _ _ s;refine Kf C ?_;rw [EB,jw];refine c6 (m:=loadPart 847 (KI (Au w.2))) (f:=λy=>tail true (Ci (Au w.2) y)) (bU (wpAny_loadPart D ?_));rw [J9,EC,fo];refine c6 (m:=PySem.alloc (aS #[] 0 #[])) (f:=λy=>tail true (uW (E6 w.2) y)) (bU (wpAny_alloc ?_));rw [h,Ka,ED,fo];refine c6 (m:=PySem.alloc (a4 none)) (f:=λy=>tail true (uW (E7 w.2) y)) (bU (wpAny_alloc ?_));have n:(s.1.push (aS #[] 0 #[])).objs.size=851:=by rw [aN,h]
 have r:((s.1.push (aS #[] 0 #[])).push (a4 none)).objs.size=852:=by rw [aN,n]
 have Pm:(((s.1.push (aS #[] 0 #[])).push (a4 none)).push (a4 none)).objs.size=853:=by rw [aN,r]
 rw [show ({s with heap:=s.1.push (aS #[] 0 #[])}:Shared).heap.1.size=851 from n]
 rw [Kb,EE,fo];refine c6 (m:=PySem.alloc (a4 none)) (f:=λy=>tail true (uW (E8 w.2) y)) (bU (wpAny_alloc ?_));rw [show ({s with heap:=(s.1.push (aS #[] 0 #[])).push (a4 none)}:Shared).heap.1.size=852 from r]
 rw [Kc];show eM _ A _ _ (tail true (Av w.2)) _ _ {s with heap:=((s.1.push (aS #[] 0 #[])).push (a4 none)).push (a4 none)};have E:(((s.1.push (aS #[] 0 #[])).push (a4 none)).push (a4 none)).get? 850=some (aS #[] 0 #[]):=
  Heap.get?_push_of_some _ (Heap.get?_push_of_some _ (by have:=Heap.get?_push_size s.1 (o:=aS #[] 0 #[]) rfl;rw [h] at this;exact this))
 have g:(((s.1.push (aS #[] 0 #[])).push (a4 none)).push (a4 none)).get? 851=some (a4 none):=
  Heap.get?_push_of_some _ (by have:=Heap.get?_push_size (s.1.push (aS #[] 0 #[])) (o:=a4 none) rfl;rw [n] at this;exact this)
 have H:(((s.1.push (aS #[] 0 #[])).push (a4 none)).push (a4 none)).get? 852=some (a4 none):=by
  have:=Heap.get?_push_size ((s.1.push (aS #[] 0 #[])).push (a4 none)) (o:=a4 none) rfl;rw [r] at this;exact this
 have Y:∀b o,s.1.get? b=some o->(((s.1.push (aS #[] 0 #[])).push (a4 none)).push (a4 none)).get? b=some o:=λb o e=>Heap.get?_push_of_some _ (Heap.get?_push_of_some _ (Heap.get?_push_of_some _ e));have t:(((s.1.push (aS #[] 0 #[])).push (a4 none)).push (a4 none)).life=s.1.life:=rfl;generalize ((s.1.push (aS #[] 0 #[])).push (a4 none)).push (a4 none)=B at*;rw [EF,jw];refine c6 (m:=loadPart 851 (KI (Av w.2))) (f:=λy=>tail true (Ci (Av w.2) y)) (bU (wpAny_loadPart g ?_));rw [Kd,EG,j2];refine c6 (m:=updatePart 851 (N5 (rq w.2)) (As (rq w.2))) (f:=λy=>tail true (Nd (rq w.2) y)) (bU (wpAny_updatePart g ?_));rw [EH];have u:Heap.SameBut 851 B (B.update 851 (As (rq w.2))):=Heap.SameBut.update ..;have I:(B.update 851 (As (rq w.2))).get? 851=some (a4 (some (.ref 849))):=by
  have:=Heap.get?_update_self (As (rq w.2)) g (by rw [yI];rfl)
  rw [yI] at this;exact this
 have i:(B.update 851 (As (rq w.2))).life=s.1.life:=t;have lt:∀b o,s.1.get? b=some o->b<850:=λb o e=>by have:=Heap.lt_size e;rw [h] at this;exact this
 have d:∀b o,s.1.get? b=some o->(B.update 851 (As (rq w.2))).get? b=some o:=λb o e=>(u.2 b λq=>by
  have:=lt b o e;rw [q] at this;exact absurd this (by decide)).trans (Y b o e)
 have v:=(u.2 850 (by decide)).trans E
 have z:=(u.2 852 (by decide)).trans H
 generalize B.update 851 (As (rq w.2))=h4 at*;have J:cK (top w.2) h4:=λb o e=>d b o (Q b o e);refine c6 (m:=enterFrame 0) (f:=λ_=>Sem.pure (PySem.Fin.again (d5 850))) (bU (wpAny_enterFrame (lim w.2 h4 J) (by
  show A.depth+_<_;have:(Code.call (.ref 848) ⟨[.ref 849],[]⟩).weight<=50:=by decide+kernel
  lia) (nI ⟨by kernel_rfl,?_⟩)))
 obtain ⟨j,hj⟩:=Ke L;have Pn:=nD j;have hT:Le (top w.2) (top w.2):=Le.refl _;have T:=(N4 w a c j).PO [(2,78),(3,851),(4,852)] hT (bh (aI ⟨λ_ hF=>yh hF,λ_ _=>yi,λ_ hF=>uH hF,trivial⟩)) bL Na (ag ⟨rfl,⟨J7 (qY j) (by lia),qY j,by lia⟩,rfl,rfl,⟨by lia,hj⟩,trivial⟩) (λ_=>rfl) rfl rfl Nf (by
  intro x L;simp only [List.mem_cons,List.not_mem_nil,or_false] at L;rcases L with rfl|rfl|rfl
  ·exact ⟨by show 2<5;decide,rfl⟩
  ·exact ⟨by show 3<5;decide,rfl⟩
  ·exact ⟨by show 4<5;decide,rfl⟩)
 refine T A {s with heap:=h4} R hh (by show A.depth+450<_;lia) (by show A.units+4500<_;lia) J (λp N=>?_) ?_ (λl ad tk F' G _ _ X=>?_)
 ·have N:p∈[((850:Nat),aS #[] 0 #[]),(849,aa a c),(78,dk 0),(851,a4 (some (.ref 849))),(852,a4 none)]:=N
  simp only [List.mem_cons,List.not_mem_nil,or_false] at N;rcases N with rfl|rfl|rfl|rfl|rfl
  ·exact ⟨v,dH (by kernel_rfl)⟩
  ·exact ⟨d _ _ k,dH (by kernel_rfl)⟩
  ·exact ⟨d _ _ U,dH (by kernel_rfl)⟩
  ·exact ⟨I,dH (by kernel_rfl)⟩
  ·exact ⟨z,dH (by kernel_rfl)⟩
 ·show ([850,849,78,851,852]:P1).Nodup
  decide
 ·refine V l (tk 1) (λb o e hb=>?_) ?_ (X.life.trans i) X.gens X.os
  ·by_cases h9:b=849
   ·subst h9
    rw [k] at e;cases e;exact X.upd 1 (849,aa a c) (aa a c) rfl rfl rfl
   ·refine X.keep b o (d b o e) λO=>?_
    have O:b∈([850,849,78,851,852]:P1):=O;have:=lt b o e;simp only [List.mem_cons,List.not_mem_nil,or_false] at O;rcases O with rfl|rfl|rfl|rfl|rfl
    ·exact absurd this (by decide)
    ·exact h9 rfl
    ·exact hb rfl
    ·exact absurd this (by decide)
    ·exact absurd this (by decide)
  ·have q:(dk (tk 1)).isFreed=false:=by delta dk BR;rfl
   exact X.upd 2 (78,dk 0) _ rfl rfl q
end
end
noncomputable abbrev G0:Ctx:=⟨.builtin "claim.caller" {},none,none,[],none⟩
theorem rl (P:Params) {h:Heap} (e:h.get? 3=some (o3 P)):globalOf h "law"=some (.ref 848):=by
 unfold globalOf;rw [show h.get? mainNs=some (o3 P) from e]
 kernel_rfl
theorem EK {w:World} {s:Shared} {xs:P5} {nx:Nat} {R:Result->Shared->Prop} (j:s.1.isNs mainGlobals=true) (k:cK (top w.2) s.1) (f:s.1.1.size=850) (d:s.1.get? 849=some (aa xs nx)) (g:s.1.get? 78=some (dk 0)) (l:Ag xs) (m:xs.length<=63)
  (h:∀c i,(∀b o,s.1.get? b=some o->b≠78->c.1.get? b=some o)->c.1.get? 78=some (dk i)->c.1.life=s.1.life->c.gens=s.gens->c.os=s.os->R (.ok (.ret (.bool true))) c):
  Sem.wp (model pw w) G0 (PySem.callStub "law" [.ref 849]).cur (Sem.finPost (model pw w) G0 R) (λe Y c=>R (.error e) c) default s:=by
 have n:s.1.get? 3=some (o3 w.2):=k _ _ (dH (by kernel_rfl))
 have p:s.1.nsMap mainGlobals "law"=some (.ref 848):=(Pin.globalOf_eq j _).symm.trans (rl w.2 n);unfold PySem.callStub;simp only [Sem.wp_bind'];refine Sem.wp_mono (model pw w) G0 _ (λa t c u=>?_) (λY Y Y x=>x.elim) _ _ (wpAny_nsGet (A:=callerA) (E:=λY Y=>False) (Q:=λa c=>a=some (.ref 848)/\c=s) (Heap.Ns.of_isNs j) ⟨p,rfl⟩ G0 default caller_in);obtain ⟨rfl,rfl⟩:=u;rw [Sem.wp_bind',Sem.wp_cmd_call];refine wpCode_mono (R:=λr c=>r= .ok (.ret (.bool true))/\R (.ok (.ret (.bool true))) c) (λr v q=>?_) (gU (Aw (A:=callerA) k f d g l m rfl (by decide+kernel) (by decide+kernel) λc i y z B C D=>⟨rfl,h c i y z B C D⟩) G0 t caller_in rfl)
 obtain ⟨rfl,q⟩:=q;exact q
section
theorem jq {f:WRecords} {g:Str->Option Addr} {P:Params} {d:List DictEntry->List DictEntry}:∀(e:List WData) (s:Shared) (r:List Value×Shared),(∀x∈e,∃i,x= .int i)->layAllW f g P d e s=some r->
  (∀v∈r.1,∃z t,v=Value.int z t)/\r.1.length=e.length/\r.2.1=s.1
 |[],s,r,_,h=>by
  cases (show some ([],s)=some r from (show layAllW f g P d [] s=some ([],s) by kernel_rfl).symm.trans h)
  exact ⟨λv hv=>(nomatch hv),rfl,rfl⟩
 |x::e,s,r,j,h=>by
  obtain ⟨i,rfl⟩:=j x (List.mem_cons.mpr (.inl rfl));have h:=(show layAllW f g P d (.int i::e) s=(layAllW f g P d e {s with toks:=s.toks+1}).map λr=>(.int i s.toks::r.1,r.2) by kernel_rfl).symm.trans h
  obtain ⟨k,q,rfl⟩:=Option.map_eq_some_iff.mp h;obtain ⟨a,b,c⟩:=jq e _ k (λy l=>j y (List.mem_cons.mpr (.inr l))) q;refine ⟨λv hv=>?_,congrArg (· +1) b,c⟩;rcases List.mem_cons.mp hv with rfl|hv
  ·exact ⟨_,_,rfl⟩
  ·exact a v hv
set_option tactic.hygienic true in
theorem Ax {a:WRecords} {x:WData} (h:WShape.has a x .int=true):∃i,x= .int i:=by
 cases x
 case int i=>exact ⟨i,rfl⟩
 all_goals cases (show false=true from (show _=false by kernel_rfl).symm.trans h)
theorem rm {a:WRecords}:∀(c:List WData),WShape.hasItems a c .int=true->∀x∈c,∃i,x= .int i
 |y::b,h,x,hx=>by
  have h:=Bool.and_eq_true_iff.mp ((show (WShape.has a y .int&&WShape.hasItems a b .int)=WShape.hasItems a (y::b) .int by kernel_rfl).trans h)
  rcases List.mem_cons.mp hx with rfl|hx
  ·exact Ax h.1
  ·exact rm b h.2 x hx
set_option tactic.hygienic true in
theorem yJ {b:WRecords} {d:WData} (h:WShape.has b d (.list .int)=true):∃a,d= .list a/\∀x∈a,∃i,x= .int i:=by
 cases d
 case list a=>exact ⟨a,rfl,rm a ((Bool.or_false _).symm.trans ((show (WShape.hasItems b a .int||false)=WShape.has b (.list a) (.list .int) by kernel_rfl).trans h))⟩
 all_goals cases (show false=true from (show _=false by kernel_rfl).symm.trans h)
noncomputable abbrev Ay:OpenRow:=PySem.Challenge.rw_om0152_01.row
abbrev EL:ClaimW:=Ay.toRowW.claim
theorem Az {a:List WData} (h:EL.pre a=true):∃b,a=[.list b]/\(∀x∈b,∃i,x= .int i)/\b.length<=63:=by
 obtain ⟨f,c⟩:=pre_splitW (r:=Ay.toRowW) h;obtain ⟨d,r,rfl,g,j⟩:=hasAllW_cons (es:=[]) f;obtain rfl:=hasAllW_nil j;obtain ⟨b,rfl,k⟩:=yJ g;have c:WTm.holds [] (.and (.not (.lt (.lit (.int 63)) (.len (.arg 0)))) (.lit (.bool true))) {args:=[.list b]}=true:=c;exact ⟨b,rfl,k,Nat.le_of_not_lt λl=>by
  have e:(63:Int)<(b.length:Int):=Int.ofNat_lt.mpr l;simp [WTm.holds,WTm.value,PySem.W.less?,PySem.W.Num.less?,e] at c⟩
theorem uN (b:Nat):∃d a,(dk 0).data= .fields d/\dk b={dk 0 with data:=.fields (d++a)}:=by
 refine ⟨#[],(match MF b with
  |none=>#[]
  |some c=>#[.int 30 0,.int 49 0,.ref c]),rfl,?_⟩
 rw [Array.empty_append];delta dk BR;rfl
theorem AA {P:Params} {h:Heap} (e:h.get? 82=some (KQ P)):isCodeTable h 78:=⟨82,KQ P,_,e,rfl,rfl,by kernel_rfl⟩
theorem AB {g:WRecords} {j:Str->Option Addr} {P:Params} {e:List DictEntry->List DictEntry} {d:List WData} {s:Shared} {r:List Value×Shared} (k:∀x∈d,∃i,x= .int i) (h:layAllW g j P e [.list d] s=some r):
  ∃l:P5,r.1=[.ref s.1.1.size]/\r.2.1=s.1.push (aa l 0)/\(∀v∈l,∃z t,v=Value.int z t)/\l.length=d.length:=by
 have h:=(show layAllW g j P e [.list d] s=((layAllW g j P e d s).map λr=>(.ref r.2.1.1.size,{r.2 with heap:=r.2.1.push (bA r.1.toArray 0)})).map λa=>([a.1],a.2) by kernel_rfl).symm.trans h
 obtain ⟨_,q,rfl⟩:=Option.map_eq_some_iff.mp h;obtain ⟨f,m,rfl⟩:=Option.map_eq_some_iff.mp q;have a:=(jq d s f k m).1;have b:=(jq d s f k m).2.1;have c:=(jq d s f k m).2.2;refine ⟨f.1.reverse,congrArg (λh:Heap=>[Value.ref h.1.size]) c,?_,λv n=>a v (List.mem_reverse.mp n),List.length_reverse.trans b⟩;show f.2.1.push _=s.1.push (bA f.1.reverse.reverse.toArray 0);rw [List.reverse_reverse,c]
theorem yK {w:World} {s:Shared} {E:Addr->Prop} {G:Prop} {q:Heap->Prop} (hk:∀h,q h) (hz:s.asleep) (f:s.gens= #[]) (hg:s.1.isNs mainGlobals=true) (A:s.1.1.size=849) (hB:cK (top w.2) s.1) (Pm:s.1.get? 78=some (dk 0)):
  EL.CallFrom (PySem.callStub "law") w E G q s:=by
 intro Pz t H I u;obtain ⟨Y,rfl,hx,hl⟩:=Az t;obtain ⟨⟨Pn,j⟩,C⟩:=Option.isSome_iff_exists.mp (layAllW_isSome (R:=EL.records) (cl:=classAt s.1) (P:=w.2) (ord:=I) (λc hc=>(nomatch hc)) [.list Y] Ay.args s (pre_splitW (r:=Ay.toRowW) t).1);obtain ⟨l,e0,eh,i1,i2⟩:=AB hx C;cases (e0.trans (congrArg (λn:Nat=>[Value.ref n]) A):Pn=_);have d:=layAllW_keeps _ _ _ C;have m:=layAllW_rest _ _ _ C;obtain ⟨as,Po,Pp,J⟩:=reads_layAllW u _ _ _ C H j.1 (λ_ _ e=>e);have L:Laid EL.records w s j [.list Y] [.ref 849] as:=⟨⟨I,u,C⟩,Po,Pp,J,d,m.1.trans f,m.2.2.1⟩;have N:j.1.get? 849=some (aa l 0):=by
  have:=Heap.get?_push_size s.1 (o:=aa l 0) rfl;rw [A,<-eh] at this;exact this
 have O:=d _ _ Pm;have Pq:j.1.isNs mainGlobals=true:=by
  have h3:s.1.get? 3=some (o3 w.2):=hB _ _ (dH (by kernel_rfl))
  have:j.1.get? mainGlobals=s.1.get? mainGlobals:=(d _ _ h3).trans h3.symm;unfold Heap.isNs at hg⊢;rw [this];exact hg
 have B0:cK (top w.2) j.1:=λb o e=>d _ _ (hB b o e);obtain ⟨k,r,PA,D,p,Q,T,hE,U⟩:=wp_halts_full (M:=model pw w) (R:=λr D=>EL.Ends s [.list Y] [.ref 849] j r D/\D.os=s.os) (Shared.asleep_of_life m.2.2.2 hz)
  (EK (w:=w) (s:=j) (xs:=l) (nx:=0) Pq B0 (by rw [eh,aN,A]) N O i1 (by rw [i2];exact hl) λD st k1 k2 k3 k4 k5=>by
   obtain ⟨Pt,V,Pu,Pw⟩:=uN st;have g:GoodWG EL (classAt s.1) (ExcName.means s.1) [.list Y] j (.ok (.ret (.bool true))) D:=
    ⟨.inl ⟨.bool true,.bool true,[],rfl,λPx=>rfl,.bool true,by kernel_rfl,λ_=>⟨List.nodup_nil,λa ha=>(nomatch ha)⟩⟩,⟨λb o e=>(Decidable.em (b=78)).elim (λB=>by
      subst B;cases O.symm.trans e;exact .inr (.inl ⟨AA (P:=w.2) (B0 _ _ (dH (by kernel_rfl))),rfl,Pt,V,Pu,k2.trans (congrArg some Pw)⟩)) λB=>.inl (k1 b o e B),
     λb o e=>(Decidable.em (b=78)).elim (λB=>⟨_,B▸k2⟩) λB=>⟨o,k1 b o e B⟩⟩,k5,.of_eq (k4.trans L.gens)⟩
   have z:=g.laid (c:=EL) rfl rfl (ident_freeW (r:=Ay.toRowW) rfl rfl rfl) L;exact ⟨⟨z.1,z.2.1⟩,leftWithCleanup_false_of_bare z.2.2⟩)
 have Py:=(Shared.forget_eq T).1;have eo:=(Shared.forget_eq T).2.2.2.1;have hE:=hE.congr Py;rw [<-eo] at U;refine ⟨[.ref 849],j,C,k,_,D,p,hE.imp (Exists.imp λv h=>?_) (Exists.imp λe=>Exists.imp λob=>Exists.imp λPx h=>?_),(λ_ i x hx=>by rw [f] at hx;injection hx),hk _,congrArg Life.seen ((runN_life _ _ _ Q).trans m.2.2.2),Shared.rest_eq U⟩
 ·exact ⟨h.1▸rfl,h.2.1,h.2.2.1,h.2.2.2.1,λb o y _=>h.2.2.2.2.1 b o y,h.2.2.2.2.2⟩
 ·exact ⟨h.1▸rfl,h.2.1,h.2.2.1,h.2.2.2.1,h.2.2.2.2.1,λb o y _=>h.2.2.2.2.2 b o y⟩
end
theorem KJ (P:Params):(fR P).data= .func (mK (fR P)):=pq P
def Ng:Option (Arguments×List Stmt×Scope):=match er 42 with
 | .FunctionDef _ a b _ _ _ c _ _ _=>some (a,b,c)
 |_=>none
theorem AC:pw.theDef "law"=Ng:=by kernel_rfl
theorem AD {w:World} {s:Shared} (c:cK (top w.2) s.1):isTheDefsW pw s.1 "law":=by
 have d:s.1.get? 3=some (o3 w.2):=c _ _ (dH (by kernel_rfl))
 have a:s.1.get? 848=some (fR w.2):=c _ _ (dH (by kernel_rfl))
 refine ⟨848,fR w.2,mK (fR w.2),(mK (fR w.2)).params,(match (mK (fR w.2)).body with| .stmts b=>b|_=>[]),(mK (fR w.2)).scope,rl w.2 d,a,pq _,?_,by kernel_rfl,by kernel_rfl,rfl,by kernel_rfl,rfl,by kernel_rfl,by kernel_rfl,by kernel_rfl,.inl ⟨by kernel_rfl,by kernel_rfl⟩,[],by kernel_rfl,.inl ⟨rfl,by kernel_rfl⟩⟩
 rw [AC];kernel_rfl
theorem O2:Fast.tw11788848310118352699 pw.main=true:=by kernel_rfl
theorem O3:((Fast.tw9807087744658564304 pw.main.body).isEmpty||Fast.tw12862048085361865435 (Fast.tw9807087744658564304 pw.main.body) pw.main.body)=true:=by kernel_rfl
theorem O4:Fast.tw8377067652309620493 pw=true:=by kernel_rfl
theorem O5:(R.allR (Fast.tw18344453789297297638 pw) λn=>!Fast.tw3471404346716756564 Fast.tw14412699480532031325 n)=true:=by kernel_rfl
theorem O6:(Fast.tw17119622794617984870 pw pw.main.body λx n=>Fast.tw17868728402115742887 n)=true:=by kernel_rfl
theorem O7:Fast.tw13343964577679436407 pw pw.main.body {cps:={toList:=[118,97,114,115]} }=false:=by kernel_rfl
theorem O8:Fast.tw13343964577679436407 pw pw.main.body {cps:={toList:=[100,105,114]} }=false:=by kernel_rfl
theorem O9:Fast.tw13343964577679436407 pw pw.main.body {cps:={toList:=[108,111,99,97,108,115]} }=false:=by kernel_rfl
theorem Pa {f:Str->Bool} {a b c:Str} (h:f a=false) (d:f b=false) (e:f c=false):R.filterR f [a,b,c]=[]:=by
 have:R.filterR f [a,b,c]=[a,b,c].filter f:=by kernel_rfl
 rw [this,List.filter_cons_of_neg (by rw [h];decide),List.filter_cons_of_neg (by rw [d];decide),List.filter_cons_of_neg (by rw [e];decide)]
 rfl
theorem Pb:Fast.tw8326940854005059898 {strict:=!R.allR (Fast.tw5923862056798008813 pw.main.body) (Fast.tw3471404346716756564 Fast.tw17691160309236699985),foot:=none,bare:=[]} pw.main.body=true:=by kernel_rfl
theorem uO:Fast.tw12908688711261696721 pw=true:=by
 delta Fast.tw12908688711261696721;refine look_both (look_both (look_both (look_both (look_both O2 O3) O4) O5) ?_) O6;rw [Pa O7 O8 O9];exact Pb
theorem uP:Fast.tw2436336058641802641 Ay=true:=by
 delta Fast.tw2436336058641802641;refine look_both (look_both (look_both (look_both (look_both (look_both (look_both (look_both (look_both (look_both (look_both (look_both (look_both ?_ ?_) ?_) ?_) ?_) ?_) ?_) ?_) ?_) ?_) ?_) ?_) ?_) ?_;exact uO
 all_goals kernel_rfl
theorem yL:Fast.tw17960256430627541270 Ay=true:=by
 delta Fast.tw17960256430627541270;refine look_both (look_both uP ?_) ?_<;>kernel_rfl
theorem KL:PySem.Challenge.rw_om0152_01.wellSaid=true:=by
 rw [PySem.W.Fast.te9446332074065402090];delta Fast.tw9446332074065402090;refine look_both (look_both (look_both (look_both (look_both (look_both (look_both (look_both (look_both (look_both (look_both (look_both (look_both (look_both (look_both (look_both (look_both (look_both ?_ ?_) ?_) ?_) ?_) ?_) ?_) ?_) ?_) ?_) ?_) ?_) ?_) ?_) ?_) ?_) ?_) ?_) ?_;exact yL
 all_goals kernel_rfl
theorem E9 (b:Ay.wellSaid=true):Ay.Holds:=by
 refine ⟨b,⟨[.list []],by decide+kernel,by decide+kernel⟩,⟨⟨rfl,rfl,rfl,rfl,rfl,by decide+kernel⟩,by decide+kernel,rfl⟩,⟨[.list []],by decide+kernel,by decide+kernel⟩,λw=>⟨(qJ w).1,λs j=>?_⟩⟩
 obtain ⟨c,k,l,d,m,o,a,p,e,i,f⟩:=(qJ w).2 s j;refine ⟨c,k,l,d,m,λn r=>?_,λx g=>(nomatch g),λx g=>(nomatch g),yK (λh q=>(nomatch q)) o a p e i f⟩;obtain rfl:=List.mem_singleton.mp r;exact AD i
end Mine
end
theorem PySem.Challenge.cw_om0152_01_holds : PySem.Challenge.rw_om0152_01.Holds :=
  holds_law Mine.KL Mine.E9
