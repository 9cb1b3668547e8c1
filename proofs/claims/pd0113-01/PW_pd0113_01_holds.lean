import PyProof.Rows.All
import Wide.All
import OpenK.AllK
import Wide.FinOn
import Open.Pieces
import KE.KSortAsk
import PyProof.Walk
import PySem.Challenge.RW_pd0113_01
set_option Elab.async false
set_option maxRecDepth 100000
set_option maxHeartbeats 0
set_option linter.all false
namespace Mine
open PySem PySem.W PySem.W.X PyProof.Rows
noncomputable section
abbrev Ya:=List (Addr×Obj)
abbrev Yb:=List Value
abbrev Yc:=World
abbrev Yd:=Value
abbrev Ye:=Nat→Nat
abbrev Yf:=List Obj
abbrev Yg:=List Str
abbrev Yh:=List Nat
abbrev Yi:=List (List Str)
abbrev Kn:=Ya
inductive Ob where
 | a (x y:Nat)
 | c (x y:Code)
 | t (x y:Option (Addr×Obj))
 | s (x y:Sem Fin)
 | i (x y:Option String)
def Ob.l:Ob→Ob
 | .a x _=>.a x x
 | .c x _=>.c x x
 | .t x _=>.t x x
 | .s x _=>.s x x
 | .i x _=>.i x x
def Ob.r:Ob→Ob
 | .a _ y=>.a y y
 | .c _ y=>.c y y
 | .t _ y=>.t y y
 | .s _ y=>.s y y
 | .i _ y=>.i y y
def Ob.Ok:Ob→Prop
 | .a x y=>x=y
 | .c x y=>x=y
 | .t x y=>x=y
 | .s x y=>x=y
 | .i x y=>x=y
def lH (l:List Ob):Prop:=l.map Ob.l=l.map Ob.r
theorem Ob.ok_of:∀{o:Ob},o.l=o.r→o.Ok
 | .a _ _,h=>(Ob.a.inj h).1
 | .c _ _,h=>(Ob.c.inj h).1
 | .t _ _,h=>(Ob.t.inj h).1
 | .s _ _,h=>(Ob.s.inj h).1
 | .i _ _,h=>(Ob.i.inj h).1
theorem lH.ok {l:List Ob} (h:lH l):∀o∈l,o.Ok:=by
 unfold lH at h
 induction l with
 | nil=>intro o a;cases a
 | cons x r b=>
  simp only [List.map_cons,List.cons.injEq] at h
  intro o a
  rcases List.mem_cons.mp a with rfl | a
  ·exact Ob.ok_of h.1
  ·exact b h.2 o a
def bW {α : Type}:List α→Nat→Option α
 | [],_=>none
 | x::l,i=>match i with
  | 0=>some x
  | j+1=>bW l j
def gP:Kn→Nat→Obj→Kn
 | [],_,_=>[]
 | p::l,i,o=>match i with
  | 0=>(p.1,o)::l
  | j+1=>p::gP l j o
def i1 {α : Type}:List α→α→List α
 | [],x=>[x]
 | y::l,x=>y::i1 l x
def kN:Yd→Nat
 | .str _ t=>t
 | .int _ t=>t
 | .ref a=>a
 | .bytes _ t=>t
 | .float _ t=>t
 | _=>0
def qb (l:Yb) (i:Nat):Nat:=match bW l i with
 | some v=>kN v
 | none=>0
def tE (b:Env) (i:Nat):Nat:=match i with
 | 0=>b.locals
 | 1=>match b.frame with
  | some a=>a
  | none=>0
 | j+2=>match bW b.cells j with
  | some p=>p.2
  | none=>0
def Dd (c:Code) (i:Nat):Nat:=match c with
 | .call _ a=>qb a.pos i
 | .builtin _ a=>qb a.pos i
 | .whileLoop _ _ _ b=>tE b i
 | .forLoop _ d _ _ b=>match i with
  | 0=>kN d
  | j+1=>tE b j
 | .compStart _ _ d e b=>match i with
  | 0=>kN d
  | 1=>kN e
  | j+2=>tE b j
 | _=>0
def wR:List DictEntry→Nat→Nat
 | [],_=>0
 | e::l,i=>match i with
  | 0=>kN e.key
  | 1=>kN e.val
  | j+2=>wR l j
def De (o:Obj) (i:Nat):Nat:=match o.data with
 | .seq c n=>match i with
  | 0=>n
  | j+1=>qb c.toList j
 | .fields a=>qb a.toList i
 | .dict b n=>match i with
  | 0=>n
  | j+1=>wR b.toList j
 | .cell v=>match v with
  | some v=>kN v
  | none=>0
 | _=>0
abbrev af:=Nat→Nat→Nat
def Df (a:List (Nat→Nat)) (k i:Nat):Nat:=match bW a k with
 | some f=>f i
 | none=>0
def jO (c:Code) (T:Kn) (b:Yh) (a:List (Nat→Nat)):af:=fun j i=>match j with
 | 0=>Dd c i
 | j+1=>match bW b j with
  | none=>Df a (j-999) i
  | some p=>match bW T p with
   | none=>0
   | some q=>match i with
    | 0=>q.1
    | i+1=>De q.2 i
structure aH where
 code:af→Code
 pl:Yh:=[]
 objs:af→Ya:=fun _=>[]
 strm:Bool:=false
 dt:Nat:=0
 bad:Bool:=false
 out:af→Ye→Flow×Yf×Ya
def lI (a:Bool) (f:Flow):Result:=match a with
 | false=>.ok f
 | true=>match f with
  | .ret v=>.error v
  | f=>.ok f
abbrev Oc:=Nat×Nat×(Nat→Nat)
inductive Ko where
 | base
 | code (c:Code)
 | ret (c:Code) (k:Result→Sem Fin) (κ : Ko)
def Ko.len:Ko→Nat
 | .base=>0
 | .code _=>1
 | .ret _ _ κ => κ.len+1
structure SV where
 prog:Program
 w:Yc
 pa:Params
 pb:Params
 den:Code→Sem Fin
 kt:KT
 lo:Nat
 oS:Obj
 ef:Sem Unit
 cr:String→Sem Unit
 bd:Sem Unit→(Unit→Sem Fin)→Sem Fin
 lg:Yd→Yd→Sem Unit
 words:List String
 ids:List String
 orcs:List aH
inductive Rs where
 | ret (r:Result)
 | again (c:Code)
 | cut (c:Code) (k:Result→Sem Fin) (κ : Ko)
structure cZ where
 r:Rs
 T:Kn
 n:Nat
 tk:Nat
 ob:List Ob
abbrev jP:=Yh→List Oc→List Ye→Ko→Sem Fin→Kn→Nat→Nat→List Ob→Option cZ
def lJ (T:Kn):Yh→Ya→List Ob→List Ob
 | [],[],ob=>ob
 | i::l,x::r,ob=>lJ T l r (.t (bW T i) (some x)::ob)
 | _,_,ob=>.a 0 1::ob
def fV (T:Kn):Yh→Yf→Kn
 | [],_=>T
 | _::_,[]=>T
 | i::l,o::r=>fV (gP T i o) l r
def kO {α β : Type}:List α→List β→Bool
 | [],[]=>true
 | _::l,_::r=>kO l r
 | _,_=>false
def kP:Kn→Ya→Kn
 | [],l=>l
 | p::T,l=>p::kP T l
def lK (V:SV) (c:Code) (a:Yh) (b:List Ob) (k:Yh→List Ob→Option cZ):Option cZ:=match c with
 | .builtin id _=>match a with
  | j::a=>k a (.i (some id) (bW V.ids j)::b)
  | []=>none
 | _=>k a b
def qc (f:jP) (a:Yh) (c:List Oc) (e:List (Nat→Nat)) (r:Result) (κ : Ko) (T:Kn) (n b:Nat) (d:List Ob):Option cZ:=match κ with
 | .base=>some ⟨.ret r,T,n,b,d⟩
 | .code _=>some ⟨.ret r,T,n,b,d⟩
 | .ret _ k κ => f a c e κ (k r) T n b d
def nK (V:SV) (j:Nat) (b:Code) (a:List Oc) (d:List (Nat→Nat)) (T:Kn) (n p:Nat) (m:List Ob) (k:List Oc→List Ye→Result→Kn→Nat→Nat→List Ob→Option cZ):Option cZ:=match bW V.orcs j with
 | none=>none
 | some o=>match o.strm with
  | false=>match o.out (jO b T o.pl d) (fun i=>p+i) with
   | ⟨f,g,e⟩=>match e with
    | []=>match kO o.pl g with
     | true=>k a d (lI o.bad f) (fV T o.pl g) n (p+o.dt) (lJ T o.pl (o.objs (jO b T o.pl d)) (.c b (o.code (jO b T o.pl d))::m))
     | false=>none
    | _::_=>none
  | true=>match a with
   | []=>none
   | ⟨s,h,q⟩::a=>match o.out (jO b T o.pl d) q with
    | ⟨f,g,e⟩=>match kO o.pl g with
     | true=>k a (i1 d q) (lI o.bad f) (kP (fV T o.pl g) e) s h (lJ T o.pl (o.objs (jO b T o.pl d)) (.c b (o.code (jO b T o.pl d))::m))
     | false=>none
def qd:Nat→String
 | 0=>"zip"
 | _+1=>"enumerate"
noncomputable def aW (e:Nat) (x:Yd) (rest:Yb):Obj:={cls:=.type (qd e),dict:=none,data:=.fields (x::rest).toArray,slots:=#[]}
def restOf (o:Obj):Yb:=match o.data with
 | .fields a=>match a.toList with
  | []=>[]
  | _::r=>r
 | _=>[]
def nL (V:SV) (h:jP) (t:Sem Fin) (a:Addr) (k:Obj→Sem Fin):jP:=fun b d m κ _ T n j i=>match b with
 | f::jt::e::b=>match bW T f with
  | some c=>match bW T jt with
   | some g=>h b d m κ (k V.oS) (gP T f (aW e .none (restOf c.2))) n j (.s t (V.bd (V.lg (.ref a) (.ref g.1)) fun _=>k V.oS) :: .t (some c) (some (a,aW e (rawInt g.1) (restOf c.2)))::i)
   | none=>none
  | none=>none
 | _=>none
def cl (V:SV) (i:jP):jP:=fun b c h κ t T n g d=>match t with
 | .pure w=>match w with
  | .done f=>qc i b c h (.ok f) κ T n g d
  | .again m=>match b with
   | []=>none
   | op::b=>match κ with
    | .base=>none
    | .code _=>match op with
     | 0=>lK V m b d fun b d=>i b c h (.code m) (V.den m) T n g d
     | 1=>lK V m b d fun _ d=>some ⟨.again m,T,n,g,d⟩
     | _=>none
    | .ret _ k κ => match op with
     | 0=>lK V m b d fun b d=>i b c h (.ret m k κ) (V.den m) T n g d
     | _=>none
 | .raise e=>qc i b c h (.error e) κ T n g d
 | .rule _ k=>i b c h κ (k ()) T n g d
 | .at _ k=>i b c h κ (k ()) T n g d
 | .point _ k=>i b c h κ (k ()) T n g d
 | .ask k=>i b c h κ (k ⟨V.prog,V.pa⟩) T n g (.s (k ⟨V.prog,V.pb⟩) (k ⟨V.prog,V.pa⟩)::d)
 | .load a _ k=>match b with
  | []=>none
  | op::b=>match op with
   | 0=>match V.kt.get a with
    | some o=>i b c h κ (k o) T n g d
    | none=>none
   | j+1=>match bW T j with
    | some p=>i b c h κ (k p.2) T n g (.a a p.1::d)
    | none=>nL V i t a k b c h κ t T n g d
 | .loadIfAlive a k=>match b with
  | []=>none
  | op::b=>match op with
   | 0=>match V.kt.get a with
    | some o=>i b c h κ (k (some o)) T n g d
    | none=>none
   | j+1=>match bW T j with
    | some p=>i b c h κ (k (some p.2)) T n g (.a a p.1::d)
    | none=>none
 | .alloc o k=>match o.isFreed with
  | true=>none
  | false=>i b c h κ (k n) (i1 T (n,o)) (n+1) g d
 | .update a _ f k=>match b with
  | []=>none
  | j::b=>match bW T j with
   | some p=>match (f p.2).isFreed with
    | true=>none
    | false=>i b c h κ (k ()) (gP T j (f p.2)) n g (.a a p.1::d)
   | none=>none
 | .fresh k=>i b c h κ (k g) T n (g+1) d
 | .handled u k=>match u with
  | false=>i b c h κ (k none) T n g d
  | true=>none
 | .stack k=>match b with
  | []=>none
  | op::b=>match op with
   | 0=>match k [] with
    | .load _ _ x=>i b c h κ (x V.oS) T n g (.s (.stack k) (V.bd V.ef fun _=>x V.oS)::d)
    | _=>none
   | j+1=>match bW V.words j with
    | some q=>i b c h κ (k []) T n g (.s (.stack k) (V.bd (V.cr q) fun _=>k [])::d)
    | none=>none
 | .call m y _ _ k=>match y with
  | some _=>none
  | none=>match b with
   | []=>none
   | op::b=>match op with
    | 0=>match Nat.ble 44 κ.len with
     | true=>none
     | false=>lK V m b d fun b d=>i b c h (.ret m k κ) (V.den m) T n g d
    | 1=>some ⟨.cut m k κ,T,n,g,d⟩
    | j+2=>nK V j m c h T n g d fun c h r T n g d=>i b c h κ (k r) T n g d
 | _=>none
def d6 (V:SV):Nat→jP
 | 0=>fun _ _ _ _ _ _ _ _ _=>none
 | n+1=>cl V (d6 V n)
structure fW (c:Code):Prop where
 weight:c.weight≤1
 units:c.cUnits≤4
 quiet:c.quiet=true
def nM (id:String):Prop:=∀a,fW (.builtin id a)
theorem wS {id:String} (h:plainId id=true):nM id:=fun a=>
 ⟨by rw [plainId_weight h];exact Nat.zero_le _,by rw [plainId_units h];decide,plainId_quiet h a⟩
theorem Dg:nM "type.__call__" := fun a=>by
 have b:(Code.builtin "type.__call__" a).frames=0:=rfl
 have c:(Code.builtin "type.__call__" a).isGuard=false:=by
  show guardIds.contains "type.__call__" = false
  decide +kernel
 have d:(Code.builtin "type.__call__" a).isCaller=false:=rfl
 refine ⟨?_,?_,Code.quiet_builtin _ (by decide +kernel)⟩
 ·unfold Code.weight
  rw [b,c,d]
  cases (Code.builtin "type.__call__" a).isCreation <;> decide
 ·show 1+3*(Code.builtin "type.__call__" a).frames≤4
  rw [b];decide
theorem Dh {c:Code} (e:c.weight=c.frames) (d:c.cUnits=3*c.frames) (b:c.frames=if c.isFrame then 1 else 0) (a:c.quiet=true):fW c:=by
 have:c.frames≤1:=by rw [b];split <;> decide
 exact ⟨by lia,by lia,a⟩
theorem gQ {c:Code} (h:∀id a,c≠.builtin id a):fW c:=by
 cases c with
 | builtin id a=>exact absurd rfl (h id a)
 | call f a=>exact ⟨by show (0+0+0+0:Nat)≤1;decide,by show (1:Nat)≤4;decide,rfl⟩
 | _=>exact Dh (by simp [Code.weight,Code.isCreation,Code.isGuard,Code.isCaller]) rfl rfl rfl
structure Cx where
 h₀ : Heap
 M₀ : List Addr
 A₀ : Around
 R₀ : Result→Shared→Prop
 g:Array GenState
 d:Drawn
 os:OsState
section
variable (V:SV) (X:Cx)
abbrev SV.M (V:SV):Model:=model V.prog V.w
def AK:Ko→Around
 | .base=>X.A₀
 | .code c=>X.A₀.under c
 | .ret c _ κ => (AK κ).under c
def QK (κ : Ko) (E:Result→Shared→Prop) (b:Fin) (s:Shared):Prop:=match b with
 | .done f=>E (.ok f) s
 | .again a=>match κ with
  | .base=>False
  | .code _=>a.quiet=true∧codeAny V.M X.A₀ a E s
  | .ret _ _ c=>a.quiet=true∧codeAny V.M (AK X c) a E s
def En:Ko→Result→Shared→Prop
 | .base=>X.R₀
 | .code _=>X.R₀
 | .ret _ k κ => fun r s=>wpAny V.M (AK X κ) (k r) (QK V X κ (En κ)) (fun e s=>En κ (.error e) s) s
def Mn (κ : Ko) (t:Sem Fin) (s:Shared):Prop:=wpAny V.M (AK X κ) t (QK V X κ (En V X κ)) (fun e s=>En V X κ (.error e) s) s
structure dp (h:Heap) (T:Kn) (n:Nat):Prop where
 size:h.objs.size=n
 own:∀p∈T,h.get? p.1=some p.2
 hi:∀p∈T,V.lo≤p.1
 nd:(T.map (·.1)).Nodup
 old:∀b o,V.kt.get b=some o→h.get? b=some o
 keep:∀b o,X.h₀.get? b=some o→b∉X.M₀→h.get? b=some o
 new:∀p∈T,p.1∈X.M₀∨X.h₀.objs.size≤p.1
 grow:X.h₀.objs.size≤n
def tF (A:Around):Prop:=A.handled=none∧A.depth≤X.A₀.depth+46∧A.units≤X.A₀.units+250
def aH.Ok (o:aH):Prop:=∀(a:af) (A:Around),tF X A→∀(h:Heap) (f:Nat) (g:Bool) (l:Yb) (k:Result→Sem Fin) (Q:Fin→Shared→Prop) (E:Yd→Shared→Prop),
 ((o.objs a).map (·.1)).Nodup→(∀x∈o.objs a,h.get? x.1=some x.2∧V.lo≤x.1)→(∀b ob,V.kt.get b=some ob→h.get? b=some ob)→V.lo≤h.objs.size→
 (∀b ob,X.h₀.get? b=some ob→b∉X.M₀→h.get? b=some ob)→(∀x∈o.objs a,x.1∈X.M₀∨X.h₀.objs.size≤x.1)→
 (∀(c:Heap) (e:Nat) (d:Ye),(o.strm=false→c.objs.size=h.objs.size∧e=f+o.dt∧d=fun i=>f+i)→h.objs.size≤c.objs.size→
  (∀b ob,h.get? b=some ob→b∉(o.objs a).map (·.1)→c.get? b=some ob)→
  (∀x∈((o.objs a).map (·.1)).zip (o.out a d).2.1,c.get? x.1=some x.2)→
  (∀p∈(o.out a d).2.2,c.get? p.1=some p.2∧h.objs.size≤p.1)→((o.out a d).2.2.map (·.1)).Nodup→
  wpAny V.M A (k (lI o.bad (o.out a d).1)) Q E ⟨c,X.g,X.d,e,X.os⟩)→
 wpAny V.M A (.call (o.code a) none g l k) Q E ⟨h,X.g,X.d,f,X.os⟩
structure gf:Prop where
 den:V.den=denote table
 pab:V.w.params=V.pa∨V.w.params=V.pb
 ef:V.ef=enterFrame
 cr:V.cr=cRoom
 bd:V.bd=fun a b=>a.bind b
 lg:V.lg=letOwnedTupleGo (.Tuple [] 0 ⟨0,0,0,0⟩)
 kt:∀b o,V.kt.get b=some o→b<V.lo
 stat:V.kt.get cStatics=some V.oS
 lim:∀h:Heap,h.get? cStatics=some V.oS→h.NoLimit
 ids:∀id∈V.ids,nM id
 hd:X.A₀.handled=none
 depth:X.A₀.depth+70<recursionLimit
 units:X.A₀.units+300<cLine
 low:V.lo≤X.h₀.objs.size
 orcs:∀o∈V.orcs,o.pl.Nodup∧o.Ok V X
def nN:Ko→Prop
 | .base=>True
 | .code c=>fW c
 | .ret c _ κ => fW c∧nN κ
def fr (x:Option cZ):Prop:=∃o,x=some o∧lH o.ob∧∀h,dp V X h o.T o.n→match o.r with
 | .ret r=>X.R₀ r ⟨h,X.g,X.d,o.tk,X.os⟩
 | .again a=>codeAny V.M X.A₀ a X.R₀ ⟨h,X.g,X.d,o.tk,X.os⟩
 | .cut a k κ => nN κ→κ.len≤45→∀g l,Mn V X κ (.call a none g l k) ⟨h,X.g,X.d,o.tk,X.os⟩
end
theorem dj {α : Type}:∀{l:List α} {i:Nat} {x : α},bW l i=some x→x∈l
 | [],_,_,h=>by cases h
 | y::l,0,x,h=>by cases h;exact .head _
 | y::l,i+1,x,h=>.tail _ (dj (l:=l) h)
theorem qf {α : Type} {x y : α}:∀{l:List α},y∈i1 l x→y∈l∨y=x
 | [],h=>by rcases List.mem_cons.mp h with rfl | h;exact .inr rfl;cases h
 | z::l,h=>by
  rcases List.mem_cons.mp h with rfl | h
  ·exact .inl (.head _)
  ·exact (qf h).imp (.tail _) id
theorem wT {α : Type} (x : α):∀l:List α,i1 l x=l++[x]
 | []=>rfl
 | y::l=>by show y::i1 l x=y::(l++[x]);rw [wT x l]
theorem qg (o:Obj):∀(T:Kn) (i:Nat),(gP T i o).map (·.1)=T.map (·.1)
 | [],_=>rfl
 | p::T,0=>rfl
 | p::T,i+1=>by show p.1::(gP T i o).map _=p.1::_;rw [qg o T i]
theorem nO {o:Obj} {q p:Addr×Obj}:∀{T:Kn} {i:Nat},(T.map (·.1)).Nodup→bW T i=some p→q∈gP T i o→q=(p.1,o)∨(q∈T∧q.1≠p.1)
 | [],_,_,h,_=>by cases h
 | x::T,0,nd,h,m=>by
  cases h
  rcases List.mem_cons.mp m with rfl | m
  ·exact .inl rfl
  ·refine .inr ⟨.tail _ m,fun e => ?_⟩
   rw [List.map_cons,List.nodup_cons] at nd
   exact nd.1 (by rw [←e];exact List.mem_map_of_mem m)
 | x::T,i+1,nd,h,m=>by
  rw [List.map_cons,List.nodup_cons] at nd
  rcases List.mem_cons.mp m with rfl | m
  ·refine .inr ⟨.head _,fun e => ?_⟩
   exact nd.1 (by rw [e];exact List.mem_map_of_mem (dj (l:=T) h))
  ·rcases nO nd.2 (show bW T i=some p from h) m with e | ⟨a,b⟩
   ·exact .inl e
   ·exact .inr ⟨.tail _ a,b⟩
section
variable {V:SV} {X:Cx} {h:Heap} {T:Kn} {n:Nat}
theorem dp.alloc (O:V.lo≤X.h₀.objs.size) (D:dp V X h T n) {o:Obj} (i:o.isFreed=false):dp V X (h.push o) (i1 T (n,o)) (n+1):=by
 have g:∀p∈T,p.1<n:=fun p c=>D.size▸Heap.lt_size (D.own p c)
 refine ⟨by rw [Heap.size_push,D.size],fun p c => ?_,fun p c => ?_,?_,fun b d e=>Heap.get?_push_of_some _ (D.old b d e),fun b d e m=>Heap.get?_push_of_some _ (D.keep b d e m),fun p c => ?_,Nat.le_succ_of_le D.grow⟩
 ·rcases qf c with c | rfl
  ·exact Heap.get?_push_of_some _ (D.own p c)
  ·show (h.push o).get? n=some o
   rw [←D.size];exact Heap.get?_push_size _ i
 ·rcases qf c with c | rfl
  ·exact D.hi p c
  ·exact Nat.le_trans O D.grow
 ·rw [wT,List.map_append]
  refine List.nodup_append.mpr ⟨D.nd,by simp,fun a j b f => ?_⟩
  obtain ⟨p,c,rfl⟩:=List.mem_map.mp j
  simp only [List.map_cons,List.map_nil,List.mem_singleton] at f
  subst f
  exact Nat.ne_of_lt (g p c)
 ·rcases qf c with c | rfl
  ·exact D.new p c
  ·exact .inr D.grow
theorem dp.update (G:∀b o,V.kt.get b=some o→b<V.lo) (D:dp V X h T n) {j:Nat} {p:Addr×Obj} {f:Obj→Obj} (e:bW T j=some p) (k:(f p.2).isFreed=false):dp V X (h.update p.1 f) (gP T j (f p.2)) n:=by
 have c:=dj e
 have t:=D.own p c
 have g:Heap.SameBut p.1 h (h.update p.1 f):=Heap.SameBut.update ..
 refine ⟨by rw [g.1,D.size],fun q a => ?_,fun q a => ?_,by rw [qg];exact D.nd,fun b i d => ?_,fun b i d m => ?_,fun q a => ?_,D.grow⟩
 ·rcases nO D.nd e a with rfl | ⟨a,s⟩
  ·exact Heap.get?_update_self _ t k
  ·exact (g.2 _ s).trans (D.own q a)
 ·rcases nO D.nd e a with rfl | ⟨a,_⟩
  ·exact D.hi p c
  ·exact D.hi q a
 ·have:b≠p.1:=fun z=>absurd (G b i d) (by rw [z];exact Nat.not_lt.mpr (D.hi p c))
  exact (g.2 _ this).trans (D.old b i d)
 ·have:b≠p.1:=by
   rintro rfl
   rcases D.new p c with q | q
   ·exact m q
   ·exact absurd (Heap.lt_size d) (Nat.not_lt.mpr q)
  exact (g.2 _ this).trans (D.keep b i d m)
 ·rcases nO D.nd e a with rfl | ⟨a,_⟩
  ·exact D.new p c
  ·exact D.new q a
theorem wU {o o':Obj} {a:Addr}:∀{T:Kn} {i j:Nat},bW T j=some (a,o)→∃b,bW (gP T i o') j=some (a,b)
 | [],_,_,h=>by cases h
 | p::T,0,0,h=>by cases h;exact ⟨_,rfl⟩
 | p::T,0,j+1,h=>⟨o,h⟩
 | p::T,i+1,0,h=>⟨o,h⟩
 | p::T,i+1,j+1,h=>wU (T:=T) (i:=i) (j:=j) h
inductive At (T:Kn):Yh→List Addr→Prop where
 | nil:At T [] []
 | cons {i:Nat} {a:Addr} {o:Obj} {l:Yh} {r:List Addr}:bW T i=some (a,o)→At T l r→At T (i::l) (a::r)
theorem At.put {T:Kn} {l:Yh} {r:List Addr} (h:At T l r) (i:Nat) (o:Obj):At (gP T i o) l r:=by
 induction h with
 | nil=>exact .nil
 | cons e _ c=>obtain ⟨a,b⟩:=wU (i:=i) (o':=o) e;exact .cons b c
theorem At.mem {T:Kn} {l:Yh} {r:List Addr} (h:At T l r):∀a∈r,∃p∈T,p.1=a:=by
 induction h with
 | nil=>intro a b;cases b
 | cons e _ c=>
  intro a b
  rcases List.mem_cons.mp b with rfl | b
  ·exact ⟨_,dj e,rfl⟩
  ·exact c a b
theorem tG:∀{T:Kn} {i j:Nat} {p q:Addr×Obj},(T.map (·.1)).Nodup→bW T i=some p→bW T j=some q→p.1=q.1→i=j
 | [],_,_,_,_,_,h,_,_=>by cases h
 | x::T,0,0,_,_,_,_,_,_=>rfl
 | x::T,0,j+1,p,q,nd,hp,hq,e=>by
  cases hp
  rw [List.map_cons,List.nodup_cons] at nd
  exact absurd (by rw [e];exact List.mem_map_of_mem (dj (l:=T) hq)) nd.1
 | x::T,i+1,0,p,q,nd,hp,hq,e=>by
  cases hq
  rw [List.map_cons,List.nodup_cons] at nd
  exact absurd (by rw [←e];exact List.mem_map_of_mem (dj (l:=T) hp)) nd.1
 | x::T,i+1,j+1,p,q,nd,hp,hq,e=>by
  rw [List.map_cons,List.nodup_cons] at nd
  rw [tG (T:=T) nd.2 hp hq e]
theorem At.place {T:Kn} {l:Yh} {r:List Addr} (h:At T l r):∀a∈r,∃i∈l,∃o,bW T i=some (a,o):=by
 induction h with
 | nil=>intro a b;cases b
 | cons e _ d=>
  intro a b
  rcases List.mem_cons.mp b with rfl | b
  ·exact ⟨_,.head _,_,e⟩
  ·obtain ⟨i,c,o,q⟩:=d a b
   exact ⟨i,.tail _ c,o,q⟩
theorem At.nodup {T:Kn} {l:Yh} {r:List Addr} (nd:(T.map (·.1)).Nodup) (h:At T l r):l.Nodup→r.Nodup:=by
 induction h with
 | nil=>intro _;exact List.nodup_nil
 | cons e h d=>
  intro a
  rw [List.nodup_cons] at a ⊢
  refine ⟨fun b => ?_,d a.2⟩
  obtain ⟨i,c,o,q⟩:=h.place _ b
  exact a.1 (tG nd e q rfl▸c)
theorem tH:∀(a:Yh) (b:Yf) (T:Kn),(fV T a b).map (·.1)=T.map (·.1)
 | [],_,_=>by simp [fV]
 | _::_,[],_=>rfl
 | i::l,o::r,T=>by show (fV (gP T i o) l r).map _=_;rw [tH l r,qg]
theorem wV {q:Addr×Obj}:∀{d:Yh} {r:List Addr} {b:Yf} {T:Kn},(T.map (·.1)).Nodup→At T d r→d.length=b.length→q∈fV T d b→(q∈r.zip b)∨(q∈T∧q.1∉r)
 | [],_,b,T,_,h,_,c=>by
  cases h
  refine .inr ⟨?_,by simp⟩
  simpa [fV] using c
 | i::l,_,[],T,_,h,hl,c=>by simp at hl
 | i::l,_,o::b,T,nd,h,hl,c=>by
  cases h with
  | cons e h=>
   rename_i a j r
   rcases wV (by rw [qg];exact nd) (h.put i o) (by simpa using hl) c with w | ⟨w,f⟩
   ·exact .inl (.tail _ w)
   ·rcases nO nd e w with rfl | ⟨w,g⟩
    ·exact .inl (.head _)
    ·refine .inr ⟨w,fun m => ?_⟩
     rcases List.mem_cons.mp m with m | m
     ·exact g m
     ·exact f m
theorem tI (l:Ya):∀(T:Kn),kP T l=T++l
 | []=>rfl
 | p::T=>by show p::kP T l=p::(T++l);rw [tI l T]
theorem dp.change (G:∀b o,V.kt.get b=some o→b<V.lo) (O:V.lo≤X.h₀.objs.size) (D:dp V X h T n) {k:Heap} {y:Nat} {j:Yh} {r:List Addr} {g:Yf} {f:Ya} (i:At T j r) (F:j.length=g.length)
  (B:k.objs.size=y) (le:n≤y) (z:∀b A,h.get? b=some A→b∉r→k.get? b=some A) (d:∀x∈r.zip g,k.get? x.1=some x.2)
  (u:∀p∈f,k.get? p.1=some p.2∧n≤p.1) (nd:(f.map (·.1)).Nodup):dp V X k (kP (fV T j g) f) y:=by
 have H:∀p∈T,p.1<n:=fun p d=>D.size▸Heap.lt_size (D.own p d)
 have w:∀q∈fV T j g,(q∈r.zip g)∨(q∈T∧q.1∉r):=fun q c=>wV D.nd i F c
 have s:∀q∈fV T j g,∃p∈T,p.1=q.1:=fun q c=>by
  have:q.1∈(fV T j g).map (·.1):=List.mem_map_of_mem c
  rw [tH] at this
  obtain ⟨p,d,e⟩:=List.mem_map.mp this
  exact ⟨p,d,e⟩
 rw [tI]
 refine ⟨B,fun q c => ?_,fun q c => ?_,?_,fun b o e => ?_,fun b o e m => ?_,fun q c => ?_,Nat.le_trans D.grow le⟩
 ·rcases List.mem_append.mp c with c | c
  ·rcases w q c with hx | ⟨c,J⟩
   ·exact d q hx
   ·exact z _ _ (D.own q c) J
  ·exact (u q c).1
 ·rcases List.mem_append.mp c with c | c
  ·obtain ⟨p,d,e⟩:=s q c
   rw [←e];exact D.hi p d
  ·exact Nat.le_trans (Nat.le_trans O D.grow) (u q c).2
 ·rw [List.map_append,tH]
  refine List.nodup_append.mpr ⟨D.nd,nd,fun a C b I => ?_⟩
  obtain ⟨p,d,rfl⟩:=List.mem_map.mp C
  obtain ⟨q,c,rfl⟩:=List.mem_map.mp I
  exact Nat.ne_of_lt (Nat.lt_of_lt_of_le (H p d) (u q c).2)
 ·refine z b o (D.old b o e) fun m => ?_
  obtain ⟨p,d,t⟩:=i.mem _ m
  exact absurd (G _ o e) (by rw [←t];exact Nat.not_lt.mpr (D.hi p d))
 ·refine z b o (D.keep b o e m) fun E => ?_
  obtain ⟨p,d,t⟩:=i.mem _ E
  rcases D.new p d with q | q
  ·exact m (t▸q)
  ·exact absurd (Heap.lt_size e) (Nat.not_lt.mpr (t▸q))
 ·rcases List.mem_append.mp c with c | c
  ·obtain ⟨p,d,e⟩:=s q c
   rw [←e];exact D.new p d
  ·exact .inr (Nat.le_trans D.grow (u q c).2)
end
def bz (a:List Ob) (x:Option cZ):Prop:=∀o,x=some o→∀y∈a,y∈o.ob
theorem bz.none {a:List Ob}:bz a none:=fun _ h=>by cases h
theorem bz.tl {a:List Ob} {z:Ob} {x:Option cZ} (h:bz (z::a) x):bz a x:=fun o e y b=>h o e y (.tail _ b)
theorem bz.self {r:Rs} {T:Kn} {n b:Nat} {a:List Ob}:bz a (some ⟨r,T,n,b,a⟩):=fun o e y c=>by cases e;exact c
theorem lL {T:Kn}:∀{l:Yh} {r:Ya} {ob:List Ob} {y:Ob},y∈ob→y∈lJ T l r ob
 | [],[],_,_,h=>h
 | [],_::_,_,_,h=>.tail _ h
 | _::_,[],_,_,h=>.tail _ h
 | _::l,_::r,_,_,h=>lL (l:=l) (r:=r) (.tail _ h)
theorem tJ {T:Kn}:∀{l:Yh} {r:Ya} {ob:List Ob},(∀y∈lJ T l r ob,y.Ok)→At T l (r.map (·.1))∧∀x∈r,x∈T
 | [],[],_,_=>⟨.nil,fun _ h=>by cases h⟩
 | [],_::_,ob,h=>absurd (h _ (.head _)) (by show ¬(0:Nat)=1;decide)
 | _::_,[],ob,h=>absurd (h _ (.head _)) (by show ¬(0:Nat)=1;decide)
 | i::l,x::r,ob,h=>by
  have q:=tJ (l:=l) (r:=r) (ob:=.t (bW T i) (some x)::ob) h
  have e:bW T i=some x:=h _ (lL (l:=l) (r:=r) (ob:=.t (bW T i) (some x)::ob) (.head _))
  refine ⟨.cons (o:=x.2) e q.1,fun y a => ?_⟩
  rcases List.mem_cons.mp a with rfl | a
  ·exact dj e
  ·exact q.2 y a
theorem tK {α β : Type}:∀{l:List α} {r:List β},kO l r=true→l.length=r.length
 | [],[],_=>rfl
 | [],_::_,h=>by cases h
 | _::_,[],h=>by cases h
 | _::l,_::r,h=>by rw [List.length_cons,List.length_cons,tK (l:=l) (r:=r) h]
theorem qh {V:SV} {c:Code} {b:Yh} {d:List Ob} {k:Yh→List Ob→Option cZ} (h:∀b d,bz d (k b d)):bz d (lK V c b d k):=by
 cases c with
 | builtin id a=>
  cases b with
  | nil=>exact bz.none
  | cons j b=>exact (h b _).tl
 | _=>exact h b d
theorem Di {V:SV} {j:Nat} {p:Code} {a:List Oc} {g:List (Nat→Nat)} {T:Kn} {n c:Nat} {b:List Ob} {k:List Oc→List Ye→Result→Kn→Nat→Nat→List Ob→Option cZ} (h:∀a g f T n c b,bz b (k a g f T n c b)):bz b (nK V j p a g T n c b k):=by
 unfold nK
 split
 ·exact bz.none
 ·rename_i o _
  split
  ·split
   rename_i f q m _
   split
   ·split
    ·intro i e y d;exact h _ _ _ _ _ _ _ i e y (lL (.tail _ d))
    ·exact bz.none
   ·exact bz.none
  ·split
   ·exact bz.none
   ·split
    split
    ·intro i e y d;exact h _ _ _ _ _ _ _ i e y (lL (.tail _ d))
    ·exact bz.none
theorem Dj {V:SV} {g:jP} (h:∀b c f κ t T n e d,bz d (g b c f κ t T n e d)) {t i:Sem Fin} {a:Addr} {k:Obj→Sem Fin} {b c f κ T n e d}:bz d (nL V g t a k b c f κ i T n e d):=by
 unfold nL
 split
 ·split
  ·split
   ·exact (h _ _ _ _ _ _ _ _ _).tl.tl
   ·exact bz.none
  ·exact bz.none
 ·exact bz.none
theorem Dk (V:SV):∀h b i u κ t T n s p,bz p (d6 V h b i u κ t T n s p):=by
 intro h
 induction h with
 | zero=>intro b i u κ t T n s p;exact bz.none
 | succ h d=>
  intro b i u κ t T n s p
  show bz p (cl V (d6 V h) b i u κ t T n s p)
  have y:∀b i u r κ T n s p,bz p (qc (d6 V h) b i u r κ T n s p):=by
   intro b i u r κ T n s p
   cases κ with
   | base=>exact bz.self
   | code=>exact bz.self
   | ret=>exact d _ _ _ _ _ _ _ _ _
  cases t with
  | pure x=>
   cases x with
   | done f=>exact y _ _ _ _ _ _ _ _ _
   | again A=>
    cases b with
    | nil=>exact bz.none
    | cons m b=>
     cases κ with
     | base=>exact bz.none
     | code c=>
      rcases m with _ | _ | j
      ·exact qh fun _ _=>d _ _ _ _ _ _ _ _ _
      ·exact qh fun _ _=>bz.self
      ·exact bz.none
     | ret c k κ =>
      cases m with
      | zero=>exact qh fun _ _=>d _ _ _ _ _ _ _ _ _
      | succ=>exact bz.none
  | raise e=>exact y _ _ _ _ _ _ _ _ _
  | rule=>exact d _ _ _ _ _ _ _ _ _
  | «at» => exact d _ _ _ _ _ _ _ _ _
  | point=>exact d _ _ _ _ _ _ _ _ _
  | ask=>exact (d _ _ _ _ _ _ _ _ _).tl
  | fresh=>exact d _ _ _ _ _ _ _ _ _
  | load a q k=>
   cases b with
   | nil=>exact bz.none
   | cons m b=>
    cases m with
    | zero=>simp only [cl];split <;> first | exact d _ _ _ _ _ _ _ _ _ | exact bz.none
    | succ j=>simp only [cl];split <;> first | exact (d _ _ _ _ _ _ _ _ _).tl | exact Dj d
  | loadIfAlive a k=>
   cases b with
   | nil=>exact bz.none
   | cons m b=>
    cases m with
    | zero=>simp only [cl];split <;> first | exact d _ _ _ _ _ _ _ _ _ | exact bz.none
    | succ j=>simp only [cl];split <;> first | exact (d _ _ _ _ _ _ _ _ _).tl | exact bz.none
  | alloc o k=>simp only [cl];split <;> first | exact d _ _ _ _ _ _ _ _ _ | exact bz.none
  | update a q f k=>
   cases b with
   | nil=>exact bz.none
   | cons j b=>simp only [cl];split <;> first | (split <;> first | exact (d _ _ _ _ _ _ _ _ _).tl | exact bz.none) | exact bz.none
  | handled w k=>cases w <;> first | exact d _ _ _ _ _ _ _ _ _ | exact bz.none
  | stack k=>
   cases b with
   | nil=>exact bz.none
   | cons m b=>
    cases m with
    | zero=>simp only [cl];split <;> first | exact (d _ _ _ _ _ _ _ _ _).tl | exact bz.none
    | succ j=>simp only [cl];split <;> first | exact (d _ _ _ _ _ _ _ _ _).tl | exact bz.none
  | call A z g l k=>
   cases z with
   | some=>exact bz.none
   | none=>
    cases b with
    | nil=>exact bz.none
    | cons m b=>
     cases m with
     | zero=>simp only [cl];split <;> first | exact bz.none | exact qh fun _ _=>d _ _ _ _ _ _ _ _ _
     | succ j=>
      cases j with
      | zero=>exact bz.self
      | succ j=>
      simp only [cl]
      exact Di fun _ _ _ _ _ _ _=>d _ _ _ _ _ _ _ _ _
  | _=>exact bz.none
section
variable {V:SV} {X:Cx} {L:Nat}
theorem fr.no (h:fr V X none):False:=by obtain ⟨o,e,_⟩:=h;cases e
theorem fr.mem {x:Option cZ} {a:List Ob} (h:fr V X x) (s:bz a x) {y:Ob} (b:y∈a):y.Ok:=by
 obtain ⟨o,e,ok,_⟩:=h
 exact ok.ok y (s o e y b)
def wW (L:Nat):List Oc:=List.replicate L (0,0,id)
theorem bZ:(wW L).length=L:=List.length_replicate
theorem qi (G:gf V X) {c:Code} {d:Yh} {g:List Ob} {F:List Oc→Yh→List Ob→Option cZ} (sub:∀b d g,bz g (F b d g))
  (H:∀b,b.length=L→fr V X (lK V c d g (F b))):fW c∧∃f h,∀b,b.length=L→fr V X (F b f h):=by
 by_cases k:∃id a,c = .builtin id a
 ·obtain ⟨id,a,rfl⟩:=k
  cases d with
  | nil=>exact (H _ bZ).no.elim
  | cons j d=>
   have m:∀b,b.length=L→fr V X (F b d (.i (some id) (bW V.ids j)::g)):=H
   have e:some id=bW V.ids j:=(m _ bZ).mem (sub _ _ _) (.head _)
   exact ⟨G.ids id (dj e.symm) a,_,_,m⟩
 ·have n:∀id a,c≠.builtin id a:=fun id a e=>k ⟨id,a,e⟩
  refine ⟨gQ n,d,g,fun b o => ?_⟩
  have q:=H b o
  cases c with
  | builtin id a=>exact absurd rfl (n id a)
  | _=>exact q
theorem Dl (G:gf V X) {j:Nat} {C:Code} {T:Kn} {n z:Nat} {N:List Ob} {t:List (Nat→Nat)} {F:List Oc→List Ye→Result→Kn→Nat→Nat→List Ob→Option cZ} (sub:∀b P f T n z N,bz N (F b P f T n z N))
  (H:∀b,b.length=L→fr V X (nK V j C b t T n z N F)) {A:Around} (hA:tF X A) {h:Heap} (D:dp V X h T n) {g:Bool} {l:Yb} {k:Result→Sem Fin} {Q:Fin→Shared→Prop} {E:Yd→Shared→Prop}
  (hR:∀L' hs' f T' J d Y B,(∀b,b.length=L'→fr V X (F b hs' f T' J d Y))→dp V X B T' J→wpAny V.M A (k f) Q E ⟨B,X.g,X.d,d,X.os⟩) :
  wpAny V.M A (.call C none g l k) Q E ⟨h,X.g,X.d,z,X.os⟩:=by
 unfold nK at H
 cases ho:bW V.orcs j with
 | none=>simp only [ho] at H;exact (H _ bZ).no.elim
 | some o=>
  simp only [ho] at H
  obtain ⟨R,ok⟩:=G.orcs o (dj ho)
  have u:V.lo≤h.objs.size:=Nat.le_trans G.low (D.size▸D.grow)
  cases P:o.strm with
  | false=>
   simp only [P] at H
   generalize w:jO C T o.pl t=a at H
   cases S:o.out a (fun i=>z+i) with
   | mk f q=>
    obtain ⟨ps,U⟩:=q
    cases U with
    | cons=>simp only [S] at H;exact (H _ bZ).no.elim
    | nil=>
     cases s:kO o.pl ps with
     | false=>simp only [S,s] at H;exact (H _ bZ).no.elim
     | true=>
      simp only [S,s] at H
      have O:=(H _ bZ)
      have e:C=o.code a:=O.mem (sub _ _ _ _ _ _ _) (lL (.head _))
      have nd:=tJ (T:=T) (l:=o.pl) (r:=o.objs a) fun y Z=>O.mem (sub _ _ _ _ _ _ _) Z
      rw [e]
      refine ok a A hA h z g l k Q E (nd.1.nodup D.nd R) (fun x hx=>⟨D.own _ (nd.2 x hx),D.hi _ (nd.2 x hx)⟩) D.old u D.keep (fun x hx=>D.new _ (nd.2 x hx)) fun B d m hn le kp w I K => ?_
      obtain ⟨sz,rfl,rfl⟩:=hn P
      rw [S] at w ⊢
      have D':dp V X B (kP (fV T o.pl ps) []) n:=dp.change G.kt G.low D nd.1 (tK s) (sz.trans D.size) (Nat.le_refl _) kp w (fun p w=>by cases w) (by simp)
      rw [tI,List.append_nil] at D'
      exact hR L _ _ _ _ _ _ _ H D'
  | true=>
   simp only [P] at H
   generalize w:jO C T o.pl t=a at H
   cases L with
   | zero=>exact (H [] rfl).no.elim
   | succ L=>
    have H':∀J d m,kO o.pl (o.out a m).2.1=true∧∀b,b.length=L→fr V X (F b (i1 t m) (lI o.bad (o.out a m).1) (kP (fV T o.pl (o.out a m).2.1) (o.out a m).2.2) J d (lJ T o.pl (o.objs a) (.c C (o.code a)::N))):=by
     intro J d m
     cases s:kO o.pl (o.out a m).2.1 with
     | false=>
      have:=H ((J,d,m)::wW L) (by rw [List.length_cons,bZ])
      simp only [s] at this
      exact this.no.elim
     | true=>
      refine ⟨rfl,fun b hl => ?_⟩
      have:=H ((J,d,m)::b) (by rw [List.length_cons,hl])
      simp only [s] at this
      exact this
    have O:=((H' 0 0 id).2 _ bZ)
    have e:C=o.code a:=O.mem (sub _ _ _ _ _ _ _) (lL (.head _))
    have nd:=tJ (T:=T) (l:=o.pl) (r:=o.objs a) fun y Z=>O.mem (sub _ _ _ _ _ _ _) Z
    rw [e]
    refine ok a A hA h z g l k Q E (nd.1.nodup D.nd R) (fun x hx=>⟨D.own _ (nd.2 x hx),D.hi _ (nd.2 x hx)⟩) D.old u D.keep (fun x hx=>D.new _ (nd.2 x hx)) fun B d m _ le kp w I K => ?_
    rw [D.size] at le I
    exact hR L _ _ _ _ _ _ _ (H' B.objs.size d m).2 (dp.change G.kt G.low D nd.1 (tK (H' B.objs.size d m).1) rfl le kp w I K)
theorem tL (a:X.A₀.handled=none):∀κ : Ko,(AK X κ).handled=none
 | .base=>a
 | .code _=>a
 | .ret _ _ κ => tL a κ
theorem tM:∀κ : Ko,nN κ→(AK X κ).depth≤X.A₀.depth + κ.len∧(AK X κ).units≤X.A₀.units+4 * κ.len
 | .base,_=>⟨Nat.le_refl _,Nat.le_refl _⟩
 | .code c,h=>by
  have a:=h.weight;have b:=h.units
  show X.A₀.depth+c.weight≤X.A₀.depth+1∧X.A₀.units+c.cUnits≤X.A₀.units+4*1
  lia
 | .ret c k κ,h=>by
  have a:=h.1.weight;have b:=h.1.units
  have q:=tM κ h.2
  show (AK X κ).depth+c.weight≤X.A₀.depth+(κ.len+1)∧(AK X κ).units+c.cUnits≤X.A₀.units+4*(κ.len+1)
  lia
theorem Dm (G:gf V X) {κ : Ko} (a:nN κ) (b : κ.len≤45):tF X (AK X κ):=by
 have q:=tM (X:=X) κ a
 exact ⟨tL G.hd κ,by lia,by lia⟩
end
section
variable {V:SV} {X:Cx}
abbrev St (X:Cx) (h:Heap) (a:Nat):Shared:=⟨h,X.g,X.d,a,X.os⟩
theorem Do (G:gf V X) {c a:Code} {s:Shared} (t:fW a) (h:Mn V X (.code a) (denote table a) s):QK V X (.code c) (En V X (.code c)) (.again a) s:=
 ⟨t.quiet,codeAny_of_tree (wpAny_mono h (fun b d q=>by cases b <;> exact q) fun _ _ q=>q)⟩
theorem Dp (G:gf V X) {c a:Code} {k:Result→Sem Fin} {κ : Ko} {s:Shared} (t:fW a) (h:Mn V X (.ret a k κ) (denote table a) s):QK V X (.ret c k κ) (En V X (.ret c k κ)) (.again a) s:=
 ⟨t.quiet,codeAny_of_tree (wpAny_mono h (fun b d q=>by cases b <;> exact q) fun _ _ q=>q)⟩
theorem Dq (G:gf V X) {b:Code} {g:Bool} {l:Yb} {k:Result→Sem Fin} {κ : Ko} {s:Shared} (h:Mn V X (.ret b k κ) (denote table b) s):Mn V X κ (.call b none g l k) s:=by
 refine x_call (hd:=none) ?_ (by intro e;cases e)
 exact codeAny_of_tree (A:=AK X κ) (wpAny_mono h (fun a c q=>by cases a <;> exact q) fun _ _ q=>q)
theorem wpAny_letGo {M:Model} {A:Around} {Q:Unit→Shared→Prop} {E:Yd→Shared→Prop} {s:Shared} {a b:Addr} {e:Nat} {c:Yb} (d:s.heap.get? a=some (aW e (rawInt b) c))
  (g:Q () {s with heap:=s.heap.update a (Obj.mapFields (·.setIfInBounds 0 .none))}):wpAny M A (letOwnedTupleGo (.Tuple [] 0 ⟨0,0,0,0⟩) (.ref a) (.ref b)) Q E s:=by
 unfold letOwnedTupleGo
 refine wpAny_bind (wpAny_load d ?_)
 have h:(["enumerate","zip","dict_itemiterator","dict_reverseitemiterator","odict_iterator","itertools.zip_longest","itertools.pairwise"].contains (qd e)&&((rawInt b::c).toArray)[0]? == some (rawInt b))=true:=by
  cases e <;> simp [qd]
 show wpAny M A (if (["enumerate","zip","dict_itemiterator","dict_reverseitemiterator","odict_iterator","itertools.zip_longest","itertools.pairwise"].contains (qd e)&&((rawInt b::c).toArray)[0]? == some (rawInt b))=true then _ else _) Q E s
 rw [if_pos h]
 refine wpAny_bind (wpAny_rule ?_)
 unfold updateField
 refine wpAny_bind (wpAny_load d ?_)
 show wpAny M A (if 0<((rawInt b::c).toArray).size then _ else _) Q E s
 rw [if_pos (by simp)]
 exact wpAny_update d g
theorem Dr (G:gf V X) {L:Nat} {g:jP} (sub:∀b c p κ t T n i o,bz o (g b c p κ t T n i o)) {F:Sem Fin} {a:Addr} {q:Option Yd} {k:Obj→Sem Fin} {b:Yh} {p:List (Nat→Nat)} {κ : Ko} {T:Kn} {n i:Nat} {o:List Ob} {h:Heap}
  (H:∀c,c.length=L→fr V X (nL V g (.load a q k) a k b c p κ F T n i o)) (D:dp V X h T n)
  (K:∀f C u A,(∀c,c.length=L→fr V X (g f c p κ (k V.oS) C n i u))→dp V X A C n→Mn V X κ (k V.oS) (St X A i)):Mn V X κ (.load a q k) (St X h i):=by
 unfold nL at H
 split at H
 ·rename_i E J e b
  cases j:bW T E with
  | none=>simp only [j] at H;exact (H _ bZ).no.elim
  | some d=>
   cases y:bW T J with
   | none=>simp only [j,y] at H;exact (H _ bZ).no.elim
   | some s=>
    simp only [j,y] at H
    have I:Sem.load a q k=V.bd (V.lg (.ref a) (.ref s.1)) fun _=>k V.oS:=(H _ bZ).mem (sub _ _ _ _ _ _ _ _ _) (.head _)
    have B:some d=some (a,aW e (rawInt s.1) (restOf d.2)):=(H _ bZ).mem (sub _ _ _ _ _ _ _ _ _) (.tail _ (.head _))
    have x:d.1=a:=congrArg (·.1) (Option.some.inj B)
    have w:d.2=aW e (rawInt s.1) (restOf d.2):=congrArg (·.2) (Option.some.inj B)
    have N:h.get? a=some (aW e (rawInt s.1) (restOf d.2)):=by rw [←x,←w];exact D.own d (dj j)
    rw [I,G.bd,G.lg]
    refine wpAny_bind (m:=letOwnedTupleGo _ _ _) (wpAny_letGo N ?_)
    refine K b _ _ _ H ?_
    have z:aW e .none (restOf d.2)=Obj.mapFields (·.setIfInBounds 0 .none) d.2:=by
     rw [w];simp [aW,Obj.mapFields,restOf]
    rw [z,←x]
    exact D.update G.kt j (by rw [←z];rfl)
 ·exact (H _ bZ).no.elim
theorem tN (G:gf V X):∀(u L:Nat) (b:Yh) (w:List (Nat→Nat)) (κ : Ko) (t:Sem Fin) (T:Kn) (n d:Nat) (x:List Ob) (h:Heap),(∀i,i.length=L→fr V X (d6 V u b i w κ t T n d x))→nN κ→κ.len≤45→dp V X h T n→Mn V X κ t (St X h d):=by
 intro u
 induction u with
 | zero=>intro L b w κ t T n d x h H;exact (H _ bZ).no.elim
 | succ u C=>
  intro L b w κ t T n d x h H y B D
  replace H:∀i,i.length=L→fr V X (cl V (d6 V u) b i w κ t T n d x):=H
  have sub:=Dk V u
  have I:=G.den
  have O:∀(b:Yh) (r:Result) (T:Kn) (n d:Nat) (x:List Ob) (h:Heap),(∀i,i.length=L→fr V X (qc (d6 V u) b i w r κ T n d x))→dp V X h T n→En V X κ r (St X h d):=by
   intro b r T n d x h H D
   cases κ with
   | base=>
    obtain ⟨o,e,_,q⟩:=H _ bZ
    cases e
    exact q h D
   | code c=>
    obtain ⟨o,e,_,q⟩:=H _ bZ
    cases e
    exact q h D
   | ret c k κ => exact C L b w κ (k r) T n d x h H y.2 (by have : κ.len+1≤45:=B;lia) D
  cases t with
  | pure fin=>
   cases fin with
   | done f=>exact wpAny_pure (O _ _ _ _ _ _ _ H D)
   | again E=>
    refine wpAny_pure ?_
    cases b with
    | nil=>exact (H _ bZ).no.elim
    | cons K b=>
     cases κ with
     | base=>exact (H _ bZ).no.elim
     | code c=>
      rcases K with _ | _ | j
      ·simp only [cl] at H
       obtain ⟨t,s,A,J⟩:=qi G (F:=fun i b x=>d6 V u b i w (.code E) (V.den E) T n d x) (fun _ _ _=>sub _ _ _ _ _ _ _ _ _) H
       exact Do G t (I▸C L s w (.code E) (V.den E) T n d A h J t B D)
      ·simp only [cl] at H
       obtain ⟨t,s,A,J⟩:=qi G (F:=fun i b x=>some ⟨.again E,T,n,d,x⟩) (fun _ _ _=>bz.self) H
       obtain ⟨o,e,_,q⟩:=J _ bZ
       cases e
       exact ⟨t.quiet,q h D⟩
      ·exact (H _ bZ).no.elim
     | ret c k κ =>
      cases K with
      | zero=>
       simp only [cl] at H
       obtain ⟨t,s,A,J⟩:=qi G (F:=fun i b x=>d6 V u b i w (.ret E k κ) (V.den E) T n d x) (fun _ _ _=>sub _ _ _ _ _ _ _ _ _) H
       exact Dp G t (I▸C L s w (.ret E k κ) (V.den E) T n d A h J ⟨t,y.2⟩ B D)
      | succ j=>exact (H _ bZ).no.elim
  | raise e=>exact wpAny_throw (O _ _ _ _ _ _ _ H D)
  | rule tag k=>exact x_rule (C L b w κ (k ()) T n d x h H y B D)
  | «at» q k=>exact x_at (C L b w κ (k ()) T n d x h H y B D)
  | point l k=>exact x_point (C L b w κ (k ()) T n d x h H y B D)
  | ask k=>
   have R:k ⟨V.prog,V.pb⟩=k ⟨V.prog,V.pa⟩:=(H _ bZ).mem (sub _ _ _ _ _ _ _ _ _) (.head _)
   refine x_ask ?_
   have ek:k ⟨V.prog,V.w.params⟩=k ⟨V.prog,V.pa⟩:=by
    rcases G.pab with e | e
    ·rw [e]
    ·rw [e,R]
   show wpAny V.M (AK X κ) (k ⟨V.prog,V.w.params⟩) _ _ _
   rw [ek]
   exact C L b w κ (k _) T n d _ h H y B D
  | fresh k=>exact x_fresh (C L b w κ (k d) T n (d+1) x h H y B D)
  | load a q k=>
   cases b with
   | nil=>exact (H _ bZ).no.elim
   | cons K b=>
    cases K with
    | zero=>
     cases e:V.kt.get a with
     | none=>simp only [cl,e] at H;exact (H _ bZ).no.elim
     | some o=>
      simp only [cl,e] at H
      exact x_load (D.old a o e) (C L b w κ (k o) T n d x h H y B D)
    | succ j=>
     cases e:bW T j with
     | none=>
      simp only [cl,e] at H
      exact Dr G sub H D (fun s T' A h' J Z=>C L s w κ (k V.oS) T' n d A h' J y B Z)
     | some p=>
      simp only [cl,e] at H
      have Q:a=p.1:=(H _ bZ).mem (sub _ _ _ _ _ _ _ _ _) (.head _)
      exact x_load (by rw [Q];exact D.own p (dj e)) (C L b w κ (k p.2) T n d _ h H y B D)
  | loadIfAlive a k=>
   have al:∀{o:Obj},h.get? a=some o→Mn V X κ (k (some o)) (St X h d)→Mn V X κ (.loadIfAlive a k) (St X h d):=by
    intro o ho q Γ p hΓ
    have z:=q Γ p hΓ
    show Sem.wp _ _ (k (h.get? a)) _ _ _ _
    rw [ho];exact z
   cases b with
   | nil=>exact (H _ bZ).no.elim
   | cons K b=>
    cases K with
    | zero=>
     cases e:V.kt.get a with
     | none=>simp only [cl,e] at H;exact (H _ bZ).no.elim
     | some o=>
      simp only [cl,e] at H
      exact al (D.old a o e) (C L b w κ (k (some o)) T n d x h H y B D)
    | succ j=>
     cases e:bW T j with
     | none=>simp only [cl,e] at H;exact (H _ bZ).no.elim
     | some p=>
      simp only [cl,e] at H
      have Q:a=p.1:=(H _ bZ).mem (sub _ _ _ _ _ _ _ _ _) (.head _)
      exact al (by rw [Q];exact D.own p (dj e)) (C L b w κ (k (some p.2)) T n d _ h H y B D)
  | alloc o k=>
   cases P:o.isFreed with
   | true=>simp only [cl,P] at H;exact (H _ bZ).no.elim
   | false=>
    simp only [cl,P] at H
    have z:=C L b w κ (k n) (i1 T (n,o)) (n+1) d x (h.push o) H y B (D.alloc G.low P)
    refine wpAny_bind (m:=alloc o) (f:=k) (wpAny_alloc ?_)
    show wpAny _ _ (k h.objs.size) _ _ _
    rw [D.size];exact z
  | update a q f k=>
   cases b with
   | nil=>exact (H _ bZ).no.elim
   | cons j b=>
    cases e:bW T j with
    | none=>simp only [cl,e] at H;exact (H _ bZ).no.elim
    | some p=>
     cases P:(f p.2).isFreed with
     | true=>simp only [cl,e,P] at H;exact (H _ bZ).no.elim
     | false=>
      simp only [cl,e,P] at H
      have Q:a=p.1:=(H _ bZ).mem (sub _ _ _ _ _ _ _ _ _) (.head _)
      have z:=C L b w κ (k ()) (gP T j (f p.2)) n d _ (h.update p.1 f) H y B (D.update G.kt e P)
      subst Q
      exact wpAny_bind (m:=updatePart p.1 q f) (f:=k) (wpAny_updatePart (D.own p (dj e)) z)
  | handled U k=>
   cases U with
   | true=>exact (H _ bZ).no.elim
   | false=>
    refine x_handled ?_
    rw [tL G.hd κ]
    exact C L b w κ (k none) T n d x h H y B D
  | stack k=>
   cases b with
   | nil=>exact (H _ bZ).no.elim
   | cons K b=>
    have q:=tM (X:=X) κ y
    cases K with
    | zero=>
     simp only [cl] at H
     cases e:k [] with
     | load a0 p0 kk=>
      simp only [e] at H
      have R:Sem.stack k=V.bd V.ef fun _=>kk V.oS:=(H _ bZ).mem (sub _ _ _ _ _ _ _ _ _) (.head _)
      rw [R,G.bd,G.ef]
      have dep:=G.depth
      exact wpAny_bind (m:=enterFrame) (wpAny_enterFrame (G.lim _ (D.old _ _ G.stat)) (by lia) (C L b w κ _ T n d _ h H y B D))
     | _=>simp only [e] at H;exact (H _ bZ).no.elim
    | succ j=>
     cases e:bW V.words j with
     | none=>simp only [cl,e] at H;exact (H _ bZ).no.elim
     | some N=>
      simp only [cl,e] at H
      have R:Sem.stack k=V.bd (V.cr N) fun _=>k []:=(H _ bZ).mem (sub _ _ _ _ _ _ _ _ _) (.head _)
      rw [R,G.bd,G.cr]
      have un:=G.units
      exact wpAny_bind (m:=cRoom N) (wpAny_cRoom (by lia) (C L b w κ _ T n d _ h H y B D))
  | call E hd g l k=>
   cases hd with
   | some=>exact (H _ bZ).no.elim
   | none=>
    cases b with
    | nil=>exact (H _ bZ).no.elim
    | cons K b=>
     cases K with
     | zero=>
      cases S:Nat.ble 44 κ.len with
      | true=>simp only [cl,S] at H;exact (H _ bZ).no.elim
      | false=>
       simp only [cl,S] at H
       obtain ⟨t,s,A,J⟩:=qi G (F:=fun i b x=>d6 V u b i w (.ret E k κ) (V.den E) T n d x) (fun _ _ _=>sub _ _ _ _ _ _ _ _ _) H
       have lt : κ.len<44:=by
        rcases Nat.lt_or_ge κ.len 44 with q | q
        ·exact q
        ·rw [Nat.ble_eq_true_of_le q] at S;cases S
       exact Dq G (I▸C L s w (.ret E k κ) (V.den E) T n d A h J ⟨t,y⟩ (by show κ.len+1≤45;lia) D)
     | succ j=>
      cases j with
      | zero=>
      obtain ⟨o,e,_,q⟩:=H _ bZ
      cases e
      exact q h D y B g l
      | succ j=>
      simp only [cl] at H
      refine (Dl G (F:=fun i w f T n d x=>d6 V u b i w κ (k f) T n d x) (fun _ _ _ _ _ _ _=>sub _ _ _ _ _ _ _ _ _) H (Dm G y B) D ?_)
      intro L' Y f T' n' tk' A h' J Z
      exact C L' b Y κ (k f) T' n' tk' A h' J y B Z
  | _=>exact (H _ bZ).no.elim
end
structure bf where
 prog:Program
 w:Yc
 pa:Params
 pb:Params
 den:Code→Sem Fin
 kt:KT
 lo:Nat
 oS:Obj
 ef:Sem Unit
 cr:String→Sem Unit
 bd:Sem Unit→(Unit→Sem Fin)→Sem Fin
 lg:Yd→Yd→Sem Unit
 words:List String
 ids:List String
def bf.sv (B:bf) (orcs:List aH):SV:=⟨B.prog,B.w,B.pa,B.pb,B.den,B.kt,B.lo,B.oS,B.ef,B.cr,B.bd,B.lg,B.words,B.ids,orcs⟩
structure bf.Ok (B:bf):Prop where
 den:B.den=denote table
 pab:B.w.params=B.pa∨B.w.params=B.pb
 ef:B.ef=enterFrame
 cr:B.cr=cRoom
 bd:B.bd=fun a b=>a.bind b
 lg:B.lg=letOwnedTupleGo (.Tuple [] 0 ⟨0,0,0,0⟩)
 kt:∀b o,B.kt.get b=some o→b<B.lo
 stat:B.kt.get cStatics=some B.oS
 lim:∀h:Heap,h.get? cStatics=some B.oS→h.NoLimit
 ids:∀id∈B.ids,nM id
def bf.In (B:bf) (h:Heap):Prop:=(∀b o,B.kt.get b=some o→h.get? b=some o)∧B.lo≤h.objs.size
abbrev bf.M (B:bf):Model:=model B.prog B.w
def Lv (m:Nat) (A:Around):Prop:=A.handled=none∧A.depth+48*m≤900∧A.units+256*m≤9000
theorem Lv.le {m n:Nat} {A:Around} (h:Lv n A) (l:m≤n):Lv m A:=⟨h.1,by have:=h.2.1;lia,by have:=h.2.2;lia⟩
def aH.Sure (B:bf) (m:Nat) (o:aH):Prop:=o.pl.Nodup∧∀(a:af) (A:Around),Lv m A→∀(h:Heap) (j:Nat) (q:Array GenState) (d:Drawn) (s:OsState) (g:Bool) (l:Yb) (k:Result→Sem Fin) (Q:Fin→Shared→Prop) (E:Yd→Shared→Prop),
 ((o.objs a).map (·.1)).Nodup→(∀x∈o.objs a,h.get? x.1=some x.2∧B.lo≤x.1)→B.In h→
 (∀(c:Heap) (f:Nat) (e:Ye),(o.strm=false→c.objs.size=h.objs.size∧f=j+o.dt∧e=fun i=>j+i)→h.objs.size≤c.objs.size→
  (∀b n,h.get? b=some n→b∉(o.objs a).map (·.1)→c.get? b=some n)→
  (∀x∈((o.objs a).map (·.1)).zip (o.out a e).2.1,c.get? x.1=some x.2)→
  (∀p∈(o.out a e).2.2,c.get? p.1=some p.2∧h.objs.size≤p.1)→((o.out a e).2.2.map (·.1)).Nodup→
  wpAny B.M A (k (lI o.bad (o.out a e).1)) Q E ⟨c,q,d,f,s⟩)→
 wpAny B.M A (.call (o.code a) none g l k) Q E ⟨h,q,d,j,s⟩
theorem aH.Sure.le {B:bf} {m n:Nat} {o:aH} (h:o.Sure B m) (l:m≤n):o.Sure B n:=⟨h.1,fun a A b=>h.2 a A (b.le l)⟩
abbrev eZ:=Except Code Flow×Yf×Ya
def aL (B:bf) (m:Nat) (c:Code) (need:Ya) (a:Ye→eZ):Prop:=
 ∀(A:Around),Lv m A→∀(h:Heap) (o:Nat) (j:Array GenState) (d:Drawn) (k:OsState) (R:Result→Shared→Prop),
  (need.map (·.1)).Nodup→(∀p∈need,h.get? p.1=some p.2∧B.lo≤p.1)→B.In h→
  (∀(e:Heap) (g:Nat) (i:Ye),h.objs.size≤e.objs.size→(∀b n,h.get? b=some n→b∉need.map (·.1)→e.get? b=some n)→
   (∀x∈(need.map (·.1)).zip (a i).2.1,e.get? x.1=some x.2)→(∀p∈(a i).2.2,e.get? p.1=some p.2∧h.objs.size≤p.1)→((a i).2.2.map (·.1)).Nodup→
   match (a i).1 with
   | .ok f=>R (.ok f) ⟨e,j,d,g,k⟩
   | .error q=>codeAny B.M A q R ⟨e,j,d,g,k⟩)→
  codeAny B.M A c R ⟨h,j,d,o,k⟩
def lM (x:Flow×Yf×Ya):eZ:=(.ok x.1,x.2)
abbrev aC (B:bf) (m:Nat) (c:Code) (a:Ya) (out:Ye→Flow×Yf×Ya):Prop:=aL B m c a fun b=>lM (out b)
def bA (code:af→Code) (pl:Yh) (objs:af→Ya) (out:af→Ye→Flow×Yf×Ya):aH:=
 {code,pl,objs,strm:=true,out}
theorem bS {B:bf} {m:Nat} {code:af→Code} {i:Yh} {b:af→Ya} {out:af→Ye→Flow×Yf×Ya}
  (t:i.Nodup) (D:∀a,aC B m (code a) (b a) (out a)):(bA code i b out).Sure B m:=by
 refine ⟨t,fun a A j h n q d s g l k Q E nd w p y => ?_⟩
 refine x_call (hd:=none) ?_ (by intro e;cases e)
 exact D a A j h n q d s _ nd w p fun o f u le C x z c=>y o f u (fun e=>by cases e) le C x z c
def kS (a:Yh) (o:cZ):Rs×List (Option (Addr×Obj))×List Ob:=(o.r,a.map (bW o.T),o.ob.map Ob.l)
def kU:Option cZ→List Ob
 | some o=>o.ob
 | none=>[]
theorem wX {x:Option cZ} {a:Yh} {r:Rs} {b:List (Option (Addr×Obj))} (h:x.map (kS a)=some (r,b,(kU x).map Ob.r)):∃o,x=some o∧lH o.ob∧o.r=r∧a.map (bW o.T)=b:=by
 cases x with
 | none=>cases h
 | some o=>
  have e:=Option.some.inj h
  exact ⟨o,rfl,congrArg (fun y:Rs×List (Option (Addr×Obj))×List Ob=>y.2.2) e,congrArg (fun y:Rs×List (Option (Addr×Obj))×List Ob=>y.1) e,congrArg (fun y:Rs×List (Option (Addr×Obj))×List Ob=>y.2.1) e⟩
theorem tO {B:bf} (O:B.Ok) {m:Nat} {A:Around} (a:Lv (m+1) A) {orcs:List aH} (f:∀o∈orcs,o.Sure B m) {X:Cx} (u:X.A₀ = A) (b:B.lo≤X.h₀.objs.size):gf (B.sv orcs) X:=by
 subst u
 refine ⟨O.den,O.pab,O.ef,O.cr,O.bd,O.lg,O.kt,O.stat,O.lim,O.ids,a.1,?_,?_,b,fun o i => ?_⟩
 ·have:=a.2.1
  have e:recursionLimit=1000:=rfl
  lia
 ·have:=a.2.2
  have e:cLine=9900:=rfl
  lia
 ·refine ⟨(f o i).1,fun c j d h n g l k Q E nd q s p _ _ t => ?_⟩
  exact (f o i).2 c j ⟨d.1,by have:=a.2.1;have:=d.2.1;lia,by have:=a.2.2;have:=d.2.2;lia⟩ h n _ _ _ g l k Q E nd q ⟨s,p⟩ t
theorem i3 {T:Kn}:∀{a:Yh} {b:Ya},a.map (bW T)=b.map some→∀p∈b,∃i∈a,bW T i=some p
 | [],[],_,_,h=>by cases h
 | [],_::_,e,_,_=>by cases e
 | _::_,[],e,_,_=>by cases e
 | i::a,v::b,e,p,h=>by
  simp only [List.map_cons,List.cons.injEq] at e
  rcases List.mem_cons.mp h with rfl | h
  ·exact ⟨i,.head _,e.1⟩
  ·obtain ⟨j,c,q⟩:=i3 e.2 p h
   exact ⟨j,.tail _ c,q⟩
theorem lN {T:Kn} (nd:(T.map (·.1)).Nodup):∀{a:Yh} {b:Ya},a.Nodup→a.map (bW T)=b.map some→(b.map (·.1)).Nodup
 | [],[],_,_=>List.nodup_nil
 | [],_::_,_,e=>by cases e
 | _::_,[],_,_=>List.nodup_nil
 | i::a,v::b,ns,e=>by
  simp only [List.map_cons,List.cons.injEq] at e
  rw [List.nodup_cons] at ns
  rw [List.map_cons,List.nodup_cons]
  refine ⟨fun d => ?_,lN nd ns.2 e.2⟩
  obtain ⟨p,f,q⟩:=List.mem_map.mp d
  obtain ⟨j,g,c⟩:=i3 e.2 p f
  exact ns.1 (tG nd c e.1 q▸g)
def nP:Except Code Flow→Rs
 | .ok f=>.ret (.ok f)
 | .error c=>.again c
theorem Ds {B:bf} (O:B.Ok) {m:Nat} {c:Code} {g:Ya} {s:Ye→eZ} {k:List aH} (hs:∀o∈k,o.Sure B m) (Y:∀id a,c≠.builtin id a)
  (y L:Nat) (u I:Yh) (K:Nat→Nat→List Oc→Nat→Nat) (U:I.Nodup) (hz:∀a,(s a).2.1.length=g.length)
  (E:∀n C j,j.length=L→(d6 (B.sv k) y u j [] (.code c) (B.den c) g n C []).map (kS I) =
   some (nP (s (K n C j)).1,((g.map (·.1)).zip (s (K n C j)).2.1++(s (K n C j)).2.2).map some,(kU (d6 (B.sv k) y u j [] (.code c) (B.den c) g n C [])).map Ob.r)):aL B (m+1) c g s:=by
 intro A Z h C T d V R N X S hR
 have G:gf (B.sv k) ⟨h,g.map (·.1),A,R,T,d,V⟩:=tO O Z hs rfl S.2
 have D:dp (B.sv k) ⟨h,g.map (·.1),A,R,T,d,V⟩ h g h.objs.size:=⟨rfl,fun p H=>(X p H).1,fun p H=>(X p H).2,N,S.1,fun _ _ e _=>e,fun p H=>.inl (List.mem_map_of_mem (f:=(·.1)) H),Nat.le_refl _⟩
 have t:=gQ Y
 have z:=tN G y L u [] (.code c) (B.den c) g h.objs.size C [] h (fun j hl=>by
  obtain ⟨o,e,ok,er,ev⟩:=wX (E h.objs.size C j hl)
  refine ⟨o,e,ok,fun h' F => ?_⟩
  have Q:=hR h' o.tk (K h.objs.size C j) (by rw [F.size];exact F.grow) (fun b ob q hb=>F.keep b ob q hb) (fun x hx => ?_) (fun p H => ?_) ?_
  ·rw [er]
   revert Q
   cases (s (K h.objs.size C j)).1 with
   | ok f=>exact id
   | error c'=>exact id
  ·obtain ⟨i,_,w⟩:=i3 ev x (List.mem_append_left _ hx)
   exact F.own x (dj w)
  ·obtain ⟨i,hi,w⟩:=i3 ev p (List.mem_append_right _ H)
   refine ⟨F.own p (dj w),?_⟩
   rcases F.new p (dj w) with v | v
   ·exfalso
    have J:=lN F.nd U ev
    rw [List.map_append,List.map_fst_zip (by rw [hz,List.length_map];exact Nat.le_refl _)] at J
    exact (List.nodup_append.mp J).2.2 p.1 v p.1 (List.mem_map_of_mem H) rfl
   ·exact v
  ·have J:=lN F.nd U ev
   rw [List.map_append] at J
   exact (List.nodup_append.mp J).2.1) t (by show 1≤45;decide) D
 exact codeAny_of_tree (wpAny_mono (O.den▸z) (fun P s' q=>by cases P <;> exact q) fun _ _ q=>q)
theorem d7 {M:Model} {A:Around} {f:Yd} {b:Yb} {g:Bool} {l:Yb} {k:Result→Sem Fin} {Q:Fin→Shared→Prop} {E:Yd→Shared→Prop} {s:Shared}
  (h:wpAny M A (call f b []) (fun v c=>wpAny M A (k (.ok (.ret v))) Q E c) (fun e c=>wpAny M A (k (.error e)) Q E c) s):wpAny M A (.call (.call f ⟨b,[]⟩) none g l k) Q E s:=by
 intro Γ p a
 have z:=h Γ p a
 unfold call at z
 rw [Sem.wp_runValue] at z
 refine wpCode_mono (fun r c q => ?_) z
 cases r with
 | error e=>exact q Γ p a
 | ok f=>
  cases f with
  | ret v=>exact q Γ p a
  | _=>exact q.elim
def bs (id:String) (a:af→Yb) (v:af→Ye→Yd):aH:={code:=fun p=>.call (.builtin id) ⟨a p,[]⟩,strm:=true,out:=fun p b=>(.ret (v p b),[],[])}
theorem jQ {B:bf} {m:Nat} {id:String} {a:af→Yb} {v:af→Ye→Yd}
  (H:∀(p:af) (A:Around) (s:Shared) (Q:Yd→Shared→Prop) (E:Yd→Shared→Prop),(∀b k,Q (v p b) {s with toks:=k})→wpAny B.M A (call (.builtin id) (a p)) Q E s):(bs id a v).Sure B m:=by
 refine ⟨List.nodup_nil,fun c A _ h n o d q g l k Q E _ _ _ j => ?_⟩
 refine d7 (H c A _ _ _ fun b i => ?_)
 exact j h i b (fun e=>by cases e) (Nat.le_refl _) (fun _ _ e _=>e) (fun _ hx=>(nomatch hx)) (fun _ hx=>(nomatch hx)) List.nodup_nil
section
open PySem.Builtin PySem.Builtin.Str
section
variable {B:bf} {m:Nat}
theorem nQ {id:String} {d:Str} {F:Builtin} {x:af→Str} {t:af→Tok} {a:af→Yb} {f:af→Made} {v:af→Ye→Yd} (c:Slot "str" d id)
  (b:entryFor table id=some F) (e:∀p,argsOk id ⟨.str (x p) (t p)::a p,[]⟩) (g:∀p,Gives (F ⟨.str (x p) (t p)::a p,[]⟩) (f p))
  (n:∀p s (Q:Yd→Shared→Prop),(∀j k,Q (v p j) {s with toks:=k})→(f p).post Q s):(bs id (fun p=>.str (x p) (t p)::a p) v).Sure B m:=
 jQ fun p _ s Q _ h=>call_gives c (typeIs_str s _ _) b (e p) (g p) (n p s Q h)
def o2 (id:String) (x y:Str) (v:Ye→Yd):aH:=bs id (fun p=>[.str x (p 0 0),.str y (p 0 1)]) fun _ a=>v a
theorem cm {x y:Str} {b:Bool} (e:Txt.startswith x y=b):(o2 "str.startswith" x y fun _=>.bool b).Sure B m:=
 jQ fun _ _ s _ _ h=>SC.startswith (by rw [e];exact h id s.toks)
theorem Dt {x y:Str} {b:Bool} (e:Txt.endswith x y=b):(o2 "str.endswith" x y fun _=>.bool b).Sure B m:=
 jQ fun _ _ s _ _ h=>SC.endswith (by rw [e];exact h id s.toks)
theorem lO {x y:Str} {i:Int} (e:Txt.rfind x y=i):(o2 "str.rfind" x y fun a=>.int i (a 0)).Sure B m:=
 jQ fun _ _ s _ _ h=>SC.rfind (by rw [e];exact h (fun _=>s.toks) (s.toks+1))
theorem wY {x y z:Str} (e:Txt.rstripChars x y=z) (hx:x.length≤1000):(o2 "str.rstrip" x y fun a=>.str z (a 0)).Sure B m:=
 jQ fun _ _ s _ _ h=>SC.rstripChars (fun b k=>by rw [e];exact h (fun _=>b) k) (Nat.le_trans hx (by decide))
theorem fX {x y z:Str} (e:x++y=z) (hx:(x.length==0)=false) (c:(y.length==0)=false) (b:z.length≤1000):(o2 "str.__add__" x y fun a=>.str z (a 0)).Sure B m:=
 nQ F.slot_str_add F.entry_str_add (fun _=>F.args_str_add_2 _ _) (fun _=>gives_str_add _ _ _ _) fun _ s _ h=>by
  rw [hx,c]
  exact ⟨by rw [e];exact Nat.le_trans b (by decide),by rw [e];exact h (fun _=>s.toks) (s.toks+1)⟩
theorem cv {x y:Str} {b:Bool} (e:(x.cps.toList==y.cps.toList)=b):(o2 "str.__eq__" x y fun _=>.bool b).Sure B m:=
 nQ F.slot_str_eq F.entry_str_eq (fun _=>F.args_str_eq_2 _ _) (fun _=>gives_str_eq _ _ _ _) fun _ s _ h=>by rw [e];exact h id s.toks
theorem aQ {x y:Str} {b:Bool} (e:(x.cps.toList != y.cps.toList)=b):(o2 "str.__ne__" x y fun _=>.bool b).Sure B m:=
 nQ F.slot_str_ne F.entry_str_ne (fun _=>F.args_str_ne_2 _ _) (fun _=>gives_str_ne _ _ _ _) fun _ s _ h=>by rw [e];exact h id s.toks
theorem jR {x y:Str} {b:Bool} (e:decide (x.cps.toList<y.cps.toList)=b):(o2 "str.__lt__" x y fun _=>.bool b).Sure B m:=
 nQ F.slot_str_lt F.entry_str_lt (fun _=>F.args_str_lt_2 _ _) (fun _=>gives_str_lt _ _ _ _) fun _ s _ h=>by rw [e];exact h id s.toks
def tP (x:Str) (n:Int):aH:=bs "len" (fun p=>[.str x (p 0 0)]) fun _ a=>.int n (a 0)
theorem wZ {x:Str} {n:Int} (e:(x.length:Int)=n) (hx:x.length≤1000):(tP x n).Sure B m:=
 jQ fun _ _ s _ _ h=>len_str (by lia) (by rw [e];exact h (fun _=>s.toks+1) _)
def a9 (x:Str) (n:Int):aH:={code:=fun p=>.builtin "len" ⟨[.str x (p 0 0)],[]⟩,strm:=true,out:=fun _ a=>(.ret (.int n (a 0)),[],[])}
theorem bb {x:Str} {n:Int} (e:(x.length:Int)=n) (hx:x.length≤1000):(a9 x n).Sure B m:=by
 refine ⟨List.nodup_nil,fun f A _ h c j d o g l k Q E _ _ _ i => ?_⟩
 refine x_call (hd:=none) ?_ (by intro e;cases e)
 refine codeAny_builtin entry_len (wpAny_mono (wpAny_len_body (Q:=fun v a=>wpAny B.M A (k (.ok (.ret v))) Q E a) (typeIs_str _ _ _) F.slot_str_len F.entry_str_len (F.args_str_len_1 _) (gives_str_len _ _) (by lia) (by lia) ?_) ?_ fun _ _ q=>q)
 ·rw [e]
  exact i h _ (fun _=>c+1) (fun e=>by cases e) (Nat.le_refl _) (fun _ _ e _=>e) (fun _ hx=>(nomatch hx)) (fun _ hx=>(nomatch hx)) List.nodup_nil
 ·rintro b a ⟨r,rfl,q⟩
  exact q
def d8 (x:Str) (l u:Option Int):Str:=if (strSliceIndices l u 1 x.length).length==x.length then x else ⟨((strSliceIndices l u 1 x.length).filterMap (x.cps[·]?)).toArray⟩
def jS (i:Option Int) (t:Nat):Yd:=match i with
 | some i=>.int i t
 | none=>.none
def tQ (l u:Option Int) (p:af):Obj:={cls:=.type "slice",data:=.fields #[jS l (p 1 1),jS u (p 1 2),.none]}
def ee (j:Nat) (x:Str) (l u:Option Int) (z:Str):aH:=
 {code:=fun p=>.call (.builtin "str.__getitem__") ⟨[.str x (p 0 0),.ref (p 1 0)],[]⟩,pl:=[j],objs:=fun p=>[(p 1 0,tQ l u p)],strm:=true,out:=fun p a=>(.ret (.str z (a 0)),[tQ l u p],[])}
theorem fY {j:Nat} {x:Str} {l u:Option Int} {z:Str} (e:d8 x l u=z) (w:z.length≤1000):(ee j x l u z).Sure B m:=by
 refine ⟨by simp [ee],fun p A _ h H y d C g I k Q E _ D _ G=>d7 ?_⟩
 have s:=(D _ (.head _)).1
 have q:∀(i:Option Int) (t:Nat),jS i t=partValue (i.map fun i=>(i,t)):=fun i t=>by cases i <;> rfl
 have o:∀(i:Option Int) (t:Nat),(i.map fun i=>(i,t)).map (·.1)=i:=fun i t=>by cases i <;> rfl
 refine call_meets F.slot_str_getitem (typeIs_str _ _ _) F.entry_str_getitem (F.args_str_getitem_2 _ _) (meets_str_getitem_slice x _ _ (l.map fun i=>(i,p 1 1)) (u.map fun i=>(i,p 1 2)) none rfl) ⟨⟨_,s,rfl,?_⟩,?_⟩
 ·show Data.fields _=_
  rw [q,q];rfl
 ·have a:∀f c,wants (fun v n=>wpAny B.M A (k (.ok (.ret v))) Q E n) (fun e n=>wpAny B.M A (k (.error e)) Q E n) (.ok (.ret (.str z f))) ⟨h,y,d,c,C⟩:=fun f c=>
   G h c (fun _=>f) (fun e=>by cases e) (Nat.le_refl _) (fun _ _ e _=>e) (fun x hx=>by
    have:x=(p 1 0,tQ l u p):=by simpa [ee] using hx
    subst this;exact s) (fun _ hx=>(nomatch hx)) List.nodup_nil
  unfold sliceMade slicePicked
  rw [o,o]
  unfold d8 at e
  show Made.post (if ((1:Int)==1&&(strSliceIndices l u 1 x.length).length==x.length)=true then _ else _) _ _
  rw [show ((1:Int)==1)=true from rfl,Bool.true_and]
  split
  ·rename_i b
   rw [if_pos b] at e
   subst e
   exact a _ _
  ·rename_i b
   rw [if_neg b] at e
   refine ⟨?_,?_⟩
   ·show Str.length _≤_
    refine Nat.le_trans ?_ (Nat.le_trans w (by decide))
    rw [←e];exact Nat.le_refl _
   ·rw [←e] at a;exact a _ _
end
end
section
open PySem.Builtin PySem.Builtin.Str
section
variable {B:bf} {m:Nat}
def bn (id:String) (a:af→Yb) (o:af→Ye→Obj):aH:={code:=fun p=>.call (.builtin id) ⟨a p,[]⟩,strm:=true,out:=fun p b=>(.ret (.ref (b 0)),[],[(b 0,o p b)])}
theorem Du {id:String} {c:af→Yb} {o:af→Ye→Obj} (n:∀p a,(o p a).isFreed=false)
  (H:∀(p:af) (A:Around) (s:Shared) (Q:Yd→Shared→Prop) (E:Yd→Shared→Prop),(∀a k,a 0=s.heap.objs.size→Q (.ref (a 0)) {s with toks:=k,heap:=s.heap.push (o p a)})→wpAny B.M A (call (.builtin id) (c p)) Q E s):(bn id c o).Sure B m:=by
 refine ⟨List.nodup_nil,fun b A _ h q t d u g l k Q E _ _ _ j => ?_⟩
 refine d7 (H b A _ _ _ fun a i e => ?_)
 refine j (h.push (o b a)) i a (fun e=>by cases e) (by rw [Heap.size_push];exact Nat.le_succ _) (fun _ _ e _=>Heap.get?_push_of_some _ e) (fun _ hx=>(nomatch hx)) (fun x hx => ?_) (by simp [bn])
 have:x=(a 0,o b a):=by simpa [bn] using hx
 subst this
 rw [e]
 exact ⟨Heap.get?_push_size _ (n b a),Nat.le_refl _⟩
def cO:Yg→Ye→Nat→Yb
 | [],_,_=>[]
 | x::r,ax,i=>.str x (ax i)::cO r ax (i+1)
noncomputable def ab (l:Yb) (n:Nat):Obj:={cls:=.type "list",data:=.seq l.toArray n}
theorem w0 (f:Ye) (a:Nat):∀(l:Yg) (i:Nat),(∀j,f (i+j)=a+j)→cO l f i=strsFrom a l
 | [],_,_=>rfl
 | x::r,i,h=>by
  show Value.str x (f i)::cO r f (i+1)=Value.str x a::strsFrom (a+1) r
  have b:f i=a:=h 0
  rw [b,w0 f (a+1) r (i+1) (fun j=>by rw [show i+1+j=i+(j+1) by lia,h];lia)]
def cb (x y:Str) (b:Yg):aH:=bn "str.split" (fun p=>[.str x (p 0 0),.str y (p 0 1)]) fun _ a=>ab (cO b a 1) 0
theorem tR {x y:Str} {a:Yg} (e:Txt.split x y=a) (g:(y.length==0)=false) (hx:x.length≤1000) (n:(partsBetween x (occurrences x y 0 x.length (x.length+1)) y.length).length≤1000):(cb x y a).Sure B m:=by
 refine Du (fun _ _=>rfl) fun p A s Q E h => ?_
 have b:x=x→a=[x]→wants Q E (.ok (.ret (.ref s.heap.objs.size))) {s with heap:=s.heap.push {cls:=.type "list",data:=.seq #[Value.str x (p 0 0)]}}:=by
  intro _ k
  subst k
  exact h (fun i=>match i with | 0=>s.heap.objs.size | _=>p 0 0) s.toks rfl
 unfold Txt.split at e
 cases c:(decide (x.length<y.length)||decide (strKind x<strKind y))
 ·rw [c] at e
  cases d:(occurrences x y 0 x.length (x.length+1)).isEmpty
  ·rw [d] at e
   refine call_meets F.slot_str_split (typeIs_str _ _ _) F.entry_str_split (F.args_str_split_2 _ _) (meets_str_split_sep x y _ _ c g d (Nat.le_trans hx (by decide)) (Nat.le_trans n (by decide))) ?_
   have o:partsBetween x (occurrences x y 0 x.length (x.length+1)) y.length=a:=e
   rw [o]
   have:=h (fun i=>match i with | 0=>s.heap.objs.size | j+1=>s.toks+j) (s.toks+a.length) rfl
   rw [w0 _ s.toks a 1 (fun j=>by rw [Nat.add_comm])] at this
   exact this
  ·rw [d] at e
   exact call_meets F.slot_str_split (typeIs_str _ _ _) F.entry_str_split (F.args_str_split_2 _ _) (meets_str_split_not_found x y _ _ c g d) (b rfl e.symm)
 ·rw [c] at e
  exact call_meets F.slot_str_split (typeIs_str _ _ _) F.entry_str_split (F.args_str_split_2 _ _) (meets_str_split_cannot_occur x y _ _ c) (b rfl e.symm)
def dq (p:af):Yg→Nat→Yb
 | [],_=>[]
 | x::r,i=>.str x (p 1 i)::dq p r (i+1)
def bx (j:Nat) (a:Str) (b:Yg) (z:Str):aH:=
 {code:=fun p=>.call (.builtin "str.join") ⟨[.str a (p 0 0),.ref (p 1 0)],[]⟩,pl:=[j],objs:=fun p=>[(p 1 0,ab (dq p b 2) (p 1 1))],strm:=true,out:=fun p c=>(.ret (.str z (c 0)),[ab (dq p b 2) (p 1 1)],[])}
def lP (p:af):Yg→Nat→List (Str×Tok)
 | [],_=>[]
 | x::r,i=>(x,p 1 i)::lP p r (i+1)
theorem w1 (p:af):∀(l:Yg) (i:Nat),dq p l i=strValues (lP p l i)
 | [],_=>rfl
 | x::r,i=>by
  show Value.str x (p 1 i)::dq p r (i+1)=Value.str x (p 1 i)::strValues (lP p r (i+1))
  rw [w1 p r]
theorem w2 (p:af):∀(l:Yg) (i:Nat),(lP p l i).map (·.1)=l
 | [],_=>rfl
 | x::r,i=>by
  show x::(lP p r (i+1)).map _=_
  rw [w2 p r]
theorem bB {j:Nat} {b:Str} {a:Yg} {z:Str} (e:Txt.join b a=z) (ok:JoinOk b a=true):(bx j b a z).Sure B m:=by
 refine ⟨by simp [bx],fun p A _ h q t d u g s k Q E _ n _ o=>d7 ?_⟩
 have c:=(n _ (.head _)).1
 refine SC.join (l:=lP p a 2) (texts:=a) ⟨_,c,rfl,p 1 1,?_⟩ (w2 p a 2) ok fun i f => ?_
 ·show Data.seq _ _=_
  rw [w1]
 ·rw [e]
  exact o h f (fun _=>i) (fun e=>by cases e) (Nat.le_refl _) (fun _ _ e _=>e) (fun x hx=>by
    have:x=(p 1 0,ab (dq p a 2) (p 1 1)):=by simpa [bx] using hx
    subst this;exact c) (fun _ hx=>(nomatch hx)) List.nodup_nil
def tS (x:Str) (n:Int) (z:Str):aH:=bs "str.__mul__" (fun p=>[.str x (p 0 0),.int n (p 0 1)]) fun _ a=>.str z (a 0)
theorem w3 {n:Int} {z:Str} (f:1<n) (d:n≤100) (e:⟨(List.replicate n.toNat ("/" : Str).cps).foldl (· ++ ·) #[]⟩=z) (c:z.length≤1000):(tS "/" n z).Sure B m:=by
 have b:¬n<1:=by lia
 have a:(n==1||("/" : Str).length==0)=false:=by
  rw [show (("/" : Str).length==0)=false by decide +kernel,Bool.or_false]
  exact beq_eq_false_iff_ne.mpr (by lia)
 refine nQ F.slot_str_mul F.entry_str_mul (fun _=>F.args_str_mul_2 _ _) (fun p=>gives_str_mul "/" n (p 0 0) (p 0 1) ?_ ?_ ?_) fun _ s _ h => ?_
 ·rw [decide_eq_false (by lia),decide_eq_false (by lia)];rfl
 ·intro _ _
  rw [show ("/" : Str).length=1 by decide +kernel]
  have:(1:Int)≤(2 ^ 63-1) / n:=by
   rw [Int.le_ediv_iff_mul_le (by lia)];lia
  lia
 ·intro _ _
  rw [show ("/" : Str).length=1 by decide +kernel,Nat.one_mul]
  unfold tooLong
  exact decide_eq_false (by
               have:sizeLine=16777216:=by rfl
               lia)
 ·rw [if_neg b,if_neg (by rw [a];decide)]
  exact ⟨by rw [e];exact Nat.le_trans c (by decide),by rw [e];exact h (fun _=>s.toks) (s.toks+1)⟩
end
end
abbrev pw:Program:=PySem.Challenge.pw_pd0113_01
def kW:List Stmt→Nat→Stmt
 | [],_=>.Pass default
 | s::_,0=>s
 | _::l,i+1=>kW l i
noncomputable def bC (i:Nat):Arguments:=match kW pw.main.body i with | .FunctionDef _ a _ _ _ _ _ _ _ _=>a | _=>default
noncomputable def bD (i:Nat):List Stmt:=match kW pw.main.body i with | .FunctionDef _ _ b _ _ _ _ _ _ _=>b | _=>[]
noncomputable def bE (i:Nat):Scope:=match kW pw.main.body i with | .FunctionDef _ _ _ _ _ _ s _ _ _=>s | _=>default
noncomputable def tT (i j:Nat):Stmt:=kW (match kW pw.main.body i with | .ClassDef _ _ _ b _ _ _ _ _ _ _=>b | _=>[]) j
noncomputable def jT (i j:Nat):Arguments:=match tT i j with | .FunctionDef _ a _ _ _ _ _ _ _ _=>a | _=>default
noncomputable def jU (i j:Nat):List Stmt:=match tT i j with | .FunctionDef _ _ b _ _ _ _ _ _ _=>b | _=>[]
noncomputable def jV (i j:Nat):Scope:=match tT i j with | .FunctionDef _ _ _ _ _ _ s _ _ _=>s | _=>default
abbrev aX:=@Value.builtin
abbrev bF:=@Value.bool
abbrev cV:=@Data.dict
abbrev bq:=@Data.func
abbrev aR:=@Data.seq
abbrev aY:=@Data.fields
abbrev br:=@FuncData.mk
abbrev iv:=@Obj.mk
noncomputable def ag (P:Params) (k:Str) (t:Nat) (v:Yd):DictEntry:=⟨PyData.keyHash P k,.str k t,v⟩
noncomputable def ay (c:String) (d:Data):Obj:=⟨.type c,none,d,#[]⟩
noncomputable def bh (d:Data):Obj:=⟨.none,none,d,#[]⟩
abbrev ad:=Value.str
abbrev ah:=Value.int
abbrev ai:=Value.ref
abbrev ak:=Value.none
noncomputable def an (l:Array Nat):Str:=⟨l⟩
def k0:Str:=an #[95,95,110,97,109,101,95,95]
def k1:Str:=an #[98,117,105,108,116,105,110,115]
def k2:Str:=an #[95,95,100,111,99,95,95]
def k3:Str:=an #[95,95,112,97,99,107,97,103,101,95,95]
def k4:Str:=an #[95,95,108,111,97,100,101,114,95,95]
def k5:Str:=an #[95,95,115,112,101,99,95,95]
def k7:Str:=an #[95,95,105,109,112,111,114,116,95,95]
def k8:Str:=an #[97,98,115]
def w6:Str:=an #[99,111,109,112,105,108,101]
def w7:Str:=an #[99,111,112,121,114,105,103,104,116]
def kX:Str:=an #[95,95,109,97,105,110,95,95]
def d9:Str:=an #[95,115,114,101]
def gg:Str:=an #[95,95,97,110,110,111,116,97,116,105,111,110,115,95,95]
def gh:Str:=an #[95,95,98,117,105,108,116,105,110,115,95,95]
def gi:Str:=an #[95,95,102,105,108,101,95,95]
def bg:Str:=an #[47,99,108,97,105,109,47,99,117,116,46,112,121]
def gk:Str:=an #[95,95,99,97,99,104,101,100,95,95]
def qk:Str:=an #[60,109,111,100,117,108,101,62]
def tV:Str:=an #[]
def lQ:Str:=an #[95,95,109,111,100,117,108,101,95,95]
def w9:Str:=an #[95,102,114,111,122,101,110,95,105,109,112,111,114,116,108,105,98]
def lR:Str:=an #[95,95,102,105,114,115,116,108,105,110,101,110,111,95,95]
def xa:Str:=an #[98,117,105,108,116,45,105,110]
def lS:Str:=an #[95,95,115,116,97,116,105,99,95,97,116,116,114,105,98,117,116,101,115,95,95]
def qm:Str:=an #[95,95,100,105,99,116,95,95]
def qn:Str:=an #[95,95,119,101,97,107,114,101,102,95,95]
def xb:Str:=an #[66,117,105,108,116,105,110,73,109,112,111,114,116,101,114]
def xc:Str:=an #[110,97,109,101]
def xd:Str:=an #[108,111,97,100,101,114]
def xe:Str:=an #[111,114,105,103,105,110]
def xf:Str:=an #[108,111,97,100,101,114,95,115,116,97,116,101]
def xg:Str:=an #[115,117,98,109,111,100,117,108,101,95,115,101,97,114,99,104,95,108,111,99,97,116,105,111,110,115]
def xh:Str:=an #[95,117,110,105,110,105,116,105,97,108,105,122,101,100,95,115,117,98,109,111,100,117,108,101,115]
def xi:Str:=an #[95,115,101,116,95,102,105,108,101,97,116,116,114]
def xj:Str:=an #[95,99,97,99,104,101,100]
def xk:Str:=an #[112,97,114,101,110,116]
def xl:Str:=an #[77,111,100,117,108,101,83,112,101,99]
def dY:Str:=an #[95,119,97,108,108]
def gm:Str:=an #[95,116,119,105,110,95,114,101,95,49]
def gn:Str:=an #[78,76]
def fZ:Str:=an #[10]
def nR:Str:=an #[107]
def gp:Str:=an #[99]
def gS:Str:=an #[95,81,85,79,80,82,73,95,77,65,80]
def g9:Str:=an #[99,112,121,51,49,51,46,101,109,97,105,108,46,113,117,111,112,114,105,109,105,109,101]
def he:Str:=an #[95,81,85,79,80,82,73,95,72,69,65,68,69,82,95,77,65,80]
def hg:Str:=an #[95,81,85,79,80,82,73,95,66,79,68,89,95,77,65,80]
def hy:Str:=an #[97,115,99,105,105,95,108,111,119,101,114,99,97,115,101]
def iw:Str:=an #[97,98,99,100,101,102,103,104,105,106,107,108,109,110,111,112,113,114,115,116,117,118,119,120,121,122]
def hD:Str:=an #[97,115,99,105,105,95,117,112,112,101,114,99,97,115,101]
def iz:Str:=an #[65,66,67,68,69,70,71,72,73,74,75,76,77,78,79,80,81,82,83,84,85,86,87,88,89,90]
def hE:Str:=an #[97,115,99,105,105,95,108,101,116,116,101,114,115]
def iA:Str:=an #[97,98,99,100,101,102,103,104,105,106,107,108,109,110,111,112,113,114,115,116,117,118,119,120,121,122,65,66,67,68,69,70,71,72,73,74,75,76,77,78,79,80,81,82,83,84,85,86,87,88,89,90]
def hG:Str:=an #[100,105,103,105,116,115]
def iB:Str:=an #[48,49,50,51,52,53,54,55,56,57]
def hI:Str:=an #[104,101,120,100,105,103,105,116,115]
def iC:Str:=an #[48,49,50,51,52,53,54,55,56,57,97,98,99,100,101,102,65,66,67,68,69,70]
def lT:Str:=an #[33]
def nT:Str:=an #[45]
def qo:Str:=an #[42]
def qp:Str:=an #[43]
def qq:Str:=an #[47]
def qr:Str:=an #[48]
def qs:Str:=an #[49]
def qt:Str:=an #[50]
def qu:Str:=an #[51]
def qw:Str:=an #[52]
def qx:Str:=an #[53]
def qy:Str:=an #[54]
def qz:Str:=an #[55]
def qA:Str:=an #[56]
def qB:Str:=an #[57]
def qC:Str:=an #[65]
def qH:Str:=an #[66]
def kY:Str:=an #[67]
def qI:Str:=an #[68]
def qJ:Str:=an #[69]
def qK:Str:=an #[70]
def qL:Str:=an #[71]
def qM:Str:=an #[72]
def qN:Str:=an #[73]
def qO:Str:=an #[74]
def qP:Str:=an #[75]
def qQ:Str:=an #[76]
def qR:Str:=an #[77]
def qS:Str:=an #[78]
def qT:Str:=an #[79]
def qU:Str:=an #[80]
def qV:Str:=an #[81]
def qW:Str:=an #[82]
def qX:Str:=an #[83]
def qY:Str:=an #[84]
def qZ:Str:=an #[85]
def q0:Str:=an #[86]
def q4:Str:=an #[87]
def q5:Str:=an #[88]
def q6:Str:=an #[89]
def q7:Str:=an #[90]
def nU:Str:=an #[97]
def nV:Str:=an #[98]
def q8:Str:=an #[100]
def q9:Str:=an #[101]
def rb:Str:=an #[102]
def rc:Str:=an #[103]
def rd:Str:=an #[104]
def jW:Str:=an #[105]
def rf:Str:=an #[106]
def rg:Str:=an #[108]
def rh:Str:=an #[109]
def nW:Str:=an #[110]
def ri:Str:=an #[111]
def i6:Str:=an #[112]
def rj:Str:=an #[113]
def rk:Str:=an #[114]
def jX:Str:=an #[115]
def rl:Str:=an #[116]
def rm:Str:=an #[117]
def ro:Str:=an #[118]
def rp:Str:=an #[119]
def nX:Str:=an #[120]
def rq:Str:=an #[121]
def rr:Str:=an #[122]
def rs:Str:=an #[95]
def tW:Str:=an #[32]
def xm:Str:=an #[9]
def xn:Str:=an #[34]
def xo:Str:=an #[35]
def xp:Str:=an #[36]
def xq:Str:=an #[37]
def xr:Str:=an #[38]
def xt:Str:=an #[39]
def xu:Str:=an #[40]
def xv:Str:=an #[41]
def xw:Str:=an #[44]
def xx:Str:=an #[46]
def xy:Str:=an #[58]
def xz:Str:=an #[59]
def xA:Str:=an #[60]
def xB:Str:=an #[62]
def xC:Str:=an #[63]
def xD:Str:=an #[64]
def xE:Str:=an #[91]
def xF:Str:=an #[92]
def xG:Str:=an #[93]
def xH:Str:=an #[94]
def xI:Str:=an #[96]
def xJ:Str:=an #[123]
def xK:Str:=an #[124]
def xL:Str:=an #[125]
def xM:Str:=an #[126]
def gT:Str:=an #[117,110,113,117,111,116,101]
def gU:Str:=an #[113,117,111,116,101]
def lU:Str:=an #[95,81,85,79,80,82,73,95,66,79,68,89,95,69,78,67,79,68,69,95,77,65,80]
def gV:Str:=an #[100,101,99,111,100,101]
def gW:Str:=an #[95,117,110,113,117,111,116,101,95,109,97,116,99,104]
def gX:Str:=an #[104,101,97,100,101,114,95,100,101,99,111,100,101]
def nY:Str:=an #[97,98,99]
def hJ:Str:=an #[104,101,97,112,112,117,115,104]
def hK:Str:=an #[104,101,97,112,112,111,112]
def hM:Str:=an #[104,101,97,112,114,101,112,108,97,99,101]
def hN:Str:=an #[95,115,105,102,116,100,111,119,110]
def hO:Str:=an #[95,115,105,102,116,117,112]
def hU:Str:=an #[95,112,108,97,105,110,95,110,97,109,101]
def nZ:Str:=an #[104,101,97,112]
def xN:Str:=an #[105,116,101,109]
def n0:Str:=an #[99,112,121,51,49,51,46,104,101,97,112,113]
def xO:Str:=an #[114,101,116,117,114,110,105,116,101,109]
def xP:Str:=an #[115,116,97,114,116,112,111,115]
def xQ:Str:=an #[112,111,115]
def xR:Str:=an #[110,101,119,105,116,101,109]
def xS:Str:=an #[107,105,110,100]
def xT:Str:=an #[111,115]
def jY:Str:=an #[99,111,108,108,101,99,116,105,111,110,115,46,97,98,99]
def hV:Str:=an #[65,66,67,77,101,116,97]
def hW:Str:=an #[95,65,66,67,76,105,107,101]
def xU:Str:=an #[95,95,113,117,97,108,110,97,109,101,95,95]
def iD:Str:=an #[114,101,103,105,115,116,101,114]
def rt:Str:=an #[99,108,115]
def xV:Str:=an #[115,117,98,99,108,97,115,115]
def tX:Str:=an #[65,66,67,77,101,116,97,46,114,101,103,105,115,116,101,114]
def n6:Str:=an #[95,95,105,110,115,116,97,110,99,101,99,104,101,99,107,95,95]
def n7:Str:=an #[95,95,115,117,98,99,108,97,115,115,99,104,101,99,107,95,95]
def tY:Str:=an #[95,65,66,67,76,105,107,101,46,95,95,105,110,115,116,97,110,99,101,99,104,101,99,107,95,95]
def tZ:Str:=an #[95,65,66,67,76,105,107,101,46,95,95,115,117,98,99,108,97,115,115,99,104,101,99,107,95,95]
def t0:Str:=an #[95,65,66,67,76,105,107,101,46,114,101,103,105,115,116,101,114]
def i7:Str:=an #[99,112,121,51,49,51,46,112,111,115,105,120,112,97,116,104]
def i8:Str:=an #[95,97,98,99,95,112,108,97,105,110,95,109,101,116,97]
def i9:Str:=an #[102,115,112,97,116,104]
def ja:Str:=an #[95,99,104,101,99,107,95,97,114,103,95,116,121,112,101,115]
def jb:Str:=an #[95,103,101,116,95,115,101,112]
def jc:Str:=an #[106,111,105,110]
def jd:Str:=an #[115,112,108,105,116]
def ru:Str:=an #[112,97,116,104]
def lV:Str:=an #[115,101,112]
def xW:Str:=an #[104,101,97,100]
def n9:Str:=an #[108,97,119,95,112,100,48,49,49,51,95,48,49]
def jZ:Str:=an #[115,112,108,105,116,114,111,111,116]
def j0:Str:=an #[98,97,115,101,110,97,109,101]
def j1:Str:=an #[100,105,114,110,97,109,101]
def j2:Str:=an #[110,111,114,109,112,97,116,104]
def j3:Str:=an #[99,111,109,109,111,110,112,97,116,104]
def j4:Str:=an #[95,108,97,119,95,110,97,109,101,115]
def j5:Str:=an #[95,108,97,119,95,119,114,105,116,116,101,110]
def j6:Str:=an #[95,108,97,119,95,112,97,116,104]
def hX:Str:=an #[108,97,119]
noncomputable def au (a b t:Nat):Yd:=ad ⟨#[61,a,b]⟩ t
def je:Yb:=[au 48 48 332,au 48 49 336,au 48 50 340,au 48 51 344,au 48 52 348,au 48 53 352,au 48 54 356,au 48 55 360,au 48 56 364,au 48 57 368,au 48 65 372,au 48 66 376,au 48 67 380,au 48 68 384,au 48 69 388,au 48 70 392,au 49 48 396,au 49 49 400,au 49 50 404,au 49 51 408,au 49 52 412,au 49 53 416,au 49 54 420,au 49 55 424,au 49 56 428,au 49 57 432,au 49 65 436,au 49 66 440,au 49 67 444,au 49 68 448,au 49 69 452,au 49 70 456,au 50 48 460,au 50 49 464,au 50 50 468,au 50 51 472,au 50 52 476,au 50 53 480,au 50 54 484,au 50 55 488,au 50 56 492,au 50 57 496,au 50 65 500,au 50 66 504,au 50 67 508,au 50 68 512,au 50 69 516,au 50 70 520,au 51 48 524,au 51 49 528,au 51 50 532,au 51 51 536,au 51 52 540,au 51 53 544,au 51 54 548,au 51 55 552,au 51 56 556,au 51 57 560,au 51 65 564,au 51 66 568,au 51 67 572,au 51 68 576,au 51 69 580,au 51 70 584,au 52 48 588,au 52 49 592,au 52 50 596,au 52 51 600,au 52 52 604,au 52 53 608,au 52 54 612,au 52 55 616,au 52 56 620,au 52 57 624,au 52 65 628,au 52 66 632,au 52 67 636,au 52 68 640,au 52 69 644,au 52 70 648,au 53 48 652,au 53 49 656,au 53 50 660,au 53 51 664,au 53 52 668,au 53 53 672,au 53 54 676,au 53 55 680,au 53 56 684,au 53 57 688,au 53 65 692,au 53 66 696,au 53 67 700,au 53 68 704,au 53 69 708,au 53 70 712,au 54 48 716,au 54 49 720,au 54 50 724,au 54 51 728,au 54 52 732,au 54 53 736,au 54 54 740,au 54 55 744,au 54 56 748,au 54 57 752,au 54 65 756,au 54 66 760,au 54 67 764,au 54 68 768,au 54 69 772,au 54 70 776,au 55 48 780,au 55 49 784,au 55 50 788,au 55 51 792,au 55 52 796,au 55 53 800,au 55 54 804,au 55 55 808,au 55 56 812,au 55 57 816,au 55 65 820,au 55 66 824,au 55 67 828,au 55 68 832,au 55 69 836,au 55 70 840,au 56 48 844,au 56 49 848,au 56 50 852,au 56 51 856,au 56 52 860,au 56 53 864,au 56 54 868,au 56 55 872,au 56 56 876,au 56 57 880,au 56 65 884,au 56 66 888,au 56 67 892,au 56 68 896,au 56 69 900,au 56 70 904,au 57 48 908,au 57 49 912,au 57 50 916,au 57 51 920,au 57 52 924,au 57 53 928,au 57 54 932,au 57 55 936,au 57 56 940,au 57 57 944,au 57 65 948,au 57 66 952,au 57 67 956,au 57 68 960,au 57 69 964,au 57 70 968,au 65 48 972,au 65 49 976,au 65 50 980,au 65 51 984,au 65 52 988,au 65 53 992,au 65 54 996,au 65 55 1000,au 65 56 1004,au 65 57 1008,au 65 65 1012,au 65 66 1016,au 65 67 1020,au 65 68 1024,au 65 69 1028,au 65 70 1032,au 66 48 1036,au 66 49 1040,au 66 50 1044,au 66 51 1048,au 66 52 1052,au 66 53 1056,au 66 54 1060,au 66 55 1064,au 66 56 1068,au 66 57 1072,au 66 65 1076,au 66 66 1080,au 66 67 1084,au 66 68 1088,au 66 69 1092,au 66 70 1096,au 67 48 1100,au 67 49 1104,au 67 50 1108,au 67 51 1112,au 67 52 1116,au 67 53 1120,au 67 54 1124,au 67 55 1128,au 67 56 1132,au 67 57 1136,au 67 65 1140,au 67 66 1144,au 67 67 1148,au 67 68 1152,au 67 69 1156,au 67 70 1160,au 68 48 1164,au 68 49 1168,au 68 50 1172,au 68 51 1176,au 68 52 1180,au 68 53 1184,au 68 54 1188,au 68 55 1192,au 68 56 1196,au 68 57 1200,au 68 65 1204,au 68 66 1208,au 68 67 1212,au 68 68 1216,au 68 69 1220,au 68 70 1224,au 69 48 1228,au 69 49 1232,au 69 50 1236,au 69 51 1240,au 69 52 1244,au 69 53 1248,au 69 54 1252,au 69 55 1256,au 69 56 1260,au 69 57 1264,au 69 65 1268,au 69 66 1272,au 69 67 1276,au 69 68 1280,au 69 69 1284,au 69 70 1288,au 70 48 1292,au 70 49 1296,au 70 50 1300,au 70 51 1304,au 70 52 1308,au 70 53 1312,au 70 54 1316,au 70 55 1320,au 70 56 1324,au 70 57 1328,au 70 65 1332,au 70 66 1336,au 70 67 1340,au 70 68 1344,au 70 69 1348,au 70 70 1352]
def jf:Yb→Nat→List (Nat×Yd)→Yb
 | [],_,_=>[]
 | x::l,i,d=>match d with
  | []=>x::jf l (i+1) []
  | p::r=>match Nat.beq i p.1 with
   | true=>p.2::jf l (i+1) r
   | false=>x::jf l (i+1) (p::r)
def ei (P:Params):Obj:=ay "dict" (cV #[ag P k0 1 (ad k1 160),ag P k2 2 (aX "builtins.__doc__:str#opaque"),ag P k3 3 (aX "builtins.__package__:str#opaque"),ag P k4 4 (aX "builtins.__loader__:shared#opaque"),ag P k5 5 (aX "builtins.__spec__#opaque"),ag P (an #[95,95,98,117,105,108,100,95,99,108,97,115,115,95,95]) 6 (aX "__build_class__"),ag P k7 7 (aX "__import__"),ag P k8 8 (aX "abs"),ag P (an #[97,108,108]) 9 (aX "all"),ag P (an #[97,110,121]) 10 (aX "any"),ag P (an #[97,115,99,105,105]) 11 (aX "ascii"),ag P (an #[98,105,110]) 12 (aX "bin"),ag P (an #[98,114,101,97,107,112,111,105,110,116]) 13 (aX "breakpoint"),ag P (an #[99,97,108,108,97,98,108,101]) 14 (aX "callable"),ag P (an #[99,104,114]) 15 (aX "chr"),ag P w6 16 (aX "compile"),ag P (an #[100,101,108,97,116,116,114]) 17 (aX "delattr"),ag P (an #[100,105,114]) 18 (aX "dir"),ag P (an #[100,105,118,109,111,100]) 19 (aX "divmod"),ag P (an #[101,118,97,108]) 20 (aX "eval"),ag P (an #[101,120,101,99]) 21 (aX "exec"),ag P (an #[102,111,114,109,97,116]) 22 (aX "format"),ag P (an #[103,101,116,97,116,116,114]) 23 (aX "getattr"),ag P (an #[103,108,111,98,97,108,115]) 24 (aX "globals"),ag P (an #[104,97,115,97,116,116,114]) 25 (aX "hasattr"),ag P (an #[104,97,115,104]) 26 (aX "hash"),ag P (an #[104,101,120]) 27 (aX "hex"),ag P (an #[105,100]) 28 (aX "id"),ag P (an #[105,110,112,117,116]) 29 (aX "input"),ag P (an #[105,115,105,110,115,116,97,110,99,101]) 30 (aX "isinstance"),ag P (an #[105,115,115,117,98,99,108,97,115,115]) 31 (aX "issubclass"),ag P (an #[105,116,101,114]) 32 (aX "iter"),ag P (an #[97,105,116,101,114]) 33 (aX "aiter"),ag P (an #[108,101,110]) 34 (aX "len"),ag P (an #[108,111,99,97,108,115]) 35 (aX "locals"),ag P (an #[109,97,120]) 36 (aX "max"),ag P (an #[109,105,110]) 37 (aX "min"),ag P (an #[110,101,120,116]) 38 (aX "next"),ag P (an #[97,110,101,120,116]) 39 (aX "anext"),ag P (an #[111,99,116]) 40 (aX "oct"),ag P (an #[111,114,100]) 41 (aX "ord"),ag P (an #[112,111,119]) 42 (aX "pow"),ag P (an #[112,114,105,110,116]) 43 (aX "print"),ag P (an #[114,101,112,114]) 44 (aX "repr"),ag P (an #[114,111,117,110,100]) 45 (aX "round"),ag P (an #[115,101,116,97,116,116,114]) 46 (aX "setattr"),ag P (an #[115,111,114,116,101,100]) 47 (aX "sorted"),ag P (an #[115,117,109]) 48 (aX "sum"),ag P (an #[118,97,114,115]) 49 (aX "vars"),ag P (an #[78,111,110,101]) 50 ak,ag P (an #[69,108,108,105,112,115,105,115]) 51 Value.ellipsis,ag P (an #[78,111,116,73,109,112,108,101,109,101,110,116,101,100]) 52 Value.notImplemented,ag P (an #[70,97,108,115,101]) 53 (bF false),ag P (an #[84,114,117,101]) 54 (bF true),ag P (an #[98,111,111,108]) 55 (Value.type "bool"),ag P (an #[109,101,109,111,114,121,118,105,101,119]) 56 (Value.type "memoryview"),ag P (an #[98,121,116,101,97,114,114,97,121]) 57 (Value.type "bytearray"),ag P (an #[98,121,116,101,115]) 58 (Value.type "bytes"),ag P (an #[99,108,97,115,115,109,101,116,104,111,100]) 59 (Value.type "classmethod"),ag P (an #[99,111,109,112,108,101,120]) 60 (Value.type "complex"),ag P (an #[100,105,99,116]) 61 (Value.type "dict"),ag P (an #[101,110,117,109,101,114,97,116,101]) 62 (Value.type "enumerate"),ag P (an #[102,105,108,116,101,114]) 63 (Value.type "filter"),ag P (an #[102,108,111,97,116]) 64 (Value.type "float"),ag P (an #[102,114,111,122,101,110,115,101,116]) 65 (Value.type "frozenset"),ag P (an #[112,114,111,112,101,114,116,121]) 66 (Value.type "property"),ag P (an #[105,110,116]) 67 (Value.type "int"),ag P (an #[108,105,115,116]) 68 (Value.type "list"),ag P (an #[109,97,112]) 69 (Value.type "map"),ag P (an #[111,98,106,101,99,116]) 70 (Value.type "object"),ag P (an #[114,97,110,103,101]) 71 (Value.type "range"),ag P (an #[114,101,118,101,114,115,101,100]) 72 (Value.type "reversed"),ag P (an #[115,101,116]) 73 (Value.type "set"),ag P (an #[115,108,105,99,101]) 74 (Value.type "slice"),ag P (an #[115,116,97,116,105,99,109,101,116,104,111,100]) 75 (Value.type "staticmethod"),ag P (an #[115,116,114]) 76 (Value.type "str"),ag P (an #[115,117,112,101,114]) 77 (Value.type "super"),ag P (an #[116,117,112,108,101]) 78 (Value.type "tuple"),ag P (an #[116,121,112,101]) 79 (Value.type "type"),ag P (an #[122,105,112]) 80 (Value.type "zip"),ag P (an #[95,95,100,101,98,117,103,95,95]) 81 (bF true),ag P (an #[66,97,115,101,69,120,99,101,112,116,105,111,110]) 82 (Value.type "BaseException"),ag P (an #[66,97,115,101,69,120,99,101,112,116,105,111,110,71,114,111,117,112]) 83 (Value.type "BaseExceptionGroup"),ag P (an #[69,120,99,101,112,116,105,111,110]) 84 (Value.type "Exception"),ag P (an #[71,101,110,101,114,97,116,111,114,69,120,105,116]) 85 (Value.type "GeneratorExit"),ag P (an #[75,101,121,98,111,97,114,100,73,110,116,101,114,114,117,112,116]) 86 (Value.type "KeyboardInterrupt"),ag P (an #[83,121,115,116,101,109,69,120,105,116]) 87 (Value.type "SystemExit"),ag P (an #[65,114,105,116,104,109,101,116,105,99,69,114,114,111,114]) 88 (Value.type "ArithmeticError"),ag P (an #[65,115,115,101,114,116,105,111,110,69,114,114,111,114]) 89 (Value.type "AssertionError"),ag P (an #[65,116,116,114,105,98,117,116,101,69,114,114,111,114]) 90 (Value.type "AttributeError"),ag P (an #[66,117,102,102,101,114,69,114,114,111,114]) 91 (Value.type "BufferError"),ag P (an #[69,79,70,69,114,114,111,114]) 92 (Value.type "EOFError"),ag P (an #[73,109,112,111,114,116,69,114,114,111,114]) 93 (Value.type "ImportError"),ag P (an #[76,111,111,107,117,112,69,114,114,111,114]) 94 (Value.type "LookupError"),ag P (an #[77,101,109,111,114,121,69,114,114,111,114]) 95 (Value.type "MemoryError"),ag P (an #[78,97,109,101,69,114,114,111,114]) 96 (Value.type "NameError"),ag P (an #[79,83,69,114,114,111,114]) 97 (Value.type "OSError"),ag P (an #[82,101,102,101,114,101,110,99,101,69,114,114,111,114]) 98 (Value.type "ReferenceError"),ag P (an #[82,117,110,116,105,109,101,69,114,114,111,114]) 99 (Value.type "RuntimeError"),ag P (an #[83,116,111,112,65,115,121,110,99,73,116,101,114,97,116,105,111,110]) 100 (Value.type "StopAsyncIteration"),ag P (an #[83,116,111,112,73,116,101,114,97,116,105,111,110]) 101 (Value.type "StopIteration"),ag P (an #[83,121,110,116,97,120,69,114,114,111,114]) 102 (Value.type "SyntaxError"),ag P (an #[83,121,115,116,101,109,69,114,114,111,114]) 103 (Value.type "SystemError"),ag P (an #[84,121,112,101,69,114,114,111,114]) 104 (Value.type "TypeError"),ag P (an #[86,97,108,117,101,69,114,114,111,114]) 105 (Value.type "ValueError"),ag P (an #[87,97,114,110,105,110,103]) 106 (Value.type "Warning"),ag P (an #[70,108,111,97,116,105,110,103,80,111,105,110,116,69,114,114,111,114]) 107 (Value.type "FloatingPointError"),ag P (an #[79,118,101,114,102,108,111,119,69,114,114,111,114]) 108 (Value.type "OverflowError"),ag P (an #[90,101,114,111,68,105,118,105,115,105,111,110,69,114,114,111,114]) 109 (Value.type "ZeroDivisionError"),ag P (an #[66,121,116,101,115,87,97,114,110,105,110,103]) 110 (Value.type "BytesWarning"),ag P (an #[68,101,112,114,101,99,97,116,105,111,110,87,97,114,110,105,110,103]) 111 (Value.type "DeprecationWarning"),ag P (an #[69,110,99,111,100,105,110,103,87,97,114,110,105,110,103]) 112 (Value.type "EncodingWarning"),ag P (an #[70,117,116,117,114,101,87,97,114,110,105,110,103]) 113 (Value.type "FutureWarning"),ag P (an #[73,109,112,111,114,116,87,97,114,110,105,110,103]) 114 (Value.type "ImportWarning"),ag P (an #[80,101,110,100,105,110,103,68,101,112,114,101,99,97,116,105,111,110,87,97,114,110,105,110,103]) 115 (Value.type "PendingDeprecationWarning"),ag P (an #[82,101,115,111,117,114,99,101,87,97,114,110,105,110,103]) 116 (Value.type "ResourceWarning"),ag P (an #[82,117,110,116,105,109,101,87,97,114,110,105,110,103]) 117 (Value.type "RuntimeWarning"),ag P (an #[83,121,110,116,97,120,87,97,114,110,105,110,103]) 118 (Value.type "SyntaxWarning"),ag P (an #[85,110,105,99,111,100,101,87,97,114,110,105,110,103]) 119 (Value.type "UnicodeWarning"),ag P (an #[85,115,101,114,87,97,114,110,105,110,103]) 120 (Value.type "UserWarning"),ag P (an #[66,108,111,99,107,105,110,103,73,79,69,114,114,111,114]) 121 (Value.type "BlockingIOError"),ag P (an #[67,104,105,108,100,80,114,111,99,101,115,115,69,114,114,111,114]) 122 (Value.type "ChildProcessError"),ag P (an #[67,111,110,110,101,99,116,105,111,110,69,114,114,111,114]) 123 (Value.type "ConnectionError"),ag P (an #[70,105,108,101,69,120,105,115,116,115,69,114,114,111,114]) 124 (Value.type "FileExistsError"),ag P (an #[70,105,108,101,78,111,116,70,111,117,110,100,69,114,114,111,114]) 125 (Value.type "FileNotFoundError"),ag P (an #[73,110,116,101,114,114,117,112,116,101,100,69,114,114,111,114]) 126 (Value.type "InterruptedError"),ag P (an #[73,115,65,68,105,114,101,99,116,111,114,121,69,114,114,111,114]) 127 (Value.type "IsADirectoryError"),ag P (an #[78,111,116,65,68,105,114,101,99,116,111,114,121,69,114,114,111,114]) 128 (Value.type "NotADirectoryError"),ag P (an #[80,101,114,109,105,115,115,105,111,110,69,114,114,111,114]) 129 (Value.type "PermissionError"),ag P (an #[80,114,111,99,101,115,115,76,111,111,107,117,112,69,114,114,111,114]) 130 (Value.type "ProcessLookupError"),ag P (an #[84,105,109,101,111,117,116,69,114,114,111,114]) 131 (Value.type "TimeoutError"),ag P (an #[73,110,100,101,110,116,97,116,105,111,110,69,114,114,111,114]) 132 (Value.type "IndentationError"),ag P (an #[95,73,110,99,111,109,112,108,101,116,101,73,110,112,117,116,69,114,114,111,114]) 133 (Value.type "_IncompleteInputError"),ag P (an #[73,110,100,101,120,69,114,114,111,114]) 134 (Value.type "IndexError"),ag P (an #[75,101,121,69,114,114,111,114]) 135 (Value.type "KeyError"),ag P (an #[77,111,100,117,108,101,78,111,116,70,111,117,110,100,69,114,114,111,114]) 136 (Value.type "ModuleNotFoundError"),ag P (an #[78,111,116,73,109,112,108,101,109,101,110,116,101,100,69,114,114,111,114]) 137 (Value.type "NotImplementedError"),ag P (an #[80,121,116,104,111,110,70,105,110,97,108,105,122,97,116,105,111,110,69,114,114,111,114]) 138 (Value.type "PythonFinalizationError"),ag P (an #[82,101,99,117,114,115,105,111,110,69,114,114,111,114]) 139 (Value.type "RecursionError"),ag P (an #[85,110,98,111,117,110,100,76,111,99,97,108,69,114,114,111,114]) 140 (Value.type "UnboundLocalError"),ag P (an #[85,110,105,99,111,100,101,69,114,114,111,114]) 141 (Value.type "UnicodeError"),ag P (an #[66,114,111,107,101,110,80,105,112,101,69,114,114,111,114]) 142 (Value.type "BrokenPipeError"),ag P (an #[67,111,110,110,101,99,116,105,111,110,65,98,111,114,116,101,100,69,114,114,111,114]) 143 (Value.type "ConnectionAbortedError"),ag P (an #[67,111,110,110,101,99,116,105,111,110,82,101,102,117,115,101,100,69,114,114,111,114]) 144 (Value.type "ConnectionRefusedError"),ag P (an #[67,111,110,110,101,99,116,105,111,110,82,101,115,101,116,69,114,114,111,114]) 145 (Value.type "ConnectionResetError"),ag P (an #[84,97,98,69,114,114,111,114]) 146 (Value.type "TabError"),ag P (an #[85,110,105,99,111,100,101,68,101,99,111,100,101,69,114,114,111,114]) 147 (Value.type "UnicodeDecodeError"),ag P (an #[85,110,105,99,111,100,101,69,110,99,111,100,101,69,114,114,111,114]) 148 (Value.type "UnicodeEncodeError"),ag P (an #[85,110,105,99,111,100,101,84,114,97,110,115,108,97,116,101,69,114,114,111,114]) 149 (Value.type "UnicodeTranslateError"),ag P (an #[69,120,99,101,112,116,105,111,110,71,114,111,117,112]) 150 (Value.type "ExceptionGroup"),ag P (an #[69,110,118,105,114,111,110,109,101,110,116,69,114,114,111,114]) 151 (Value.type "OSError"),ag P (an #[73,79,69,114,114,111,114]) 152 (Value.type "OSError"),ag P (an #[111,112,101,110]) 153 (aX "open"),ag P (an #[113,117,105,116]) 154 (aX "builtins.quit#opaque"),ag P (an #[101,120,105,116]) 155 (aX "builtins.exit#opaque"),ag P w7 156 (aX "builtins.copyright#opaque"),ag P (an #[99,114,101,100,105,116,115]) 157 (aX "builtins.credits#opaque"),ag P (an #[108,105,99,101,110,115,101]) 158 (aX "builtins.license#opaque"),ag P (an #[104,101,108,112]) 159 (aX "builtins.help#opaque")] 159)
def ej (P:Params):Obj:=ay "dict" (cV #[ag P k1 162 (ai 4),ag P kX 163 (ai 5),ag P d9 244 (ai 12)] 3)
def ea (P:Params):Obj:=bh (cV #[ag P (an #[105,109,112,111,114,116,46,108,111,97,100,101,100,46,95,115,114,101]) 183 (bF true),ag P (an #[99,108,97,115,115,46,95,102,114,111,122,101,110,95,105,109,112,111,114,116,108,105,98,46,66,117,105,108,116,105,110,73,109,112,111,114,116,101,114]) 185 (ai 14),ag P (an #[119,97,116,99,104,101,100,46,105,109,112,111,114,116]) 206 (ai 18),ag P (an #[99,108,97,115,115,46,95,102,114,111,122,101,110,95,105,109,112,111,114,116,108,105,98,46,77,111,100,117,108,101,83,112,101,99]) 216 (ai 22),ag P (an #[115,121,115,46,109,111,100,117,108,101,115,46,98,111,111,107,101,100,45,101,112,111,99,104]) 245 (ah 3 0),ag P (an #[105,109,112,111,114,116,46,108,97,116,101,114,45,108,97,105,100,46,95,115,114,101]) 270 (bF true),ag P (an #[119,97,116,99,104,101,100,46,108,105,98,114,97,114,121]) 272 (ai 27),ag P (an #[119,97,116,99,104,101,100,46,108,105,98,114,97,114,121,45,111,98,106,101,99,116,115]) 0 (ad (an #[12]) 0),ag P (an #[119,97,116,99,104,101,100,46,108,105,98,114,97,114,121,45,100,101,101,112,46,95,115,114,101]) 273 (ad (an #[4,0,0,11,4,0,0,11,4,0,0,3,4,0,0,11,8,4,100,105,99,116,2]) 0)] 9)
def xX (P:Params):Obj:=ay "dict" (cV #[ag P k0 165 (ad kX 164),ag P k2 166 ak,ag P k3 167 ak,ag P k4 168 (aX "__main__.__loader__#opaque"),ag P k5 169 ak,ag P gg 170 (ai 6),ag P gh 171 (ai 4),ag P gi 173 (ad bg 172),ag P gk 174 ak,ag P d9 275 (ai 12)] 10)
def el (P:Params):Obj:=iv (Value.type "module") (some 0) Data.plain #[]
def em (P:Params):Obj:=iv (Value.type "module") (some 3) Data.plain #[]
def en (P:Params):Obj:=ay "dict" (cV #[])
def eo (P:Params):Obj:=ay "tuple" (aR #[])
def es (P:Params):Obj:=bh (aY #[])
def et (P:Params):Obj:=ay "code" (aY #[ad qk 176,ad qk 177,ad bg 178,ah 1 0,ah 0 0,ah 0 0,ah 0 0,ah 0 0,ai 7,bF false,ah 175 0,ai 8,ak,ak,ak,ak,ah 179 0,ah 1 0,ad bg 180])
def eu (P:Params):Obj:=iv (Value.type "frame") none Data.plain #[some (ai 9),some (ai 3),some (ai 3),none,some (ad kX 164),none,some (ai 0)]
def ew (P:Params):Obj:=ay "dict" (cV #[ag P k0 247 (ad d9 246),ag P k2 248 ak,ag P k3 250 (ad tV 249),ag P k4 251 (aX "off-the-table:_sre.__loader__:shared#opaque"),ag P k5 252 (aX "off-the-table:_sre.__spec__:shared#opaque"),ag P w6 253 (aX "_sre.compile"),ag P (an #[116,101,109,112,108,97,116,101]) 254 (aX "off-the-table:_sre.template:shared#opaque"),ag P (an #[103,101,116,99,111,100,101,115,105,122,101]) 255 (aX "off-the-table:_sre.getcodesize:shared#opaque"),ag P (an #[97,115,99,105,105,95,105,115,99,97,115,101,100]) 256 (aX "off-the-table:_sre.ascii_iscased:shared#opaque"),ag P (an #[117,110,105,99,111,100,101,95,105,115,99,97,115,101,100]) 257 (aX "off-the-table:_sre.unicode_iscased:shared#opaque"),ag P (an #[97,115,99,105,105,95,116,111,108,111,119,101,114]) 258 (aX "off-the-table:_sre.ascii_tolower:shared#opaque"),ag P (an #[117,110,105,99,111,100,101,95,116,111,108,111,119,101,114]) 259 (aX "off-the-table:_sre.unicode_tolower:shared#opaque"),ag P (an #[77,65,71,73,67]) 261 (ah 20230612 260),ag P (an #[67,79,68,69,83,73,90,69]) 263 (ah 4 262),ag P (an #[77,65,88,82,69,80,69,65,84]) 265 (ah 4294967295 264),ag P (an #[77,65,88,71,82,79,85,80,83]) 267 (ah 1073741823 266),ag P w7 269 (ad (an #[32,83,82,69,32,50,46,50,46,50,32,67,111,112,121,114,105,103,104,116,32,40,99,41,32,49,57,57,55,45,50,48,48,50,32,98,121,32,83,101,99,114,101,116,32,76,97,98,115,32,65,66,32]) 268)] 17)
def ex (P:Params):Obj:=iv (Value.type "module") (some 11) Data.plain #[]
def ey (P:Params):Obj:=ay "dict" (cV #[ag P lQ 189 (ad w9 186),ag P lR 190 (ah 971 187),ag P k2 191 (aX "_frozen_importlib.BuiltinImporter.__doc__:str#opaque"),ag P (an #[95,79,82,73,71,73,78]) 192 (ad xa 188),ag P (an #[102,105,110,100,95,115,112,101,99]) 193 (aX "_frozen_importlib.BuiltinImporter.find_spec#opaque"),ag P (an #[99,114,101,97,116,101,95,109,111,100,117,108,101]) 194 (aX "_frozen_importlib.BuiltinImporter.create_module#opaque"),ag P (an #[101,120,101,99,95,109,111,100,117,108,101]) 195 (aX "_frozen_importlib.BuiltinImporter.exec_module#opaque"),ag P (an #[103,101,116,95,99,111,100,101]) 196 (aX "_frozen_importlib.BuiltinImporter.get_code#opaque"),ag P (an #[103,101,116,95,115,111,117,114,99,101]) 197 (aX "_frozen_importlib.BuiltinImporter.get_source#opaque"),ag P (an #[105,115,95,112,97,99,107,97,103,101]) 198 (aX "_frozen_importlib.BuiltinImporter.is_package#opaque"),ag P (an #[108,111,97,100,95,109,111,100,117,108,101]) 199 (aX "_frozen_importlib.BuiltinImporter.load_module#opaque"),ag P lS 200 (ai 15),ag P qm 202 (ai 16),ag P qn 204 (ai 17)] 14)
def ez (P:Params):Obj:=ay "type" (Data.cls (ClassData.mk xb [Value.type "object"] [ai 14,Value.type "object"] 13 xb true [] [] false none false))
def eA (P:Params):Obj:=ay "tuple" (aR #[])
def eB (P:Params):Obj:=ay "getset_descriptor" (aY #[ad qm 201,ai 14,aX "function.__dict__",aX "function.__dict__#set"])
def eC (P:Params):Obj:=ay "getset_descriptor" (aY #[ad qn 203,ai 14,aX "ExceptionGroup.__weakref__",ak])
def eD (P:Params):Obj:=bh (aR #[ah 13 0,ad (an #[6,189,10,95,95,109,111,100,117,108,101,95,95,6,186,17,95,102,114,111,122,101,110,95,105,109,112,111,114,116,108,105,98,6,190,15,95,95,102,105,114,115,116,108,105,110,101,110,111,95,95,4,187,0,971,6,191,7,95,95,100,111,99,95,95,9,52,95,102,114,111,122,101,110,95,105,109,112,111,114,116,108,105,98,46,66,117,105,108,116,105,110,73,109,112,111,114,116,101,114,46,95,95,100,111,99,95,95,58,115,116,114,35,111,112,97,113,117,101,6,192,7,95,79,82,73,71,73,78,6,188,8,98,117,105,108,116,45,105,110,6,193,9,102,105,110,100,95,115,112,101,99,9,50,95,102,114,111,122,101,110,95,105,109,112,111,114,116,108,105,98,46,66,117,105,108,116,105,110,73,109,112,111,114,116,101,114,46,102,105,110,100,95,115,112,101,99,35,111,112,97,113,117,101,6,194,13,99,114,101,97,116,101,95,109,111,100,117,108,101,9,54,95,102,114,111,122,101,110,95,105,109,112,111,114,116,108,105,98,46,66,117,105,108,116,105,110,73,109,112,111,114,116,101,114,46,99,114,101,97,116,101,95,109,111,100,117,108,101,35,111,112,97,113,117,101,6,195,11,101,120,101,99,95,109,111,100,117,108,101,9,52,95,102,114,111,122,101,110,95,105,109,112,111,114,116,108,105,98,46,66,117,105,108,116,105,110,73,109,112,111,114,116,101,114,46,101,120,101,99,95,109,111,100,117,108,101,35,111,112,97,113,117,101,6,196,8,103,101,116,95,99,111,100,101,9,49,95,102,114,111,122,101,110,95,105,109,112,111,114,116,108,105,98,46,66,117,105,108,116,105,110,73,109,112,111,114,116,101,114,46,103,101,116,95,99,111,100,101,35,111,112,97,113,117,101,6,197,10,103,101,116,95,115,111,117,114,99,101,9,51,95,102,114,111,122,101,110,95,105,109,112,111,114,116,108,105,98,46,66,117,105,108,116,105,110,73,109,112,111,114,116,101,114,46,103,101,116,95,115,111,117,114,99,101,35,111,112,97,113,117,101,6,198,10,105,115,95,112,97,99,107,97,103,101,9,51,95,102,114,111,122,101,110,95,105,109,112,111,114,116,108,105,98,46,66,117,105,108,116,105,110,73,109,112,111,114,116,101,114,46,105,115,95,112,97,99,107,97,103,101,35,111,112,97,113,117,101,6,199,11,108,111,97,100,95,109,111,100,117,108,101,9,52,95,102,114,111,122,101,110,95,105,109,112,111,114,116,108,105,98,46,66,117,105,108,116,105,110,73,109,112,111,114,116,101,114,46,108,111,97,100,95,109,111,100,117,108,101,35,111,112,97,113,117,101,6,200,21,95,95,115,116,97,116,105,99,95,97,116,116,114,105,98,117,116,101,115,95,95,4,0,0,15,6,202,8,95,95,100,105,99,116,95,95,4,0,0,16,6,204,11,95,95,119,101,97,107,114,101,102,95,95,4,0,0,17]) 0,bF true,bF true,ad tV 205,ah 21 0,ad (an #[6,227,10,95,95,109,111,100,117,108,101,95,95,6,217,17,95,102,114,111,122,101,110,95,105,109,112,111,114,116,108,105,98,6,228,15,95,95,102,105,114,115,116,108,105,110,101,110,111,95,95,4,218,0,562,6,229,7,95,95,100,111,99,95,95,9,47,95,102,114,111,122,101,110,95,105,109,112,111,114,116,108,105,98,46,77,111,100,117,108,101,83,112,101,99,46,95,95,100,111,99,95,95,58,115,116,114,35,111,112,97,113,117,101,6,230,8,95,95,105,110,105,116,95,95,9,44,95,102,114,111,122,101,110,95,105,109,112,111,114,116,108,105,98,46,77,111,100,117,108,101,83,112,101,99,46,95,95,105,110,105,116,95,95,35,111,112,97,113,117,101,6,231,8,95,95,114,101,112,114,95,95,9,44,95,102,114,111,122,101,110,95,105,109,112,111,114,116,108,105,98,46,77,111,100,117,108,101,83,112,101,99,46,95,95,114,101,112,114,95,95,35,111,112,97,113,117,101,6,232,6,95,95,101,113,95,95,9,42,95,102,114,111,122,101,110,95,105,109,112,111,114,116,108,105,98,46,77,111,100,117,108,101,83,112,101,99,46,95,95,101,113,95,95,35,111,112,97,113,117,101,6,233,6,99,97,99,104,101,100,9,42,95,102,114,111,122,101,110,95,105,109,112,111,114,116,108,105,98,46,77,111,100,117,108,101,83,112,101,99,46,99,97,99,104,101,100,35,111,112,97,113,117,101,6,234,6,112,97,114,101,110,116,9,42,95,102,114,111,122,101,110,95,105,109,112,111,114,116,108,105,98,46,77,111,100,117,108,101,83,112,101,99,46,112,97,114,101,110,116,35,111,112,97,113,117,101,6,235,12,104,97,115,95,108,111,99,97,116,105,111,110,9,48,95,102,114,111,122,101,110,95,105,109,112,111,114,116,108,105,98,46,77,111,100,117,108,101,83,112,101,99,46,104,97,115,95,108,111,99,97,116,105,111,110,35,111,112,97,113,117,101,6,236,21,95,95,115,116,97,116,105,99,95,97,116,116,114,105,98,117,116,101,115,95,95,4,0,0,23,6,238,8,95,95,100,105,99,116,95,95,4,0,0,24,6,240,11,95,95,119,101,97,107,114,101,102,95,95,4,0,0,25,6,241,8,95,95,104,97,115,104,95,95,0]) 0,bF true,bF true,ad tV 242] 1)
def eE (P:Params):Obj:=ay "list" (aR #[])
def eF (P:Params):Obj:=ay "dict" (cV #[ag P xc 208 (ad d9 207),ag P xd 209 (ai 14),ag P xe 210 (ad xa 184),ag P xf 211 ak,ag P xg 212 ak,ag P xh 213 (ai 19),ag P xi 214 (bF false),ag P xj 215 ak,ag P (an #[95,105,110,105,116,105,97,108,105,122,105,110,103]) 243 (bF false)] 9)
def eG (P:Params):Obj:=ay "dict" (cV #[ag P lQ 227 (ad w9 217),ag P lR 228 (ah 562 218),ag P k2 229 (aX "_frozen_importlib.ModuleSpec.__doc__:str#opaque"),ag P (an #[95,95,105,110,105,116,95,95]) 230 (aX "_frozen_importlib.ModuleSpec.__init__#opaque"),ag P (an #[95,95,114,101,112,114,95,95]) 231 (aX "_frozen_importlib.ModuleSpec.__repr__#opaque"),ag P (an #[95,95,101,113,95,95]) 232 (aX "_frozen_importlib.ModuleSpec.__eq__#opaque"),ag P (an #[99,97,99,104,101,100]) 233 (aX "_frozen_importlib.ModuleSpec.cached#opaque"),ag P xk 234 (aX "_frozen_importlib.ModuleSpec.parent#opaque"),ag P (an #[104,97,115,95,108,111,99,97,116,105,111,110]) 235 (aX "_frozen_importlib.ModuleSpec.has_location#opaque"),ag P lS 236 (ai 23),ag P qm 238 (ai 24),ag P qn 240 (ai 25),ag P (an #[95,95,104,97,115,104,95,95]) 241 ak] 13)
def eH (P:Params):Obj:=ay "type" (Data.cls (ClassData.mk xl [Value.type "object"] [ai 22,Value.type "object"] 21 xl true [] [] false none false))
def eI (P:Params):Obj:=ay "tuple" (aR #[ad xj 219,ad xi 220,ad xh 221,ad xd 222,ad xf 223,ad xc 224,ad xe 225,ad xg 226])
def eJ (P:Params):Obj:=ay "getset_descriptor" (aY #[ad qm 237,ai 22,aX "function.__dict__",aX "function.__dict__#set"])
def eK (P:Params):Obj:=ay "getset_descriptor" (aY #[ad qn 239,ai 22,aX "ExceptionGroup.__weakref__",ak])
def eL (P:Params):Obj:=iv (ai 22) (some 20) Data.plain #[]
def eM (P:Params):Obj:=bh (aR #[ah 11 0,ad (Str.mk #[6,247,8,95,95,110,97,109,101,95,95,6,246,4,95,115,114,101,6,248,7,95,95,100,111,99,95,95,0,6,250,11,95,95,112,97,99,107,97,103,101,95,95,6,249,0,6,251,10,95,95,108,111,97,100,101,114,95,95,4,0,0,14,6,252,8,95,95,115,112,101,99,95,95,4,0,0,26,6,253,7,99,111,109,112,105,108,101,9,12,95,115,114,101,46,99,111,109,112,105,108,101,6,254,8,116,101,109,112,108,97,116,101,9,13,95,115,114,101,46,116,101,109,112,108,97,116,101,6,255,11,103,101,116,99,111,100,101,115,105,122,101,9,16,95,115,114,101,46,103,101,116,99,111,100,101,115,105,122,101,6,256,13,97,115,99,105,105,95,105,115,99,97,115,101,100,9,18,95,115,114,101,46,97,115,99,105,105,95,105,115,99,97,115,101,100,6,257,15,117,110,105,99,111,100,101,95,105,115,99,97,115,101,100,9,20,95,115,114,101,46,117,110,105,99,111,100,101,95,105,115,99,97,115,101,100,6,258,13,97,115,99,105,105,95,116,111,108,111,119,101,114,9,18,95,115,114,101,46,97,115,99,105,105,95,116,111,108,111,119,101,114,6,259,15,117,110,105,99,111,100,101,95,116,111,108,111,119,101,114,9,20,95,115,114,101,46,117,110,105,99,111,100,101,95,116,111,108,111,119,101,114,6,261,5,77,65,71,73,67,4,260,0,20230612,6,263,8,67,79,68,69,83,73,90,69,4,262,0,4,6,265,9,77,65,88,82,69,80,69,65,84,4,264,0,4294967295,6,267,9,77,65,88,71,82,79,85,80,83,4,266,0,1073741823,6,269,9,99,111,112,121,114,105,103,104,116,6,268,53,32,83,82,69,32,50,46,50,46,50,32,67,111,112,121,114,105,103,104,116,32,40,99,41,32,49,57,57,55,45,50,48,48,50,32,98,121,32,83,101,99,114,101,116,32,76,97,98,115,32,65,66,32]) 0,bF true,bF false,ad d9 271])
def e6 (P:Params):Obj:=ay "tuple" (aR #[])
def Dv (P:Params):Obj:=bh (aY #[])
def e9 (P:Params):Obj:=ay "code" (aY #[ad qk 277,ad qk 278,ad bg 279,ah 1 0,ah 0 0,ah 0 0,ah 0 0,ah 0 0,ai 28,bF false,ah 276 0,ai 29,ak,ak,ak,ak,ah 280 0,ah 1 0,ad bg 281])
def fa (P:Params):Obj:=iv (Value.type "frame") none Data.plain #[some (ai 30),some (ai 3),some (ai 3),none,some (ad kX 164),none,some (ai 0)]
def xY (P:Params):Obj:=ay "dict" (cV #[ag P k0 165 (ad kX 164),ag P k2 166 ak,ag P k3 167 ak,ag P k4 168 (aX "__main__.__loader__#opaque"),ag P k5 169 ak,ag P gg 170 (ai 6),ag P gh 171 (ai 4),ag P gi 173 (ad bg 172),ag P gk 174 ak,ag P d9 275 (ai 12),ag P dY 288 (ai 38),ag P gm 323 (ai 43),ag P gn 325 (ad fZ 324)] 13)
def jg (P:Params):Obj:=bh (aY #[ah 2 0,ah 0 0,ai 37])
def ft (P:Params):Obj:=ay "tuple" (aR #[])
def fu (P:Params):Obj:=bh (aY #[])
def fv (P:Params):Obj:=ay "tuple" (aR #[ad nR 285])
def fw (P:Params):Obj:=ay "tuple" (aR #[])
def fx (P:Params):Obj:=bh (bq (br dY dY (bC 1) (FuncBody.stmts (bD 1)) (bE 1) 0 [] ak ak ak ak none ak ak 0))
def fy (P:Params):Obj:=ay "code" (aY #[ad dY 282,ad dY 283,ad bg 284,ah 2 0,ah 1 0,ah 0 0,ah 0 0,ah 3 0,ai 32,bF true,ah 276 0,ai 33,ak,ai 34,ai 35,ai 36,ah 286 0,ah 2 0,ad bg 287])
def fz (P:Params):Obj:=ay "function" (bq (br dY dY (bC 1) (FuncBody.stmts (bD 1)) (bE 1) 3 [] ak ak ak (ad kX 164) none (ai 37) ak 0))
def fA (P:Params):Obj:=ay "list" (aR #[ah 14 292,ah 8 293,ah 1 294,ah 3 295,ah 3 296,ah 1 297,ah 1 298,ah 61 299,ah 0 300,ah 16 301,ah 61 302,ah 24 303,ah 16 304,ah 2 305,ah 2 306,ah 13 307,ah 11 308,ah 9 309,ah 0 310,ah 67043328 311,ah 126 312,ah 126 313,ah 0 314,ah 0 315,ah 0 316,ah 0 317,ah 0 318,ah 1 319,ah 1 320])
def fC (P:Params):Obj:=ay "dict" (cV #[])
def fF (P:Params):Obj:=ay "tuple" (aR #[ak])
def fH (P:Params):Obj:=ay "tuple" (aR #[ah 14 0,ah 8 0,ah 1 0,ah 3 0,ah 3 0,ah 1 0,ah 1 0,ah 61 0,ah 0 0,ah 16 0,ah 61 0,ah 24 0,ah 16 0,ah 2 0,ah 2 0,ah 13 0,ah 11 0,ah 9 0,ah 0 0,ah 67043328 0,ah 126 0,ah 126 0,ah 0 0,ah 0 0,ah 0 0,ah 0 0,ah 0 0,ah 1 0,ah 1 0])
def fI (P:Params):Obj:=ay "re.Pattern" (aY #[ad (an #[61,91,97,45,102,65,45,70,48,45,57,93,123,50,125]) 290,ah 256 322,ah 0 0,ak,ak,ai 42,ah 0 0])
def f0 (P:Params):Obj:=ay "range" (aY #[ah 0 327,ah 256 326,ah 1 328])
def Dw (P:Params):Obj:=ay "range_iterator" (aY #[ah 1 0,ah 255 0,ah 1 0])
def Dx (P:Params):Obj:=ay "list" (aR #[ad (an #[61,48,48]) 332] 1)
def Dy (P:Params):Obj:=ay "dict" (cV #[ag P gp 330 (ah 0 329)] 1)
def Dz (P:Params):Obj:=ay "dict" (cV #[ag P k0 165 (ad kX 164),ag P k2 166 ak,ag P k3 167 ak,ag P k4 168 (aX "__main__.__loader__#opaque"),ag P k5 169 ak,ag P gg 170 (ai 6),ag P gh 171 (ai 4),ag P gi 173 (ad bg 172),ag P gk 174 ak,ag P d9 275 (ai 12),ag P dY 288 (ai 38),ag P gm 323 (ai 43),ag P gn 325 (ad fZ 324),ag P gS 1353 (ai 46)] 14)
def gq (P:Params):Obj:=ay "range_iterator" (aY #[ah 256 0,ah 0 0,ah 1 0])
def f1 (P:Params):Obj:=ay "list" (aR je.toArray 256)
def gr (P:Params):Obj:=ay "dict" (cV #[] 2)
def gt (P:Params):Obj:=ay "tuple" (aR #[])
def gu (P:Params):Obj:=ay "StopIteration" (aY #[ai 48,ak,ak,ak,bF false,ak])
def DA (P:Params):Obj:=ay "dict" (cV #[ag P k0 165 (ad g9 1369),ag P k2 166 ak,ag P k3 167 ak,ag P k4 168 (aX "__main__.__loader__#opaque"),ag P k5 169 ak,ag P gg 170 (ai 6),ag P gh 171 (ai 4),ag P gi 173 (ad bg 172),ag P gk 174 ak,ag P d9 275 (ai 12),ag P dY 288 (ai 38),ag P gm 323 (ai 43),ag P gn 325 (ad fZ 324),ag P gS 1353 (ai 46),ag P he 1354 (ai 51),ag P hg 1355 (ai 53),ag P hy 1357 (ad iw 1356),ag P hD 1359 (ad iz 1358),ag P hE 1361 (ad iA 1360),ag P hG 1363 (ad iB 1362),ag P hI 1368 (ad iC 1367)] 21)
def gY (P:Params):Obj:=ay "slice" (aY #[ak,ak,ak])
def DB (P:Params):Obj:=ay "list" (aR je.toArray)
def gZ (P:Params):Obj:=ay "slice" (aY #[ak,ak,ak])
def rx (P:Params):Obj:=ay "list" (aR je.toArray)
def DC (P:Params):Obj:=ay "dict" (cV #[ag P k0 165 (ad g9 1369),ag P k2 166 ak,ag P k3 167 ak,ag P k4 168 (aX "__main__.__loader__#opaque"),ag P k5 169 ak,ag P gg 170 (ai 6),ag P gh 171 (ai 4),ag P gi 173 (ad bg 172),ag P gk 174 ak,ag P d9 275 (ai 12),ag P dY 288 (ai 38),ag P gm 323 (ai 43),ag P gn 325 (ad fZ 324),ag P gS 1353 (ai 46),ag P he 1354 (ai 51),ag P hg 1355 (ai 53),ag P hy 1357 (ad iw 1356),ag P hD 1359 (ad iz 1358),ag P hE 1361 (ad iA 1360),ag P hG 1363 (ad iB 1362),ag P hI 1368 (ad iC 1367),ag P gp 1379 (ah 33 1381)] 22)
def DD (P:Params):Obj:=ay "list" (aR (jf je 0 [(33,ad lT 1383),(45,ad nT 1380)]).toArray)
def DE (P:Params):Obj:=ay "bytes_iterator" (aY #[Value.bytes #[45,33,42,43,47,97,98,99,100,101,102,103,104,105,106,107,108,109,110,111,112,113,114,115,116,117,118,119,120,121,122,65,66,67,68,69,70,71,72,73,74,75,76,77,78,79,80,81,82,83,84,85,86,87,88,89,90,48,49,50,51,52,53,54,55,56,57] 1377,ah 2 0])
def xZ (P:Params):Obj:=ay "dict" (cV #[ag P k0 165 (ad g9 1369),ag P k2 166 ak,ag P k3 167 ak,ag P k4 168 (aX "__main__.__loader__#opaque"),ag P k5 169 ak,ag P gg 170 (ai 6),ag P gh 171 (ai 4),ag P gi 173 (ad bg 172),ag P gk 174 ak,ag P d9 275 (ai 12),ag P dY 288 (ai 38),ag P gm 323 (ai 43),ag P gn 325 (ad fZ 324),ag P gS 1353 (ai 46),ag P he 1354 (ai 51),ag P hg 1355 (ai 53),ag P hy 1357 (ad iw 1356),ag P hD 1359 (ad iz 1358),ag P hE 1361 (ad iA 1360),ag P hG 1363 (ad iB 1362),ag P hI 1368 (ad iC 1367),ag P gp 1379 (ah 57 1576)] 22)
def DF (P:Params):Obj:=ay "list" (aR (jf je 0 [(33,ad lT 1383),(42,ad qo 1386),(43,ad qp 1389),(45,ad nT 1380),(47,ad qq 1392),(48,ad qr 1551),(49,ad qs 1554),(50,ad qt 1557),(51,ad qu 1560),(52,ad qw 1563),(53,ad qx 1566),(54,ad qy 1569),(55,ad qz 1572),(56,ad qA 1575),(57,ad qB 1578),(65,ad qC 1473),(66,ad qH 1476),(67,ad kY 1479),(68,ad qI 1482),(69,ad qJ 1485),(70,ad qK 1488),(71,ad qL 1491),(72,ad qM 1494),(73,ad qN 1497),(74,ad qO 1500),(75,ad qP 1503),(76,ad qQ 1506),(77,ad qR 1509),(78,ad qS 1512),(79,ad qT 1515),(80,ad qU 1518),(81,ad qV 1521),(82,ad qW 1524),(83,ad qX 1527),(84,ad qY 1530),(85,ad qZ 1533),(86,ad q0 1536),(87,ad q4 1539),(88,ad q5 1542),(89,ad q6 1545),(90,ad q7 1548),(97,ad nU 1395),(98,ad nV 1398),(99,ad gp 1401),(100,ad q8 1404),(101,ad q9 1407),(102,ad rb 1410),(103,ad rc 1413),(104,ad rd 1416),(105,ad jW 1419),(106,ad rf 1422),(107,ad nR 1425),(108,ad rg 1428),(109,ad rh 1431),(110,ad nW 1434),(111,ad ri 1437),(112,ad i6 1440),(113,ad rj 1443),(114,ad rk 1446),(115,ad jX 1449),(116,ad rl 1452),(117,ad rm 1455),(118,ad ro 1458),(119,ad rp 1461),(120,ad nX 1464),(121,ad rq 1467),(122,ad rr 1470)]).toArray)
def iE (P:Params):Obj:=ay "bytes_iterator" (aY #[ak,ah 67 0])
def iF (P:Params):Obj:=ay "tuple" (aR #[])
def iG (P:Params):Obj:=ay "StopIteration" (aY #[ai 55,ak,ak,ak,bF false,ak])
def jh (P:Params):Obj:=ay "list" (aR (jf je 0 [(32,ad rs 1579),(33,ad lT 1383),(42,ad qo 1386),(43,ad qp 1389),(45,ad nT 1380),(47,ad qq 1392),(48,ad qr 1551),(49,ad qs 1554),(50,ad qt 1557),(51,ad qu 1560),(52,ad qw 1563),(53,ad qx 1566),(54,ad qy 1569),(55,ad qz 1572),(56,ad qA 1575),(57,ad qB 1578),(65,ad qC 1473),(66,ad qH 1476),(67,ad kY 1479),(68,ad qI 1482),(69,ad qJ 1485),(70,ad qK 1488),(71,ad qL 1491),(72,ad qM 1494),(73,ad qN 1497),(74,ad qO 1500),(75,ad qP 1503),(76,ad qQ 1506),(77,ad qR 1509),(78,ad qS 1512),(79,ad qT 1515),(80,ad qU 1518),(81,ad qV 1521),(82,ad qW 1524),(83,ad qX 1527),(84,ad qY 1530),(85,ad qZ 1533),(86,ad q0 1536),(87,ad q4 1539),(88,ad q5 1542),(89,ad q6 1545),(90,ad q7 1548),(97,ad nU 1395),(98,ad nV 1398),(99,ad gp 1401),(100,ad q8 1404),(101,ad q9 1407),(102,ad rb 1410),(103,ad rc 1413),(104,ad rd 1416),(105,ad jW 1419),(106,ad rf 1422),(107,ad nR 1425),(108,ad rg 1428),(109,ad rh 1431),(110,ad nW 1434),(111,ad ri 1437),(112,ad i6 1440),(113,ad rj 1443),(114,ad rk 1446),(115,ad jX 1449),(116,ad rl 1452),(117,ad rm 1455),(118,ad ro 1458),(119,ad rp 1461),(120,ad nX 1464),(121,ad rq 1467),(122,ad rr 1470)]).toArray)
def DG (P:Params):Obj:=ay "dict" (cV #[ag P k0 165 (ad g9 1369),ag P k2 166 ak,ag P k3 167 ak,ag P k4 168 (aX "__main__.__loader__#opaque"),ag P k5 169 ak,ag P gg 170 (ai 6),ag P gh 171 (ai 4),ag P gi 173 (ad bg 172),ag P gk 174 ak,ag P d9 275 (ai 12),ag P dY 288 (ai 38),ag P gm 323 (ai 43),ag P gn 325 (ad fZ 324),ag P gS 1353 (ai 46),ag P he 1354 (ai 51),ag P hg 1355 (ai 53),ag P hy 1357 (ad iw 1356),ag P hD 1359 (ad iz 1358),ag P hE 1361 (ad iA 1360),ag P hG 1363 (ad iB 1362),ag P hI 1368 (ad iC 1367),ag P gp 1379 (ah 33 1586)] 22)
def DH (P:Params):Obj:=ay "list" (aR (jf je 0 [(32,ad tW 1585),(33,ad lT 1588)]).toArray)
def DI (P:Params):Obj:=ay "bytes_iterator" (aY #[Value.bytes #[32,33,34,35,36,37,38,39,40,41,42,43,44,45,46,47,48,49,50,51,52,53,54,55,56,57,58,59,60,62,63,64,65,66,67,68,69,70,71,72,73,74,75,76,77,78,79,80,81,82,83,84,85,86,87,88,89,90,91,92,93,94,95,96,97,98,99,100,101,102,103,104,105,106,107,108,109,110,111,112,113,114,115,116,117,118,119,120,121,122,123,124,125,126,9] 1582,ah 2 0])
def DJ (P:Params):Obj:=ay "dict" (cV #[ag P k0 165 (ad g9 1369),ag P k2 166 ak,ag P k3 167 ak,ag P k4 168 (aX "__main__.__loader__#opaque"),ag P k5 169 ak,ag P gg 170 (ai 6),ag P gh 171 (ai 4),ag P gi 173 (ad bg 172),ag P gk 174 ak,ag P d9 275 (ai 12),ag P dY 288 (ai 38),ag P gm 323 (ai 43),ag P gn 325 (ad fZ 324),ag P gS 1353 (ai 46),ag P he 1354 (ai 51),ag P hg 1355 (ai 53),ag P hy 1357 (ad iw 1356),ag P hD 1359 (ad iz 1358),ag P hE 1361 (ad iA 1360),ag P hG 1363 (ad iB 1362),ag P hI 1368 (ad iC 1367),ag P gp 1379 (ah 9 1865)] 22)
def kZ (P:Params):Obj:=ay "list" (aR (jf je 0 [(9,ad xm 1867),(32,ad tW 1585),(33,ad lT 1588),(34,ad xn 1591),(35,ad xo 1594),(36,ad xp 1597),(37,ad xq 1600),(38,ad xr 1603),(39,ad xt 1606),(40,ad xu 1609),(41,ad xv 1612),(42,ad qo 1615),(43,ad qp 1618),(44,ad xw 1621),(45,ad nT 1624),(46,ad xx 1627),(47,ad qq 1630),(48,ad qr 1633),(49,ad qs 1636),(50,ad qt 1639),(51,ad qu 1642),(52,ad qw 1645),(53,ad qx 1648),(54,ad qy 1651),(55,ad qz 1654),(56,ad qA 1657),(57,ad qB 1660),(58,ad xy 1663),(59,ad xz 1666),(60,ad xA 1669),(62,ad xB 1672),(63,ad xC 1675),(64,ad xD 1678),(65,ad qC 1681),(66,ad qH 1684),(67,ad kY 1687),(68,ad qI 1690),(69,ad qJ 1693),(70,ad qK 1696),(71,ad qL 1699),(72,ad qM 1702),(73,ad qN 1705),(74,ad qO 1708),(75,ad qP 1711),(76,ad qQ 1714),(77,ad qR 1717),(78,ad qS 1720),(79,ad qT 1723),(80,ad qU 1726),(81,ad qV 1729),(82,ad qW 1732),(83,ad qX 1735),(84,ad qY 1738),(85,ad qZ 1741),(86,ad q0 1744),(87,ad q4 1747),(88,ad q5 1750),(89,ad q6 1753),(90,ad q7 1756),(91,ad xE 1759),(92,ad xF 1762),(93,ad xG 1765),(94,ad xH 1768),(95,ad rs 1771),(96,ad xI 1774),(97,ad nU 1777),(98,ad nV 1780),(99,ad gp 1783),(100,ad q8 1786),(101,ad q9 1789),(102,ad rb 1792),(103,ad rc 1795),(104,ad rd 1798),(105,ad jW 1801),(106,ad rf 1804),(107,ad nR 1807),(108,ad rg 1810),(109,ad rh 1813),(110,ad nW 1816),(111,ad ri 1819),(112,ad i6 1822),(113,ad rj 1825),(114,ad rk 1828),(115,ad jX 1831),(116,ad rl 1834),(117,ad rm 1837),(118,ad ro 1840),(119,ad rp 1843),(120,ad nX 1846),(121,ad rq 1849),(122,ad rr 1852),(123,ad xJ 1855),(124,ad xK 1858),(125,ad xL 1861),(126,ad xM 1864)]).toArray)
def k6 (P:Params):Obj:=ay "bytes_iterator" (aY #[ak,ah 95 0])
def k9 (P:Params):Obj:=ay "tuple" (aR #[])
def la (P:Params):Obj:=ay "StopIteration" (aY #[ai 58,ak,ak,ak,bF false,ak])
def DK (P:Params):Obj:=ay "dict" (cV #[ag P k0 165 (ad g9 1369),ag P k2 166 ak,ag P k3 167 ak,ag P k4 168 (aX "__main__.__loader__#opaque"),ag P k5 169 ak,ag P gg 170 (ai 6),ag P gh 171 (ai 4),ag P gi 173 (ad bg 172),ag P gk 174 ak,ag P d9 275 (ai 12),ag P dY 288 (ai 38),ag P gm 323 (ai 43),ag P gn 325 (ad fZ 324),ag P gS 1353 (ai 46),ag P he 1354 (ai 51),ag P hg 1355 (ai 53),ag P hy 1357 (ad iw 1356),ag P hD 1359 (ad iz 1358),ag P hE 1361 (ad iA 1360),ag P hG 1363 (ad iB 1362),ag P hI 1368 (ad iC 1367),ag P gT 1874 (ai 66),ag P gU 1881 (ai 73),ag P lU 1882 (ai 75),ag P gV 1902 (ai 86),ag P gW 1910 (ai 93),ag P gX 1917 (ai 100)] 29)
def DL (P:Params):Obj:=bh (aY #[ah 2 0,ah 0 0,ai 37,ah 21 0,ah 0 0,ai 65,ah 23 0,ah 0 0,ai 72,ah 29 0,ah 0 0,ai 85,ah 59 0,ah 0 0,ai 92,ah 62 0,ah 0 0,ai 99])
def lW (P:Params):Obj:=ay "tuple" (aR #[])
def lX (P:Params):Obj:=bh (aY #[])
def lY (P:Params):Obj:=ay "tuple" (aR #[ad jX 1871])
def lZ (P:Params):Obj:=ay "tuple" (aR #[])
def l1 (P:Params):Obj:=bh (bq (br gT gT (bC 16) (FuncBody.stmts (bD 16)) (bE 16) 0 [] ak ak ak ak none ak ak 0))
def l6 (P:Params):Obj:=ay "code" (aY #[ad gT 1868,ad gT 1869,ad bg 1870,ah 21 0,ah 1 0,ah 0 0,ah 0 0,ah 3 0,ai 60,bF true,ah 276 0,ai 61,ak,ai 62,ai 63,ai 64,ah 1872 0,ah 21 0,ad bg 1873])
def ma (P:Params):Obj:=ay "function" (bq (br gT gT (bC 16) (FuncBody.stmts (bD 16)) (bE 16) 3 [] ak ak ak (ad g9 1369) none (ai 65) ak 0))
def mc (P:Params):Obj:=ay "tuple" (aR #[])
def md (P:Params):Obj:=bh (aY #[])
def me (P:Params):Obj:=ay "tuple" (aR #[ad gp 1878])
def mh (P:Params):Obj:=ay "tuple" (aR #[])
def mi (P:Params):Obj:=bh (bq (br gU gU (bC 17) (FuncBody.stmts (bD 17)) (bE 17) 0 [] ak ak ak ak none ak ak 0))
def mj (P:Params):Obj:=ay "code" (aY #[ad gU 1875,ad gU 1876,ad bg 1877,ah 23 0,ah 1 0,ah 0 0,ah 0 0,ah 3 0,ai 67,bF true,ah 276 0,ai 68,ak,ai 69,ai 70,ai 71,ah 1879 0,ah 23 0,ad bg 1880])
def ml (P:Params):Obj:=ay "function" (bq (br gU gU (bC 17) (FuncBody.stmts (bD 17)) (bE 17) 3 [] ak ak ak (ad g9 1369) none (ai 72) ak 0))
def mm (P:Params):Obj:=ay "slice" (aY #[ak,ak,ak])
def mn (P:Params):Obj:=ay "list" (aR (jf je 0 [(9,ad xm 1867),(10,ad fZ 1889),(13,ad (an #[13]) 1886),(32,ad tW 1585),(33,ad lT 1588),(34,ad xn 1591),(35,ad xo 1594),(36,ad xp 1597),(37,ad xq 1600),(38,ad xr 1603),(39,ad xt 1606),(40,ad xu 1609),(41,ad xv 1612),(42,ad qo 1615),(43,ad qp 1618),(44,ad xw 1621),(45,ad nT 1624),(46,ad xx 1627),(47,ad qq 1630),(48,ad qr 1633),(49,ad qs 1636),(50,ad qt 1639),(51,ad qu 1642),(52,ad qw 1645),(53,ad qx 1648),(54,ad qy 1651),(55,ad qz 1654),(56,ad qA 1657),(57,ad qB 1660),(58,ad xy 1663),(59,ad xz 1666),(60,ad xA 1669),(62,ad xB 1672),(63,ad xC 1675),(64,ad xD 1678),(65,ad qC 1681),(66,ad qH 1684),(67,ad kY 1687),(68,ad qI 1690),(69,ad qJ 1693),(70,ad qK 1696),(71,ad qL 1699),(72,ad qM 1702),(73,ad qN 1705),(74,ad qO 1708),(75,ad qP 1711),(76,ad qQ 1714),(77,ad qR 1717),(78,ad qS 1720),(79,ad qT 1723),(80,ad qU 1726),(81,ad qV 1729),(82,ad qW 1732),(83,ad qX 1735),(84,ad qY 1738),(85,ad qZ 1741),(86,ad q0 1744),(87,ad q4 1747),(88,ad q5 1750),(89,ad q6 1753),(90,ad q7 1756),(91,ad xE 1759),(92,ad xF 1762),(93,ad xG 1765),(94,ad xH 1768),(95,ad rs 1771),(96,ad xI 1774),(97,ad nU 1777),(98,ad nV 1780),(99,ad gp 1783),(100,ad q8 1786),(101,ad q9 1789),(102,ad rb 1792),(103,ad rc 1795),(104,ad rd 1798),(105,ad jW 1801),(106,ad rf 1804),(107,ad nR 1807),(108,ad rg 1810),(109,ad rh 1813),(110,ad nW 1816),(111,ad ri 1819),(112,ad i6 1822),(113,ad rj 1825),(114,ad rk 1828),(115,ad jX 1831),(116,ad rl 1834),(117,ad rm 1837),(118,ad ro 1840),(119,ad rp 1843),(120,ad nX 1846),(121,ad rq 1849),(122,ad rr 1852),(123,ad xJ 1855),(124,ad xK 1858),(125,ad xL 1861),(126,ad xM 1864)]).toArray)
def mo (P:Params):Obj:=ay "bytes_iterator" (aY #[ak,ah 2 0])
def mq (P:Params):Obj:=ay "tuple" (aR #[])
def mr (P:Params):Obj:=ay "StopIteration" (aY #[ai 77,ak,ak,ak,bF false,ak])
def ms (P:Params):Obj:=ay "tuple" (aR #[ad fZ 324])
def mt (P:Params):Obj:=ay "tuple" (aR #[])
def mu (P:Params):Obj:=bh (aY #[])
def mv (P:Params):Obj:=ay "tuple" (aR #[ad (an #[101,110,99,111,100,101,100]) 1893,ad (an #[101,111,108]) 1894,ad (an #[100,101,99,111,100,101,100]) 1895,ad (an #[108,105,110,101]) 1896,ad jW 1897,ad nW 1898,ad gp 1899])
def mw (P:Params):Obj:=ay "tuple" (aR #[])
def mx (P:Params):Obj:=bh (bq (br gV gV (bC 21) (FuncBody.stmts (bD 21)) (bE 21) 0 [] ak ak ak ak none ak ak 0))
def my (P:Params):Obj:=ay "code" (aY #[ad gV 1890,ad gV 1891,ad bg 1892,ah 29 0,ah 2 0,ah 0 0,ah 0 0,ah 3 0,ai 80,bF true,ah 276 0,ai 81,ak,ai 82,ai 83,ai 84,ah 1900 0,ah 29 0,ad bg 1901])
def mA (P:Params):Obj:=ay "function" (bq (br gV gV (bC 21) (FuncBody.stmts (bD 21)) (bE 21) 3 [] (ai 79) ak ak (ad g9 1369) none (ai 85) ak 0))
def mB (P:Params):Obj:=ay "tuple" (aR #[])
def mC (P:Params):Obj:=bh (aY #[])
def mD (P:Params):Obj:=ay "tuple" (aR #[ad (an #[109,97,116,99,104]) 1906,ad jX 1907])
def mE (P:Params):Obj:=ay "tuple" (aR #[])
def mF (P:Params):Obj:=bh (bq (br gW gW (bC 22) (FuncBody.stmts (bD 22)) (bE 22) 0 [] ak ak ak ak none ak ak 0))
def mG (P:Params):Obj:=ay "code" (aY #[ad gW 1903,ad gW 1904,ad bg 1905,ah 59 0,ah 1 0,ah 0 0,ah 0 0,ah 3 0,ai 87,bF true,ah 276 0,ai 88,ak,ai 89,ai 90,ai 91,ah 1908 0,ah 59 0,ad bg 1909])
def mH (P:Params):Obj:=ay "function" (bq (br gW gW (bC 22) (FuncBody.stmts (bD 22)) (bE 22) 3 [] ak ak ak (ad g9 1369) none (ai 92) ak 0))
def mI (P:Params):Obj:=ay "tuple" (aR #[])
def mJ (P:Params):Obj:=bh (aY #[])
def mK (P:Params):Obj:=ay "tuple" (aR #[ad jX 1914])
def mL (P:Params):Obj:=ay "tuple" (aR #[])
def mM (P:Params):Obj:=bh (bq (br gX gX (bC 23) (FuncBody.stmts (bD 23)) (bE 23) 0 [] ak ak ak ak none ak ak 0))
def mN (P:Params):Obj:=ay "code" (aY #[ad gX 1911,ad gX 1912,ad bg 1913,ah 62 0,ah 1 0,ah 0 0,ah 0 0,ah 3 0,ai 94,bF true,ah 276 0,ai 95,ak,ai 96,ai 97,ai 98,ah 1915 0,ah 62 0,ad bg 1916])
def mO (P:Params):Obj:=ay "function" (bq (br gX gX (bC 23) (FuncBody.stmts (bD 23)) (bE 23) 3 [] ak ak ak (ad g9 1369) none (ai 99) ak 0))
def DM (P:Params):Obj:=ay "dict" (cV #[ag P k0 165 (ad nY 1982),ag P k2 166 ak,ag P k3 167 ak,ag P k4 168 (aX "__main__.__loader__#opaque"),ag P k5 169 ak,ag P gg 170 (ai 6),ag P gh 171 (ai 4),ag P gi 173 (ad bg 172),ag P gk 174 ak,ag P d9 275 (ai 12),ag P dY 288 (ai 38),ag P gm 323 (ai 43),ag P gn 325 (ad fZ 324),ag P gS 1353 (ai 46),ag P he 1354 (ai 51),ag P hg 1355 (ai 53),ag P hy 1357 (ad iw 1356),ag P hD 1359 (ad iz 1358),ag P hE 1361 (ad iA 1360),ag P hG 1363 (ad iB 1362),ag P hI 1368 (ad iC 1367),ag P gT 1874 (ai 66),ag P gU 1881 (ai 73),ag P lU 1882 (ai 75),ag P gV 1902 (ai 86),ag P gW 1910 (ai 93),ag P gX 1917 (ai 100),ag P hJ 1927 (ai 107),ag P hK 1936 (ai 114),ag P hM 1945 (ai 121),ag P hN 1957 (ai 128),ag P hO 1970 (ai 135),ag P hU 1981 (ai 142)] 35)
def DN (P:Params):Obj:=bh (aY #[ah 2 0,ah 0 0,ai 37,ah 21 0,ah 0 0,ai 65,ah 23 0,ah 0 0,ai 72,ah 29 0,ah 0 0,ai 85,ah 59 0,ah 0 0,ai 92,ah 62 0,ah 0 0,ai 99,ah 66 0,ah 0 0,ai 106,ah 69 0,ah 0 0,ai 113,ah 77 0,ah 0 0,ai 120,ah 82 0,ah 0 0,ai 127,ah 93 0,ah 0 0,ai 134,ah 108 0,ah 0 0,ai 141])
def oa (P:Params):Obj:=ay "tuple" (aR #[])
def oc (P:Params):Obj:=bh (aY #[])
def oe (P:Params):Obj:=ay "tuple" (aR #[ad nZ 1923,ad xN 1924])
def og (P:Params):Obj:=ay "tuple" (aR #[])
def oh (P:Params):Obj:=bh (bq (br hJ hJ (bC 25) (FuncBody.stmts (bD 25)) (bE 25) 0 [] ak ak ak ak none ak ak 0))
def oi (P:Params):Obj:=ay "code" (aY #[ad hJ 1920,ad hJ 1921,ad bg 1922,ah 66 0,ah 2 0,ah 0 0,ah 0 0,ah 3 0,ai 101,bF true,ah 276 0,ai 102,ak,ai 103,ai 104,ai 105,ah 1925 0,ah 66 0,ad bg 1926])
def oj (P:Params):Obj:=ay "function" (bq (br hJ hJ (bC 25) (FuncBody.stmts (bD 25)) (bE 25) 3 [] ak ak ak (ad n0 1918) none (ai 106) ak 0))
def ol (P:Params):Obj:=ay "tuple" (aR #[])
def om (P:Params):Obj:=bh (aY #[])
def oq (P:Params):Obj:=ay "tuple" (aR #[ad nZ 1931,ad (an #[108,97,115,116,101,108,116]) 1932,ad xO 1933])
def ot (P:Params):Obj:=ay "tuple" (aR #[])
def ou (P:Params):Obj:=bh (bq (br hK hK (bC 26) (FuncBody.stmts (bD 26)) (bE 26) 0 [] ak ak ak ak none ak ak 0))
def ov (P:Params):Obj:=ay "code" (aY #[ad hK 1928,ad hK 1929,ad bg 1930,ah 69 0,ah 1 0,ah 0 0,ah 0 0,ah 3 0,ai 108,bF true,ah 276 0,ai 109,ak,ai 110,ai 111,ai 112,ah 1934 0,ah 69 0,ad bg 1935])
def ow (P:Params):Obj:=ay "function" (bq (br hK hK (bC 26) (FuncBody.stmts (bD 26)) (bE 26) 3 [] ak ak ak (ad n0 1918) none (ai 113) ak 0))
def ox (P:Params):Obj:=ay "tuple" (aR #[])
def oy (P:Params):Obj:=bh (aY #[])
def oz (P:Params):Obj:=ay "tuple" (aR #[ad nZ 1940,ad xN 1941,ad xO 1942])
def oA (P:Params):Obj:=ay "tuple" (aR #[])
def oB (P:Params):Obj:=bh (bq (br hM hM (bC 27) (FuncBody.stmts (bD 27)) (bE 27) 0 [] ak ak ak ak none ak ak 0))
def oC (P:Params):Obj:=ay "code" (aY #[ad hM 1937,ad hM 1938,ad bg 1939,ah 77 0,ah 2 0,ah 0 0,ah 0 0,ah 3 0,ai 115,bF true,ah 276 0,ai 116,ak,ai 117,ai 118,ai 119,ah 1943 0,ah 77 0,ad bg 1944])
def oD (P:Params):Obj:=ay "function" (bq (br hM hM (bC 27) (FuncBody.stmts (bD 27)) (bE 27) 3 [] ak ak ak (ad n0 1918) none (ai 120) ak 0))
def oE (P:Params):Obj:=ay "tuple" (aR #[])
def oF (P:Params):Obj:=bh (aY #[])
def oG (P:Params):Obj:=ay "tuple" (aR #[ad nZ 1949,ad xP 1950,ad xQ 1951,ad xR 1952,ad (an #[112,97,114,101,110,116,112,111,115]) 1953,ad xk 1954])
def oH (P:Params):Obj:=ay "tuple" (aR #[])
def oI (P:Params):Obj:=bh (bq (br hN hN (bC 28) (FuncBody.stmts (bD 28)) (bE 28) 0 [] ak ak ak ak none ak ak 0))
def oJ (P:Params):Obj:=ay "code" (aY #[ad hN 1946,ad hN 1947,ad bg 1948,ah 82 0,ah 3 0,ah 0 0,ah 0 0,ah 3 0,ai 122,bF true,ah 276 0,ai 123,ak,ai 124,ai 125,ai 126,ah 1955 0,ah 82 0,ad bg 1956])
def oK (P:Params):Obj:=ay "function" (bq (br hN hN (bC 28) (FuncBody.stmts (bD 28)) (bE 28) 3 [] ak ak ak (ad n0 1918) none (ai 127) ak 0))
def oL (P:Params):Obj:=ay "tuple" (aR #[])
def oM (P:Params):Obj:=bh (aY #[])
def oN (P:Params):Obj:=ay "tuple" (aR #[ad nZ 1961,ad xQ 1962,ad (an #[101,110,100,112,111,115]) 1963,ad xP 1964,ad xR 1965,ad (an #[99,104,105,108,100,112,111,115]) 1966,ad (an #[114,105,103,104,116,112,111,115]) 1967])
def oO (P:Params):Obj:=ay "tuple" (aR #[])
def oP (P:Params):Obj:=bh (bq (br hO hO (bC 29) (FuncBody.stmts (bD 29)) (bE 29) 0 [] ak ak ak ak none ak ak 0))
def oQ (P:Params):Obj:=ay "code" (aY #[ad hO 1958,ad hO 1959,ad bg 1960,ah 93 0,ah 2 0,ah 0 0,ah 0 0,ah 3 0,ai 129,bF true,ah 276 0,ai 130,ak,ai 131,ai 132,ai 133,ah 1968 0,ah 93 0,ad bg 1969])
def oR (P:Params):Obj:=ay "function" (bq (br hO hO (bC 29) (FuncBody.stmts (bD 29)) (bE 29) 3 [] ak ak ak (ad n0 1918) none (ai 134) ak 0))
def oT (P:Params):Obj:=ay "tuple" (aR #[])
def oU (P:Params):Obj:=bh (aY #[])
def oV (P:Params):Obj:=ay "tuple" (aR #[ad nX 1976,ad (an #[119,104,97,116]) 1977,ad xS 1978])
def oW (P:Params):Obj:=ay "tuple" (aR #[])
def oX (P:Params):Obj:=bh (bq (br hU hU (bC 31) (FuncBody.stmts (bD 31)) (bE 31) 0 [] ak ak ak ak none ak ak 0))
def oY (P:Params):Obj:=ay "code" (aY #[ad hU 1973,ad hU 1974,ad bg 1975,ah 108 0,ah 2 0,ah 0 0,ah 0 0,ah 3 0,ai 136,bF true,ah 276 0,ai 137,ak,ai 138,ai 139,ai 140,ah 1979 0,ah 108 0,ad bg 1980])
def oZ (P:Params):Obj:=ay "function" (bq (br hU hU (bC 31) (FuncBody.stmts (bD 31)) (bE 31) 3 [] ak ak ak (ad xT 1971) none (ai 141) ak 0))
def DO (P:Params):Obj:=ay "dict" (cV #[ag P k0 165 (ad jY 2008),ag P k2 166 ak,ag P k3 167 ak,ag P k4 168 (aX "__main__.__loader__#opaque"),ag P k5 169 ak,ag P gg 170 (ai 6),ag P gh 171 (ai 4),ag P gi 173 (ad bg 172),ag P gk 174 ak,ag P d9 275 (ai 12),ag P dY 288 (ai 38),ag P gm 323 (ai 43),ag P gn 325 (ad fZ 324),ag P gS 1353 (ai 46),ag P he 1354 (ai 51),ag P hg 1355 (ai 53),ag P hy 1357 (ad iw 1356),ag P hD 1359 (ad iz 1358),ag P hE 1361 (ad iA 1360),ag P hG 1363 (ad iB 1362),ag P hI 1368 (ad iC 1367),ag P gT 1874 (ai 66),ag P gU 1881 (ai 73),ag P lU 1882 (ai 75),ag P gV 1902 (ai 86),ag P gW 1910 (ai 93),ag P gX 1917 (ai 100),ag P hJ 1927 (ai 107),ag P hK 1936 (ai 114),ag P hM 1945 (ai 121),ag P hN 1957 (ai 128),ag P hO 1970 (ai 135),ag P hU 1981 (ai 142),ag P hV 2007 (ai 159),ag P hW 2050 (ai 192)] 37)
def DP (P:Params):Obj:=bh (aY #[ah 2 0,ah 0 0,ai 37,ah 21 0,ah 0 0,ai 65,ah 23 0,ah 0 0,ai 72,ah 29 0,ah 0 0,ai 85,ah 59 0,ah 0 0,ai 92,ah 62 0,ah 0 0,ai 99,ah 66 0,ah 0 0,ai 106,ah 69 0,ah 0 0,ai 113,ah 77 0,ah 0 0,ai 120,ah 82 0,ah 0 0,ai 127,ah 93 0,ah 0 0,ai 134,ah 108 0,ah 0 0,ai 141,ah 114 0,ah 0 0,ai 148,ah 119 0,ah 0 0,ai 167])
def ry (P:Params):Obj:=ay "tuple" (aR #[Value.type "type"])
def rz (P:Params):Obj:=ay "builtin_function_or_method" (aY #[aX "type.__prepare__",Value.type "type"])
def rA (P:Params):Obj:=ay "dict" (cV #[ag P lQ 1991 (ad nY 1982),ag P xU 1993 (ad hV 1992),ag P lR 1995 (ah 114 1994),ag P iD 2003 (ai 156),ag P lS 2004 (ai 157)] 5)
def rB (P:Params):Obj:=ay "tuple" (aR #[])
def rC (P:Params):Obj:=bh (aY #[ah 116 0,ah 4 0,ai 155])
def rD (P:Params):Obj:=ay "code" (aY #[ad hV 1986,ad hV 1987,ad bg 1988,ah 114 0,ah 0 0,ah 0 0,ah 0 0,ah 0 0,ai 146,bF false,ah 276 0,ai 147,ak,ak,ak,ak,ah 1989 0,ah 114 0,ad bg 1990])
def rE (P:Params):Obj:=iv (Value.type "frame") none Data.plain #[some (ai 148),some (ai 3),some (ai 145),none,some (ad nY 1982),none,some (ai 0)]
def rF (P:Params):Obj:=ay "tuple" (aR #[])
def rG (P:Params):Obj:=bh (aY #[])
def rH (P:Params):Obj:=ay "tuple" (aR #[ad rt 1999,ad xV 2000])
def rI (P:Params):Obj:=ay "tuple" (aR #[])
def rJ (P:Params):Obj:=bh (bq (br iD tX (jT 33 0) (FuncBody.stmts (jU 33 0)) (jV 33 0) 0 [] ak ak ak ak none ak ak 0))
def rK (P:Params):Obj:=ay "code" (aY #[ad iD 1996,ad tX 1997,ad bg 1998,ah 116 0,ah 2 0,ah 0 0,ah 0 0,ah 3 0,ai 150,bF true,ah 276 0,ai 151,ak,ai 152,ai 153,ai 154,ah 2001 0,ah 116 0,ad bg 2002])
def rL (P:Params):Obj:=ay "function" (bq (br iD tX (jT 33 0) (FuncBody.stmts (jU 33 0)) (jV 33 0) 3 [] ak ak ak (ad nY 1982) none (ai 155) ak 0))
def rM (P:Params):Obj:=ay "tuple" (aR #[])
def rN (P:Params):Obj:=ay "dict" (cV #[ag P lQ 1991 (ad nY 1982),ag P lR 1995 (ah 114 1994),ag P iD 2003 (ai 156),ag P lS 2004 (ai 157),ag P k2 2005 ak] 2)
def rO (P:Params):Obj:=iv (Value.type "type") none (Data.cls (ClassData.mk hV [Value.type "type"] [ai 159,Value.type "type",Value.type "object"] 158 hV true [] [ai 192] false none false)) #[some (ai 143),none,some (ad hV 1984),some (ad hV 1992),some (aX "type.__new__"),some (bF true)]
def rP (P:Params):Obj:=ay "super" (aY #[ai 159,ai 159,ai 159])
def rQ (P:Params):Obj:=ay "builtin_function_or_method" (aY #[aX "object.__init_subclass__",ai 159])
def rR (P:Params):Obj:=ay "tuple" (aR #[ai 159])
def rS (P:Params):Obj:=ay "builtin_function_or_method" (aY #[aX "type.__prepare__",Value.type "type"])
def rT (P:Params):Obj:=ay "dict" (cV #[ag P lQ 2017 (ad jY 2008),ag P xU 2019 (ad hW 2018),ag P lR 2021 (ah 119 2020),ag P n6 2030 (ai 175),ag P n7 2038 (ai 182),ag P iD 2046 (ai 189),ag P lS 2047 (ai 190)] 7)
def rU (P:Params):Obj:=ay "tuple" (aR #[])
def rV (P:Params):Obj:=bh (aY #[ah 121 0,ah 4 0,ai 174,ah 127 0,ah 4 0,ai 181,ah 132 0,ah 4 0,ai 188])
def rW (P:Params):Obj:=ay "code" (aY #[ad hW 2012,ad hW 2013,ad bg 2014,ah 119 0,ah 0 0,ah 0 0,ah 0 0,ah 0 0,ai 165,bF false,ah 276 0,ai 166,ak,ak,ak,ak,ah 2015 0,ah 119 0,ad bg 2016])
def rX (P:Params):Obj:=iv (Value.type "frame") none Data.plain #[some (ai 167),some (ai 3),some (ai 164),none,some (ad jY 2008),none,some (ai 0)]
def rY (P:Params):Obj:=ay "tuple" (aR #[])
def rZ (P:Params):Obj:=bh (aY #[])
def r0 (P:Params):Obj:=ay "tuple" (aR #[ad rt 2025,ad (an #[105,110,115,116,97,110,99,101]) 2026,ad kY 2027])
def r1 (P:Params):Obj:=ay "tuple" (aR #[])
def r2 (P:Params):Obj:=bh (bq (br n6 tY (jT 35 0) (FuncBody.stmts (jU 35 0)) (jV 35 0) 0 [] ak ak ak ak none ak ak 0))
def r3 (P:Params):Obj:=ay "code" (aY #[ad n6 2022,ad tY 2023,ad bg 2024,ah 121 0,ah 2 0,ah 0 0,ah 0 0,ah 3 0,ai 169,bF true,ah 276 0,ai 170,ak,ai 171,ai 172,ai 173,ah 2028 0,ah 121 0,ad bg 2029])
def r4 (P:Params):Obj:=ay "function" (bq (br n6 tY (jT 35 0) (FuncBody.stmts (jU 35 0)) (jV 35 0) 3 [] ak ak ak (ad jY 2008) none (ai 174) ak 0))
def r5 (P:Params):Obj:=ay "tuple" (aR #[])
def r6 (P:Params):Obj:=bh (aY #[])
def r7 (P:Params):Obj:=ay "tuple" (aR #[ad rt 2034,ad kY 2035])
def r8 (P:Params):Obj:=ay "tuple" (aR #[])
def r9 (P:Params):Obj:=bh (bq (br n7 tZ (jT 35 1) (FuncBody.stmts (jU 35 1)) (jV 35 1) 0 [] ak ak ak ak none ak ak 0))
def sa (P:Params):Obj:=ay "code" (aY #[ad n7 2031,ad tZ 2032,ad bg 2033,ah 127 0,ah 2 0,ah 0 0,ah 0 0,ah 3 0,ai 176,bF true,ah 276 0,ai 177,ak,ai 178,ai 179,ai 180,ah 2036 0,ah 127 0,ad bg 2037])
def sb (P:Params):Obj:=ay "function" (bq (br n7 tZ (jT 35 1) (FuncBody.stmts (jU 35 1)) (jV 35 1) 3 [] ak ak ak (ad jY 2008) none (ai 181) ak 0))
def sc (P:Params):Obj:=ay "tuple" (aR #[])
def sd (P:Params):Obj:=bh (aY #[])
def se (P:Params):Obj:=ay "tuple" (aR #[ad rt 2042,ad xV 2043])
def sf (P:Params):Obj:=ay "tuple" (aR #[])
def sg (P:Params):Obj:=bh (bq (br iD t0 (jT 35 2) (FuncBody.stmts (jU 35 2)) (jV 35 2) 0 [] ak ak ak ak none ak ak 0))
def sh (P:Params):Obj:=ay "code" (aY #[ad iD 2039,ad t0 2040,ad bg 2041,ah 132 0,ah 2 0,ah 0 0,ah 0 0,ah 3 0,ai 183,bF true,ah 276 0,ai 184,ak,ai 185,ai 186,ai 187,ah 2044 0,ah 132 0,ad bg 2045])
def si (P:Params):Obj:=ay "function" (bq (br iD t0 (jT 35 2) (FuncBody.stmts (jU 35 2)) (jV 35 2) 3 [] ak ak ak (ad jY 2008) none (ai 188) ak 0))
def sj (P:Params):Obj:=ay "tuple" (aR #[])
def sk (P:Params):Obj:=ay "dict" (cV #[ag P lQ 2017 (ad jY 2008),ag P lR 2021 (ah 119 2020),ag P n6 2030 (ai 175),ag P n7 2038 (ai 182),ag P iD 2046 (ai 189),ag P lS 2047 (ai 190),ag P k2 2048 ak] 2)
def sl (P:Params):Obj:=iv (Value.type "type") none (Data.cls (ClassData.mk hW [ai 159] [ai 192,ai 159,Value.type "type",Value.type "object"] 191 hW true [] [] false none false)) #[some (ai 162),none,some (ad hW 2010),some (ad hW 2018),some (aX "type.__new__"),some (bF true)]
def sm (P:Params):Obj:=ay "super" (aY #[ai 192,ai 192,ai 192])
def sn (P:Params):Obj:=ay "builtin_function_or_method" (aY #[aX "object.__init_subclass__",ai 192])
def DQ (P:Params):Obj:=ay "dict" (cV #[ag P k0 165 (ad i7 2083),ag P k2 166 ak,ag P k3 167 ak,ag P k4 168 (aX "__main__.__loader__#opaque"),ag P k5 169 ak,ag P gg 170 (ai 6),ag P gh 171 (ai 4),ag P gi 173 (ad bg 172),ag P gk 174 ak,ag P d9 275 (ai 12),ag P dY 288 (ai 38),ag P gm 323 (ai 43),ag P gn 325 (ad fZ 324),ag P gS 1353 (ai 46),ag P he 1354 (ai 51),ag P hg 1355 (ai 53),ag P hy 1357 (ad iw 1356),ag P hD 1359 (ad iz 1358),ag P hE 1361 (ad iA 1360),ag P hG 1363 (ad iB 1362),ag P hI 1368 (ad iC 1367),ag P gT 1874 (ai 66),ag P gU 1881 (ai 73),ag P lU 1882 (ai 75),ag P gV 1902 (ai 86),ag P gW 1910 (ai 93),ag P gX 1917 (ai 100),ag P hJ 1927 (ai 107),ag P hK 1936 (ai 114),ag P hM 1945 (ai 121),ag P hN 1957 (ai 128),ag P hO 1970 (ai 135),ag P hU 1981 (ai 142),ag P hV 2007 (ai 159),ag P hW 2050 (ai 192),ag P i8 2057 (ai 201),ag P i9 2069 (ai 208),ag P ja 2082 (ai 215),ag P jb 2091 (ai 222),ag P jc 2102 (ai 229),ag P jd 2113 (ai 236)] 43)
def DR (P:Params):Obj:=bh (aY #[ah 2 0,ah 0 0,ai 37,ah 21 0,ah 0 0,ai 65,ah 23 0,ah 0 0,ai 72,ah 29 0,ah 0 0,ai 85,ah 59 0,ah 0 0,ai 92,ah 62 0,ah 0 0,ai 99,ah 66 0,ah 0 0,ai 106,ah 69 0,ah 0 0,ai 113,ah 77 0,ah 0 0,ai 120,ah 82 0,ah 0 0,ai 127,ah 93 0,ah 0 0,ai 134,ah 108 0,ah 0 0,ai 141,ah 114 0,ah 0 0,ai 148,ah 119 0,ah 0 0,ai 167,ah 134 0,ah 0 0,ai 200,ah 138 0,ah 0 0,ai 207,ah 155 0,ah 0 0,ai 214,ah 167 0,ah 0 0,ai 221,ah 172 0,ah 0 0,ai 228,ah 189 0,ah 0 0,ai 235])
def t4 (P:Params):Obj:=ay "tuple" (aR #[])
def t5 (P:Params):Obj:=bh (aY #[])
def t6 (P:Params):Obj:=ay "tuple" (aR #[ad kY 2054])
def t7 (P:Params):Obj:=ay "tuple" (aR #[])
def t8 (P:Params):Obj:=bh (bq (br i8 i8 (bC 36) (FuncBody.stmts (bD 36)) (bE 36) 0 [] ak ak ak ak none ak ak 0))
def t9 (P:Params):Obj:=ay "code" (aY #[ad i8 2051,ad i8 2052,ad bg 2053,ah 134 0,ah 1 0,ah 0 0,ah 0 0,ah 3 0,ai 195,bF true,ah 276 0,ai 196,ak,ai 197,ai 198,ai 199,ah 2055 0,ah 134 0,ad bg 2056])
def ua (P:Params):Obj:=ay "function" (bq (br i8 i8 (bC 36) (FuncBody.stmts (bD 36)) (bE 36) 3 [] ak ak ak (ad jY 2008) none (ai 200) ak 0))
def ub (P:Params):Obj:=ay "tuple" (aR #[])
def uc (P:Params):Obj:=bh (aY #[])
def ud (P:Params):Obj:=ay "tuple" (aR #[ad ru 2063,ad xS 2064,ad (an #[104,111,111,107]) 2065,ad (an #[103,105,118,101,110]) 2066])
def ue (P:Params):Obj:=ay "tuple" (aR #[])
def uf (P:Params):Obj:=bh (bq (br i9 i9 (bC 38) (FuncBody.stmts (bD 38)) (bE 38) 0 [] ak ak ak ak none ak ak 0))
def ug (P:Params):Obj:=ay "code" (aY #[ad i9 2060,ad i9 2061,ad bg 2062,ah 138 0,ah 1 0,ah 0 0,ah 0 0,ah 3 0,ai 202,bF true,ah 276 0,ai 203,ak,ai 204,ai 205,ai 206,ah 2067 0,ah 138 0,ad bg 2068])
def uh (P:Params):Obj:=ay "function" (bq (br i9 i9 (bC 38) (FuncBody.stmts (bD 38)) (bE 38) 3 [] ak ak ak (ad xT 2058) none (ai 207) ak 0))
def ui (P:Params):Obj:=ay "tuple" (aR #[])
def uj (P:Params):Obj:=bh (aY #[])
def uk (P:Params):Obj:=ay "tuple" (aR #[ad (an #[102,117,110,99,110,97,109,101]) 2075,ad (an #[97,114,103,115]) 2076,ad (an #[104,97,115,115,116,114]) 2077,ad (an #[104,97,115,98,121,116,101,115]) 2078,ad jX 2079])
def ul (P:Params):Obj:=ay "tuple" (aR #[])
def um (P:Params):Obj:=bh (bq (br ja ja (bC 40) (FuncBody.stmts (bD 40)) (bE 40) 0 [] ak ak ak ak none ak ak 0))
def uo (P:Params):Obj:=ay "code" (aY #[ad ja 2072,ad ja 2073,ad bg 2074,ah 155 0,ah 1 0,ah 0 0,ah 0 0,ah 7 0,ai 209,bF true,ah 276 0,ai 210,ak,ai 211,ai 212,ai 213,ah 2080 0,ah 155 0,ad bg 2081])
def up (P:Params):Obj:=ay "function" (bq (br ja ja (bC 40) (FuncBody.stmts (bD 40)) (bE 40) 3 [] ak ak ak (ad (an #[99,112,121,51,49,51,46,103,101,110,101,114,105,99,112,97,116,104]) 2070) none (ai 214) ak 0))
def uq (P:Params):Obj:=ay "tuple" (aR #[])
def ur (P:Params):Obj:=bh (aY #[])
def us (P:Params):Obj:=ay "tuple" (aR #[ad ru 2088])
def ut (P:Params):Obj:=ay "tuple" (aR #[])
def uu (P:Params):Obj:=bh (bq (br jb jb (bC 42) (FuncBody.stmts (bD 42)) (bE 42) 0 [] ak ak ak ak none ak ak 0))
def uv (P:Params):Obj:=ay "code" (aY #[ad jb 2085,ad jb 2086,ad bg 2087,ah 167 0,ah 1 0,ah 0 0,ah 0 0,ah 3 0,ai 216,bF true,ah 276 0,ai 217,ak,ai 218,ai 219,ai 220,ah 2089 0,ah 167 0,ad bg 2090])
def uw (P:Params):Obj:=ay "function" (bq (br jb jb (bC 42) (FuncBody.stmts (bD 42)) (bE 42) 3 [] ak ak ak (ad i7 2083) none (ai 221) ak 0))
def ux (P:Params):Obj:=ay "tuple" (aR #[])
def uy (P:Params):Obj:=bh (aY #[])
def uz (P:Params):Obj:=ay "tuple" (aR #[ad nU 2095,ad i6 2096,ad lV 2097,ad ru 2098,ad nV 2099])
def uA (P:Params):Obj:=ay "tuple" (aR #[])
def uB (P:Params):Obj:=bh (bq (br jc jc (bC 43) (FuncBody.stmts (bD 43)) (bE 43) 0 [] ak ak ak ak none ak ak 0))
def uC (P:Params):Obj:=ay "code" (aY #[ad jc 2092,ad jc 2093,ad bg 2094,ah 172 0,ah 1 0,ah 0 0,ah 0 0,ah 7 0,ai 223,bF true,ah 276 0,ai 224,ak,ai 225,ai 226,ai 227,ah 2100 0,ah 172 0,ad bg 2101])
def uD (P:Params):Obj:=ay "function" (bq (br jc jc (bC 43) (FuncBody.stmts (bD 43)) (bE 43) 3 [] ak ak ak (ad i7 2083) none (ai 228) ak 0))
def uE (P:Params):Obj:=ay "tuple" (aR #[])
def uF (P:Params):Obj:=bh (aY #[])
def uG (P:Params):Obj:=ay "tuple" (aR #[ad i6 2106,ad lV 2107,ad jW 2108,ad xW 2109,ad (an #[116,97,105,108]) 2110])
def uH (P:Params):Obj:=ay "tuple" (aR #[])
def uI (P:Params):Obj:=bh (bq (br jd jd (bC 44) (FuncBody.stmts (bD 44)) (bE 44) 0 [] ak ak ak ak none ak ak 0))
def uJ (P:Params):Obj:=ay "code" (aY #[ad jd 2103,ad jd 2104,ad bg 2105,ah 189 0,ah 1 0,ah 0 0,ah 0 0,ah 3 0,ai 230,bF true,ah 276 0,ai 231,ak,ai 232,ai 233,ai 234,ah 2111 0,ah 189 0,ad bg 2112])
def uK (P:Params):Obj:=ay "function" (bq (br jd jd (bC 44) (FuncBody.stmts (bD 44)) (bE 44) 3 [] ak ak ak (ad i7 2083) none (ai 235) ak 0))
def mP (P:Params):Obj:=ay "dict" (cV #[ag P k0 165 (ad n9 2163),ag P k2 166 ak,ag P k3 167 ak,ag P k4 168 (aX "__main__.__loader__#opaque"),ag P k5 169 ak,ag P gg 170 (ai 6),ag P gh 171 (ai 4),ag P gi 173 (ad bg 172),ag P gk 174 ak,ag P d9 275 (ai 12),ag P dY 288 (ai 38),ag P gm 323 (ai 43),ag P gn 325 (ad fZ 324),ag P gS 1353 (ai 46),ag P he 1354 (ai 51),ag P hg 1355 (ai 53),ag P hy 1357 (ad iw 1356),ag P hD 1359 (ad iz 1358),ag P hE 1361 (ad iA 1360),ag P hG 1363 (ad iB 1362),ag P hI 1368 (ad iC 1367),ag P gT 1874 (ai 66),ag P gU 1881 (ai 73),ag P lU 1882 (ai 75),ag P gV 1902 (ai 86),ag P gW 1910 (ai 93),ag P gX 1917 (ai 100),ag P hJ 1927 (ai 107),ag P hK 1936 (ai 114),ag P hM 1945 (ai 121),ag P hN 1957 (ai 128),ag P hO 1970 (ai 135),ag P hU 1981 (ai 142),ag P hV 2007 (ai 159),ag P hW 2050 (ai 192),ag P i8 2057 (ai 201),ag P i9 2069 (ai 208),ag P ja 2082 (ai 215),ag P jb 2091 (ai 222),ag P jc 2102 (ai 229),ag P jd 2113 (ai 236),ag P jZ 2122 (ai 243),ag P j0 2131 (ai 250),ag P j1 2141 (ai 257),ag P j2 2156 (ai 264),ag P j3 2162 (ai 269),ag P j4 2170 (ai 274),ag P j5 2176 (ai 279),ag P j6 2183 (ai 286),ag P hX 2189 (ai 291)] 52)
def x0 (P:Params):Obj:=bh (aY #[ah 2 0,ah 0 0,ai 37,ah 21 0,ah 0 0,ai 65,ah 23 0,ah 0 0,ai 72,ah 29 0,ah 0 0,ai 85,ah 59 0,ah 0 0,ai 92,ah 62 0,ah 0 0,ai 99,ah 66 0,ah 0 0,ai 106,ah 69 0,ah 0 0,ai 113,ah 77 0,ah 0 0,ai 120,ah 82 0,ah 0 0,ai 127,ah 93 0,ah 0 0,ai 134,ah 108 0,ah 0 0,ai 141,ah 114 0,ah 0 0,ai 148,ah 119 0,ah 0 0,ai 167,ah 134 0,ah 0 0,ai 200,ah 138 0,ah 0 0,ai 207,ah 155 0,ah 0 0,ai 214,ah 167 0,ah 0 0,ai 221,ah 172 0,ah 0 0,ai 228,ah 189 0,ah 0 0,ai 235,ah 197 0,ah 0 0,ai 242,ah 211 0,ah 0 0,ai 249,ah 216 0,ah 0 0,ai 256,ah 224 0,ah 0 0,ai 263,ah 249 0,ah 0 0,ai 268,ah 279 0,ah 0 0,ai 273,ah 285 0,ah 0 0,ai 278,ah 287 0,ah 0 0,ai 285,ah 289 0,ah 0 0,ai 290])
def x2 (P:Params):Obj:=ay "tuple" (aR #[])
def x3 (P:Params):Obj:=bh (aY #[])
def x4 (P:Params):Obj:=ay "tuple" (aR #[ad i6 2117,ad lV 2118,ad (an #[101,109,112,116,121]) 2119])
def x5 (P:Params):Obj:=ay "tuple" (aR #[])
def x7 (P:Params):Obj:=bh (bq (br jZ jZ (bC 45) (FuncBody.stmts (bD 45)) (bE 45) 0 [] ak ak ak ak none ak ak 0))
def x8 (P:Params):Obj:=ay "code" (aY #[ad jZ 2114,ad jZ 2115,ad bg 2116,ah 197 0,ah 1 0,ah 0 0,ah 0 0,ah 3 0,ai 237,bF true,ah 276 0,ai 238,ak,ai 239,ai 240,ai 241,ah 2120 0,ah 197 0,ad bg 2121])
def x9 (P:Params):Obj:=ay "function" (bq (br jZ jZ (bC 45) (FuncBody.stmts (bD 45)) (bE 45) 3 [] ak ak ak (ad i7 2083) none (ai 242) ak 0))
def ya (P:Params):Obj:=ay "tuple" (aR #[])
def yb (P:Params):Obj:=bh (aY #[])
def yc (P:Params):Obj:=ay "tuple" (aR #[ad i6 2126,ad lV 2127,ad jW 2128])
def yd (P:Params):Obj:=ay "tuple" (aR #[])
def ye (P:Params):Obj:=bh (bq (br j0 j0 (bC 46) (FuncBody.stmts (bD 46)) (bE 46) 0 [] ak ak ak ak none ak ak 0))
def yf (P:Params):Obj:=ay "code" (aY #[ad j0 2123,ad j0 2124,ad bg 2125,ah 211 0,ah 1 0,ah 0 0,ah 0 0,ah 3 0,ai 244,bF true,ah 276 0,ai 245,ak,ai 246,ai 247,ai 248,ah 2129 0,ah 211 0,ad bg 2130])
def yg (P:Params):Obj:=ay "function" (bq (br j0 j0 (bC 46) (FuncBody.stmts (bD 46)) (bE 46) 3 [] ak ak ak (ad i7 2083) none (ai 249) ak 0))
def yh (P:Params):Obj:=ay "tuple" (aR #[])
def yi (P:Params):Obj:=bh (aY #[])
def yj (P:Params):Obj:=ay "tuple" (aR #[ad i6 2135,ad lV 2136,ad jW 2137,ad xW 2138])
def yk (P:Params):Obj:=ay "tuple" (aR #[])
def yl (P:Params):Obj:=bh (bq (br j1 j1 (bC 47) (FuncBody.stmts (bD 47)) (bE 47) 0 [] ak ak ak ak none ak ak 0))
def ym (P:Params):Obj:=ay "code" (aY #[ad j1 2132,ad j1 2133,ad bg 2134,ah 216 0,ah 1 0,ah 0 0,ah 0 0,ah 3 0,ai 251,bF true,ah 276 0,ai 252,ak,ai 253,ai 254,ai 255,ah 2139 0,ah 216 0,ad bg 2140])
def yn (P:Params):Obj:=ay "function" (bq (br j1 j1 (bC 47) (FuncBody.stmts (bD 47)) (bE 47) 3 [] ak ak ak (ad i7 2083) none (ai 256) ak 0))
def yo (P:Params):Obj:=ay "tuple" (aR #[])
def yp (P:Params):Obj:=bh (aY #[])
def yq (P:Params):Obj:=ay "tuple" (aR #[ad ru 2145,ad lV 2146,ad (an #[100,111,116]) 2147,ad (an #[100,111,116,100,111,116]) 2148,ad rs 2149,ad (an #[105,110,105,116,105,97,108,95,115,108,97,115,104,101,115]) 2150,ad (an #[99,111,109,112,115]) 2151,ad (an #[110,101,119,95,99,111,109,112,115]) 2152,ad (an #[99,111,109,112]) 2153])
def yr (P:Params):Obj:=ay "tuple" (aR #[])
def yt (P:Params):Obj:=bh (bq (br j2 j2 (bC 48) (FuncBody.stmts (bD 48)) (bE 48) 0 [] ak ak ak ak none ak ak 0))
def yu (P:Params):Obj:=ay "code" (aY #[ad j2 2142,ad j2 2143,ad bg 2144,ah 224 0,ah 1 0,ah 0 0,ah 0 0,ah 3 0,ai 258,bF true,ah 276 0,ai 259,ak,ai 260,ai 261,ai 262,ah 2154 0,ah 224 0,ad bg 2155])
def yv (P:Params):Obj:=ay "function" (bq (br j2 j2 (bC 48) (FuncBody.stmts (bD 48)) (bE 48) 3 [] ak ak ak (ad i7 2083) none (ai 263) ak 0))
def yw (P:Params):Obj:=ay "tuple" (aR #[])
def yx (P:Params):Obj:=bh (aY #[])
def yy (P:Params):Obj:=bh (bq (br j3 j3 (bC 49) (FuncBody.stmts (bD 49)) (bE 49) 0 [] ak ak ak ak none ak ak 0))
def yz (P:Params):Obj:=ay "code" (aY #[ad j3 2157,ad j3 2158,ad bg 2159,ah 249 0,ah 1 0,ah 0 0,ah 0 0,ah 3 0,ai 265,bF true,ah 276 0,ai 266,ak,ak,ak,ai 267,ah 2160 0,ah 249 0,ad bg 2161])
def yA (P:Params):Obj:=ay "function" (bq (br j3 j3 (bC 49) (FuncBody.stmts (bD 49)) (bE 49) 3 [] ak ak ak (ad i7 2083) none (ai 268) ak 0))
def yB (P:Params):Obj:=ay "tuple" (aR #[])
def yC (P:Params):Obj:=bh (aY #[])
def yD (P:Params):Obj:=bh (bq (br j4 j4 (bC 51) (FuncBody.stmts (bD 51)) (bE 51) 0 [] ak ak ak ak none ak ak 0))
def yE (P:Params):Obj:=ay "code" (aY #[ad j4 2165,ad j4 2166,ad bg 2167,ah 279 0,ah 1 0,ah 0 0,ah 0 0,ah 3 0,ai 270,bF true,ah 276 0,ai 271,ak,ak,ak,ai 272,ah 2168 0,ah 279 0,ad bg 2169])
def yF (P:Params):Obj:=ay "function" (bq (br j4 j4 (bC 51) (FuncBody.stmts (bD 51)) (bE 51) 3 [] ak ak ak (ad n9 2163) none (ai 273) ak 0))
def yG (P:Params):Obj:=ay "tuple" (aR #[])
def yH (P:Params):Obj:=bh (aY #[])
def yI (P:Params):Obj:=bh (bq (br j5 j5 (bC 52) (FuncBody.stmts (bD 52)) (bE 52) 0 [] ak ak ak ak none ak ak 0))
def yJ (P:Params):Obj:=ay "code" (aY #[ad j5 2171,ad j5 2172,ad bg 2173,ah 285 0,ah 1 0,ah 0 0,ah 0 0,ah 3 0,ai 275,bF true,ah 276 0,ai 276,ak,ak,ak,ai 277,ah 2174 0,ah 285 0,ad bg 2175])
def yK (P:Params):Obj:=ay "function" (bq (br j5 j5 (bC 52) (FuncBody.stmts (bD 52)) (bE 52) 3 [] ak ak ak (ad n9 2163) none (ai 278) ak 0))
def yL (P:Params):Obj:=ay "tuple" (aR #[])
def yM (P:Params):Obj:=bh (aY #[])
def yN (P:Params):Obj:=ay "tuple" (aR #[ad (an #[119,114,105,116,116,101,110]) 2180])
def yO (P:Params):Obj:=ay "tuple" (aR #[])
def yP (P:Params):Obj:=bh (bq (br j6 j6 (bC 53) (FuncBody.stmts (bD 53)) (bE 53) 0 [] ak ak ak ak none ak ak 0))
def yQ (P:Params):Obj:=ay "code" (aY #[ad j6 2177,ad j6 2178,ad bg 2179,ah 287 0,ah 1 0,ah 0 0,ah 0 0,ah 3 0,ai 280,bF true,ah 276 0,ai 281,ak,ai 282,ai 283,ai 284,ah 2181 0,ah 287 0,ad bg 2182])
def yR (P:Params):Obj:=ay "function" (bq (br j6 j6 (bC 53) (FuncBody.stmts (bD 53)) (bE 53) 3 [] ak ak ak (ad n9 2163) none (ai 285) ak 0))
def yS (P:Params):Obj:=ay "tuple" (aR #[])
def yT (P:Params):Obj:=bh (aY #[])
def yU (P:Params):Obj:=bh (bq (br hX hX (bC 54) (FuncBody.stmts (bD 54)) (bE 54) 0 [] ak ak ak ak none ak ak 0))
def yV (P:Params):Obj:=ay "code" (aY #[ad hX 2184,ad hX 2185,ad bg 2186,ah 289 0,ah 1 0,ah 0 0,ah 0 0,ah 3 0,ai 287,bF true,ah 276 0,ai 288,ak,ak,ak,ai 289,ah 2187 0,ah 289 0,ad bg 2188])
def yW (P:Params):Obj:=ay "function" (bq (br hX hX (bC 54) (FuncBody.stmts (bD 54)) (bE 54) 3 [] ak ak ak (ad n9 2163) none (ai 290) ak 0))
noncomputable def ac (a:Params→Obj) (l r:Params→BT):Params→BT:=fun P=>.node (a P) (l P) (r P)
noncomputable def ae (a:Params→Obj):Params→BT:=fun P=>.node (a P) .nil .nil
noncomputable def av:Params→BT:=fun _=>.nil
def iH:Params→BT:=(ac ei (ac ej (ac xX (ac eo (ae eA) (ae eI)) (ac ew (ae eE) (ae eM))) (ac em (ac et (ae eC) (ae eK)) (ac ey (ae eG) av))) (ac ea (ac el (ac es (ae eB) (ae eJ)) (ac ex (ae eF) av)) (ac en (ac eu (ae eD) (ae eL)) (ac ez (ae eH) av))))
def o0:Params→BT:=(ac ei (ac ej (ac xX (ac eo (ac eA (ae fa) av) (ae eI)) (ac ew (ae eE) (ae eM))) (ac em (ac et (ae eC) (ae eK)) (ac ey (ae eG) (ae Dv)))) (ac ea (ac el (ac es (ae eB) (ae eJ)) (ac ex (ae eF) (ae e6))) (ac en (ac eu (ae eD) (ae eL)) (ac ez (ae eH) (ae e9)))))
def lb:Params→BT:=(ac ei (ac ej (ac xY (ac eo (ac eA (ae fa) av) (ac eI (ae fA) av)) (ac ew (ac eE (ae fw) av) (ac eM (ae fI) av))) (ac em (ac et (ac eC (ae fu) av) (ac eK (ae fF) av)) (ac ey (ac eG (ae fy) av) (ae jg)))) (ac ea (ac el (ac es (ac eB (ae ft) av) (ac eJ (ae fC) av)) (ac ex (ac eF (ae fx) av) (ae e6))) (ac en (ac eu (ac eD (ae fv) av) (ac eL (ae fH) av)) (ac ez (ac eH (ae fz) av) (ae e9)))))
def DS:Params→BT:=(ac ei (ac ej (ac xY (ac eo (ac eA (ae fa) (ae Dy)) (ac eI (ae fA) av)) (ac ew (ac eE (ae fw) av) (ac eM (ae fI) av))) (ac em (ac et (ac eC (ae fu) av) (ac eK (ae fF) av)) (ac ey (ac eG (ae fy) av) (ac jg (ae Dw) av)))) (ac ea (ac el (ac es (ac eB (ae ft) av) (ac eJ (ae fC) av)) (ac ex (ac eF (ae fx) av) (ac e6 (ae f0) av))) (ac en (ac eu (ac eD (ae fv) av) (ac eL (ae fH) av)) (ac ez (ac eH (ae fz) av) (ac e9 (ae Dx) av)))))
def sp:Params→BT:=(ac ei (ac ej (ac Dz (ac eo (ac eA (ae fa) (ae gr)) (ac eI (ae fA) av)) (ac ew (ac eE (ae fw) av) (ac eM (ae fI) av))) (ac em (ac et (ac eC (ae fu) (ae gu)) (ac eK (ae fF) av)) (ac ey (ac eG (ae fy) av) (ac jg (ae gq) av)))) (ac ea (ac el (ac es (ac eB (ae ft) (ae gt)) (ac eJ (ae fC) av)) (ac ex (ac eF (ae fx) av) (ac e6 (ae f0) av))) (ac en (ac eu (ac eD (ae fv) av) (ac eL (ae fH) av)) (ac ez (ac eH (ae fz) av) (ac e9 (ae f1) av)))))
def o4:Params→BT:=(ac ei (ac ej (ac DA (ac eo (ac eA (ae fa) (ae gr)) (ac eI (ae fA) av)) (ac ew (ac eE (ae fw) (ae DB)) (ac eM (ae fI) av))) (ac em (ac et (ac eC (ae fu) (ae gu)) (ac eK (ae fF) av)) (ac ey (ac eG (ae fy) (ae rx)) (ac jg (ae gq) av)))) (ac ea (ac el (ac es (ac eB (ae ft) (ae gt)) (ac eJ (ae fC) av)) (ac ex (ac eF (ae fx) (ae gZ)) (ac e6 (ae f0) av))) (ac en (ac eu (ac eD (ae fv) (ae gY)) (ac eL (ae fH) av)) (ac ez (ac eH (ae fz) av) (ac e9 (ae f1) av)))))
def DT:Params→BT:=(ac ei (ac ej (ac DC (ac eo (ac eA (ae fa) (ae gr)) (ac eI (ae fA) av)) (ac ew (ac eE (ae fw) (ae DD)) (ac eM (ae fI) av))) (ac em (ac et (ac eC (ae fu) (ae gu)) (ac eK (ae fF) av)) (ac ey (ac eG (ae fy) (ae rx)) (ac jg (ae gq) av)))) (ac ea (ac el (ac es (ac eB (ae ft) (ae gt)) (ac eJ (ae fC) av)) (ac ex (ac eF (ae fx) (ae gZ)) (ac e6 (ae f0) av))) (ac en (ac eu (ac eD (ae fv) (ae gY)) (ac eL (ae fH) av)) (ac ez (ac eH (ae fz) (ae DE)) (ac e9 (ae f1) av)))))
def sq:Params→BT:=(ac ei (ac ej (ac xZ (ac eo (ac eA (ae fa) (ae gr)) (ac eI (ae fA) (ae iF))) (ac ew (ac eE (ae fw) (ae DF)) (ac eM (ae fI) av))) (ac em (ac et (ac eC (ae fu) (ae gu)) (ac eK (ae fF) av)) (ac ey (ac eG (ae fy) (ae rx)) (ac jg (ae gq) av)))) (ac ea (ac el (ac es (ac eB (ae ft) (ae gt)) (ac eJ (ae fC) (ae iG))) (ac ex (ac eF (ae fx) (ae gZ)) (ac e6 (ae f0) av))) (ac en (ac eu (ac eD (ae fv) (ae gY)) (ac eL (ae fH) av)) (ac ez (ac eH (ae fz) (ae iE)) (ac e9 (ae f1) av)))))
def o5:Params→BT:=(ac ei (ac ej (ac xZ (ac eo (ac eA (ae fa) (ae gr)) (ac eI (ae fA) (ae iF))) (ac ew (ac eE (ae fw) (ae jh)) (ac eM (ae fI) av))) (ac em (ac et (ac eC (ae fu) (ae gu)) (ac eK (ae fF) av)) (ac ey (ac eG (ae fy) (ae rx)) (ac jg (ae gq) av)))) (ac ea (ac el (ac es (ac eB (ae ft) (ae gt)) (ac eJ (ae fC) (ae iG))) (ac ex (ac eF (ae fx) (ae gZ)) (ac e6 (ae f0) av))) (ac en (ac eu (ac eD (ae fv) (ae gY)) (ac eL (ae fH) av)) (ac ez (ac eH (ae fz) (ae iE)) (ac e9 (ae f1) av)))))
def DU:Params→BT:=(ac ei (ac ej (ac DG (ac eo (ac eA (ae fa) (ae gr)) (ac eI (ae fA) (ae iF))) (ac ew (ac eE (ae fw) (ae jh)) (ac eM (ae fI) av))) (ac em (ac et (ac eC (ae fu) (ae gu)) (ac eK (ae fF) (ae DI))) (ac ey (ac eG (ae fy) (ae DH)) (ac jg (ae gq) av)))) (ac ea (ac el (ac es (ac eB (ae ft) (ae gt)) (ac eJ (ae fC) (ae iG))) (ac ex (ac eF (ae fx) (ae gZ)) (ac e6 (ae f0) av))) (ac en (ac eu (ac eD (ae fv) (ae gY)) (ac eL (ae fH) av)) (ac ez (ac eH (ae fz) (ae iE)) (ac e9 (ae f1) av)))))
def mQ:Params→BT:=(ac ei (ac ej (ac DJ (ac eo (ac eA (ae fa) (ae gr)) (ac eI (ae fA) (ae iF))) (ac ew (ac eE (ae fw) (ae jh)) (ac eM (ae fI) (ae la)))) (ac em (ac et (ac eC (ae fu) (ae gu)) (ac eK (ae fF) (ae k6))) (ac ey (ac eG (ae fy) (ae kZ)) (ac jg (ae gq) av)))) (ac ea (ac el (ac es (ac eB (ae ft) (ae gt)) (ac eJ (ae fC) (ae iG))) (ac ex (ac eF (ae fx) (ae gZ)) (ac e6 (ae f0) av))) (ac en (ac eu (ac eD (ae fv) (ae gY)) (ac eL (ae fH) (ae k9))) (ac ez (ac eH (ae fz) (ae iE)) (ac e9 (ae f1) av)))))
def sr:Params→BT:=(ac ei (ac ej (ac DK (ac eo (ac eA (ac fa (ae lZ) (ae mJ)) (ac gr (ae ms) av)) (ac eI (ac fA (ae mi) av) (ac iF (ae mB) av))) (ac ew (ac eE (ac fw (ae mc) (ae mN)) (ac jh (ae mw) av)) (ac eM (ac fI (ae mn) av) (ac la (ae mF) av)))) (ac em (ac et (ac eC (ac fu (ae l6) (ae mL)) (ac gu (ae mu) av)) (ac eK (ac fF (ae ml) av) (ac k6 (ae mD) av))) (ac ey (ac eG (ac fy (ae me) av) (ac kZ (ae my) av)) (ac DL (ac gq (ae mq) av) (ac lX (ae mH) av))))) (ac ea (ac el (ac es (ac eB (ac ft (ae l1) (ae mK)) (ac gt (ae mt) av)) (ac eJ (ac fC (ae mj) av) (ac iG (ae mC) av))) (ac ex (ac eF (ac fx (ae md) (ae mO)) (ac gZ (ae mx) av)) (ac e6 (ac f0 (ae mo) av) (ac lW (ae mG) av)))) (ac en (ac eu (ac eD (ac fv (ae ma) (ae mM)) (ac gY (ae mv) av)) (ac eL (ac fH (ae mm) av) (ac k9 (ae mE) av))) (ac ez (ac eH (ac fz (ae mh) av) (ac iE (ae mA) av)) (ac e9 (ac f1 (ae mr) av) (ac lY (ae mI) av))))))
def yX:Params→BT:=(ac ei (ac ej (ac DM (ac eo (ac eA (ac fa (ac lZ (ae oJ) av) (ae mJ)) (ac gr (ae ms) (ae ot))) (ac eI (ac fA (ac mi (ae oR) av) (ae oe)) (ac iF (ae mB) (ae oB)))) (ac ew (ac eE (ac fw (ac mc (ae oN) av) (ae mN)) (ac jh (ae mw) (ae ox))) (ac eM (ac fI (ac mn (ae oW) av) (ae oj)) (ac la (ae mF) (ae oF))))) (ac em (ac et (ac eC (ac fu (ac l6 (ae oL) av) (ae mL)) (ac gu (ae mu) (ae ov))) (ac eK (ac fF (ac ml (ae oU) av) (ae oh)) (ac k6 (ae mD) (ae oD)))) (ac ey (ac eG (ac fy (ac me (ae oP) av) (ae oa)) (ac kZ (ae my) (ae oz))) (ac DN (ac gq (ac mq (ae oY) av) (ae om)) (ac lX (ae mH) (ae oH)))))) (ac ea (ac el (ac es (ac eB (ac ft (ac l1 (ae oK) av) (ae mK)) (ac gt (ae mt) (ae ou))) (ac eJ (ac fC (ac mj (ae oT) av) (ae og)) (ac iG (ae mC) (ae oC)))) (ac ex (ac eF (ac fx (ac md (ae oO) av) (ae mO)) (ac gZ (ae mx) (ae oy))) (ac e6 (ac f0 (ac mo (ae oX) av) (ae ol)) (ac lW (ae mG) (ae oG))))) (ac en (ac eu (ac eD (ac fv (ac ma (ae oM) av) (ae mM)) (ac gY (ae mv) (ae ow))) (ac eL (ac fH (ac mm (ae oV) av) (ae oi)) (ac k9 (ae mE) (ae oE)))) (ac ez (ac eH (ac fz (ac mh (ae oQ) av) (ae oc)) (ac iE (ae mA) (ae oA))) (ac e9 (ac f1 (ac mr (ae oZ) av) (ae oq)) (ac lY (ae mI) (ae oI)))))))
def yY:Params→BT:=(ac ei (ac ej (ac DO (ac eo (ac eA (ac fa (ac lZ (ae oJ) (ae sk)) (ac mJ (ae rO) av)) (ac gr (ac ms (ae ry) av) (ac ot (ae r4) av))) (ac eI (ac fA (ac mi (ae oR) av) (ac oe (ae rW) av)) (ac iF (ac mB (ae rG) av) (ac oB (ae sc) av)))) (ac ew (ac eE (ac fw (ac mc (ae oN) av) (ac mN (ae rS) av)) (ac jh (ac mw (ae rC) av) (ac ox (ae r8) av))) (ac eM (ac fI (ac mn (ae oW) av) (ac oj (ae r0) av)) (ac la (ac mF (ae rK) av) (ac oF (ae sg) av))))) (ac em (ac et (ac eC (ac fu (ac l6 (ae oL) (ae sm)) (ac mL (ae rQ) av)) (ac gu (ac mu (ae rA) av) (ac ov (ae r6) av))) (ac eK (ac fF (ac ml (ae oU) av) (ac oh (ae rY) av)) (ac k6 (ac mD (ae rI) av) (ac oD (ae se) av)))) (ac ey (ac eG (ac fy (ac me (ae oP) av) (ac oa (ae rU) av)) (ac kZ (ac my (ae rE) av) (ac oz (ae sa) av))) (ac DP (ac gq (ac mq (ae oY) av) (ac om (ae r2) av)) (ac lX (ac mH (ae rM) av) (ac oH (ae si) av)))))) (ac ea (ac el (ac es (ac eB (ac ft (ac l1 (ae oK) (ae sl)) (ac mK (ae rP) av)) (ac gt (ac mt (ae rz) av) (ac ou (ae r5) av))) (ac eJ (ac fC (ac mj (ae oT) av) (ac og (ae rX) av)) (ac iG (ac mC (ae rH) av) (ac oC (ae sd) av)))) (ac ex (ac eF (ac fx (ac md (ae oO) av) (ac mO (ae rT) av)) (ac gZ (ac mx (ae rD) av) (ac oy (ae r9) av))) (ac e6 (ac f0 (ac mo (ae oX) av) (ac ol (ae r1) av)) (ac lW (ac mG (ae rL) av) (ac oG (ae sh) av))))) (ac en (ac eu (ac eD (ac fv (ac ma (ae oM) (ae sn)) (ac mM (ae rR) av)) (ac gY (ac mv (ae rB) av) (ac ow (ae r7) av))) (ac eL (ac fH (ac mm (ae oV) av) (ac oi (ae rZ) av)) (ac k9 (ac mE (ae rJ) av) (ac oE (ae sf) av)))) (ac ez (ac eH (ac fz (ac mh (ae oQ) av) (ac oc (ae rV) av)) (ac iE (ac mA (ae rF) av) (ac oA (ae sb) av))) (ac e9 (ac f1 (ac mr (ae oZ) av) (ac oq (ae r3) av)) (ac lY (ac mI (ae rN) av) (ac oI (ae sj) av)))))))
def yZ:Params→BT:=(ac ei (ac ej (ac DQ (ac eo (ac eA (ac fa (ac lZ (ae oJ) (ae sk)) (ac mJ (ae rO) (ae ux))) (ac gr (ac ms (ae ry) (ae ug)) (ac ot (ae r4) av))) (ac eI (ac fA (ac mi (ae oR) (ae t8)) (ac oe (ae rW) (ae uF))) (ac iF (ac mB (ae rG) (ae up)) (ac oB (ae sc) av)))) (ac ew (ac eE (ac fw (ac mc (ae oN) (ae t4)) (ac mN (ae rS) (ae uB))) (ac jh (ac mw (ae rC) (ae uk)) (ac ox (ae r8) av))) (ac eM (ac fI (ac mn (ae oW) (ae uc)) (ac oj (ae r0) (ae uJ))) (ac la (ac mF (ae rK) (ae ut)) (ac oF (ae sg) av))))) (ac em (ac et (ac eC (ac fu (ac l6 (ae oL) (ae sm)) (ac mL (ae rQ) (ae uz))) (ac gu (ac mu (ae rA) (ae ui)) (ac ov (ae r6) av))) (ac eK (ac fF (ac ml (ae oU) (ae ua)) (ac oh (ae rY) (ae uH))) (ac k6 (ac mD (ae rI) (ae ur)) (ac oD (ae se) av)))) (ac ey (ac eG (ac fy (ac me (ae oP) (ae t6)) (ac oa (ae rU) (ae uD))) (ac kZ (ac my (ae rE) (ae um)) (ac oz (ae sa) av))) (ac DR (ac gq (ac mq (ae oY) (ae ue)) (ac om (ae r2) av)) (ac lX (ac mH (ae rM) (ae uv)) (ac oH (ae si) av)))))) (ac ea (ac el (ac es (ac eB (ac ft (ac l1 (ae oK) (ae sl)) (ac mK (ae rP) (ae uy))) (ac gt (ac mt (ae rz) (ae uh)) (ac ou (ae r5) av))) (ac eJ (ac fC (ac mj (ae oT) (ae t9)) (ac og (ae rX) (ae uG))) (ac iG (ac mC (ae rH) (ae uq)) (ac oC (ae sd) av)))) (ac ex (ac eF (ac fx (ac md (ae oO) (ae t5)) (ac mO (ae rT) (ae uC))) (ac gZ (ac mx (ae rD) (ae ul)) (ac oy (ae r9) av))) (ac e6 (ac f0 (ac mo (ae oX) (ae ud)) (ac ol (ae r1) (ae uK))) (ac lW (ac mG (ae rL) (ae uu)) (ac oG (ae sh) av))))) (ac en (ac eu (ac eD (ac fv (ac ma (ae oM) (ae sn)) (ac mM (ae rR) (ae uA))) (ac gY (ac mv (ae rB) (ae uj)) (ac ow (ae r7) av))) (ac eL (ac fH (ac mm (ae oV) (ae ub)) (ac oi (ae rZ) (ae uI))) (ac k9 (ac mE (ae rJ) (ae us)) (ac oE (ae sf) av)))) (ac ez (ac eH (ac fz (ac mh (ae oQ) (ae t7)) (ac oc (ae rV) (ae uE))) (ac iE (ac mA (ae rF) (ae uo)) (ac oA (ae sb) av))) (ac e9 (ac f1 (ac mr (ae oZ) (ae uf)) (ac oq (ae r3) av)) (ac lY (ac mI (ae rN) (ae uw)) (ac oI (ae sj) av)))))))
def ji:Params→BT:=(ac ei (ac ej (ac mP (ac eo (ac eA (ac fa (ac lZ (ac oJ (ae yl) av) (ae sk)) (ac mJ (ac rO (ae yS) av) (ae ux))) (ac gr (ac ms (ac ry (ae yC) av) (ae ug)) (ac ot (ae r4) (ae x4)))) (ac eI (ac fA (ac mi (ac oR (ae yu) av) (ae t8)) (ac oe (ae rW) (ae uF))) (ac iF (ac mB (ac rG (ae yK) av) (ae up)) (ac oB (ae sc) (ae yd))))) (ac ew (ac eE (ac fw (ac mc (ac oN (ae yp) av) (ae t4)) (ac mN (ac rS (ae yW) av) (ae uB))) (ac jh (ac mw (ac rC (ae yG) av) (ae uk)) (ac ox (ae r8) (ae x9)))) (ac eM (ac fI (ac mn (ac oW (ae yy) av) (ae uc)) (ac oj (ae r0) (ae uJ))) (ac la (ac mF (ac rK (ae yO) av) (ae ut)) (ac oF (ae sg) (ae yh)))))) (ac em (ac et (ac eC (ac fu (ac l6 (ac oL (ae yn) av) (ae sm)) (ac mL (ac rQ (ae yU) av) (ae uz))) (ac gu (ac mu (ac rA (ae yE) av) (ae ui)) (ac ov (ae r6) (ae x7)))) (ac eK (ac fF (ac ml (ac oU (ae yw) av) (ae ua)) (ac oh (ae rY) (ae uH))) (ac k6 (ac mD (ac rI (ae yM) av) (ae ur)) (ac oD (ae se) (ae yf))))) (ac ey (ac eG (ac fy (ac me (ac oP (ae yr) av) (ae t6)) (ac oa (ae rU) (ae uD))) (ac kZ (ac my (ac rE (ae yI) av) (ae um)) (ac oz (ae sa) (ae yb)))) (ac x0 (ac gq (ac mq (ac oY (ae yA) av) (ae ue)) (ac om (ae r2) (ae x2))) (ac lX (ac mH (ac rM (ae yQ) av) (ae uv)) (ac oH (ae si) (ae yj))))))) (ac ea (ac el (ac es (ac eB (ac ft (ac l1 (ac oK (ae ym) av) (ae sl)) (ac mK (ac rP (ae yT) av) (ae uy))) (ac gt (ac mt (ac rz (ae yD) av) (ae uh)) (ac ou (ae r5) (ae x5)))) (ac eJ (ac fC (ac mj (ac oT (ae yv) av) (ae t9)) (ac og (ae rX) (ae uG))) (ac iG (ac mC (ac rH (ae yL) av) (ae uq)) (ac oC (ae sd) (ae ye))))) (ac ex (ac eF (ac fx (ac md (ac oO (ae yq) av) (ae t5)) (ac mO (ae rT) (ae uC))) (ac gZ (ac mx (ac rD (ae yH) av) (ae ul)) (ac oy (ae r9) (ae ya)))) (ac e6 (ac f0 (ac mo (ac oX (ae yz) av) (ae ud)) (ac ol (ae r1) (ae uK))) (ac lW (ac mG (ac rL (ae yP) av) (ae uu)) (ac oG (ae sh) (ae yi)))))) (ac en (ac eu (ac eD (ac fv (ac ma (ac oM (ae yo) av) (ae sn)) (ac mM (ac rR (ae yV) av) (ae uA))) (ac gY (ac mv (ac rB (ae yF) av) (ae uj)) (ac ow (ae r7) (ae x8)))) (ac eL (ac fH (ac mm (ac oV (ae yx) av) (ae ub)) (ac oi (ae rZ) (ae uI))) (ac k9 (ac mE (ac rJ (ae yN) av) (ae us)) (ac oE (ae sf) (ae yg))))) (ac ez (ac eH (ac fz (ac mh (ac oQ (ae yt) av) (ae t7)) (ac oc (ae rV) (ae uE))) (ac iE (ac mA (ac rF (ae yJ) av) (ae uo)) (ac oA (ae sb) (ae yc)))) (ac e9 (ac f1 (ac mr (ac oZ (ae yB) av) (ae uf)) (ac oq (ae r3) (ae x3))) (ac lY (ac mI (ac rN (ae yR) av) (ae uw)) (ac oI (ae sj) (ae yk))))))))
def iI:Env:={scope:=pw.main.scope,locals:=mainNs,globals:=mainNs,cells:=[],code:=.ref 30,frame:=some 31}
def cd:Code:=.body (behindTheImports pw) iI
def hT (t:BT) (n b:Nat) (a:OsState):SharedT:=⟨t,n,{},#[],⟨0,0,0,0⟩,b,a⟩
def hP (i j:Nat):List Stmt:=((behindTheImports pw).drop i).take j
def DV (P:Params):Obj:=ea P
noncomputable def aK (a:Params→Obj) (l r:Params→KT):Params→KT:=fun P=>.node (some (a P)) (l P) (r P)
noncomputable def aN (a:Params→Obj):Params→KT:=fun P=>.node (some (a P)) .nil .nil
noncomputable def cf:Params→KT:=fun _=>.nil
def o6:Params→KT:=(aK ei (aK ej (aK mP (aK eo (aK eA (aK fa (aK lZ (aK oJ (aN yl) cf) (aN sk)) (aK mJ (aK rO (aN yS) cf) (aN ux))) (aK gr (aK ms (aK ry (aN yC) cf) (aN ug)) (aK ot (aN r4) (aN x4)))) (aK eI (aK fA (aK mi (aK oR (aN yu) cf) (aN t8)) (aK oe (aN rW) (aN uF))) (aK iF (aK mB (aK rG (aN yK) cf) (aN up)) (aK oB (aN sc) (aN yd))))) (aK ew (aK eE (aK fw (aK mc (aK oN (aN yp) cf) (aN t4)) (aK mN (aK rS (aN yW) cf) (aN uB))) (aK jh (aK mw (aK rC (aN yG) cf) (aN uk)) (aK ox (aN r8) (aN x9)))) (aK eM (aK fI (aK mn (aK oW (aN yy) cf) (aN uc)) (aK oj (aN r0) (aN uJ))) (aK la (aK mF (aK rK (aN yO) cf) (aN ut)) (aK oF (aN sg) (aN yh)))))) (aK em (aK et (aK eC (aK fu (aK l6 (aK oL (aN yn) cf) (aN sm)) (aK mL (aK rQ (aN yU) cf) (aN uz))) (aK gu (aK mu (aK rA (aN yE) cf) (aN ui)) (aK ov (aN r6) (aN x7)))) (aK eK (aK fF (aK ml (aK oU (aN yw) cf) (aN ua)) (aK oh (aN rY) (aN uH))) (aK k6 (aK mD (aK rI (aN yM) cf) (aN ur)) (aK oD (aN se) (aN yf))))) (aK ey (aK eG (aK fy (aK me (aK oP (aN yr) cf) (aN t6)) (aK oa (aN rU) (aN uD))) (aK kZ (aK my (aK rE (aN yI) cf) (aN um)) (aK oz (aN sa) (aN yb)))) (aK x0 (aK gq (aK mq (aK oY (aN yA) cf) (aN ue)) (aK om (aN r2) (aN x2))) (aK lX (aK mH (aK rM (aN yQ) cf) (aN uv)) (aK oH (aN si) (aN yj))))))) (aK ea (aK el (aK es (aK eB (aK ft (aK l1 (aK oK (aN ym) cf) (aN sl)) (aK mK (aK rP (aN yT) cf) (aN uy))) (aK gt (aK mt (aK rz (aN yD) cf) (aN uh)) (aK ou (aN r5) (aN x5)))) (aK eJ (aK fC (aK mj (aK oT (aN yv) cf) (aN t9)) (aK og (aN rX) (aN uG))) (aK iG (aK mC (aK rH (aN yL) cf) (aN uq)) (aK oC (aN sd) (aN ye))))) (aK ex (aK eF (aK fx (aK md (aK oO (aN yq) cf) (aN t5)) (aK mO (aN rT) (aN uC))) (aK gZ (aK mx (aK rD (aN yH) cf) (aN ul)) (aK oy (aN r9) (aN ya)))) (aK e6 (aK f0 (aK mo (aK oX (aN yz) cf) (aN ud)) (aK ol (aN r1) (aN uK))) (aK lW (aK mG (aK rL (aN yP) cf) (aN uu)) (aK oG (aN sh) (aN yi)))))) (aK en (aK eu (aK eD (aK fv (aK ma (aK oM (aN yo) cf) (aN sn)) (aK mM (aK rR (aN yV) cf) (aN uA))) (aK gY (aK mv (aK rB (aN yF) cf) (aN uj)) (aK ow (aN r7) (aN x8)))) (aK eL (aK fH (aK mm (aK oV (aN yx) cf) (aN ub)) (aK oi (aN rZ) (aN uI))) (aK k9 (aK mE (aK rJ (aN yN) cf) (aN us)) (aK oE (aN sf) (aN yg))))) (aK ez (aK eH (aK fz (aK mh (aK oQ (aN yt) cf) (aN t7)) (aK oc (aN rV) (aN uE))) (aK iE (aK mA (aK rF (aN yJ) cf) (aN uo)) (aK oA (aN sb) (aN yc)))) (aK e9 (aK f1 (aK mr (aK oZ (aN yB) cf) (aN uf)) (aK oq (aN r3) (aN x3))) (aK lY (aK mI (aK rN (aN yR) cf) (aN uw)) (aK oI (aN sj) (aN yk))))))))
def y0:List String:=["type.__call__","issubclass","issubclass.nested","isinstance","isinstance.nested","object.__getattribute__",
 "getset_descriptor.__get__","object.__class__","tuple.__iter__","tuple_iterator.__next__","str.startswith","len",
 "str.__len__","str.endswith","str.__add__","str.rfind","int.__add__","str.__getitem__","int.__rmul__",
 "str.__mul__","str.__ne__","str.rstrip","str.split","list.__iter__","list_iterator.__next__","str.__eq__",
 "list.append","str.join","map.__new__","object.__init__","tuple.__new__","proto.collect","list.__iadd__",
 "map.__iter__","list.extend.loop","map.__next__","tuple.__len__","tuple.__getitem__","tuple_iterator.__iter__",
 "set.add","int.__hash__","set.__iter__","set_iterator.__next__","list_iterator.__iter__","min","min.loop",
 "list.__lt__","list.__eq__.loop","max","max.loop","list.__gt__","enumerate.__new__","enumerate.__iter__",
 "enumerate.__next__","list.__getitem__","int.__gt__","int.__sub__","int.__rshift__","str.__lt__",
 "list.__setitem__","list.__len__","list.pop","int.__mul__","int.__lt__","str.splitlines","int.__eq__",
 "str.__contains__","int.__new__","chr","int.__neg__","str.replace","re.Pattern.sub","re.Pattern.sub.loop",
 "re.Match.group","str.__iter__","str_iterator.__iter__","str_iterator.__next__","ord","int.__mod__",
 "range.__new__","range.__iter__","range_iterator.__next__","int.__floordiv__","int.__pow__",
 "range_iterator.__iter__","list.__add__","str_ascii_iterator.__iter__","str_ascii_iterator.__next__",
 "str.__hash__","dict.__getitem__","list.__ne__","list.__eq__","zip.__new__","zip.__iter__","zip.__next__",
 "proto.let_go","tuple.__ne__","sorted","list.sort","str.__gt__"]
def dr:Code→Sem Fin:=PySem.W.Fast.tw11892475500146522536 PySem.W.Fast.tw14364793385576792824
theorem ss:dr=denote table:=by
 unfold dr
 rw [←PySem.W.Fast.te11892475500146522536,←PySem.W.Fast.te14364793385576792824,table_eq_tree]
def B0 (w:Yc):bf:={prog:=pw,w,pa:=(w.withFollow "special-get-raises" false).params,pb:=(w.withFollow "special-get-raises" true).params,den:=dr,kt:=o6 w.params,lo:=292,oS:=DV w.params,ef:=PySem.W.Fast.tw15066281185411960212,cr:=PySem.W.Fast.tw10648789137845014744,bd:=@Bind.bind Sem PySem.W.Fast.tw12456147031677567982.toBind Unit Fin,lg:=PySem.W.Fast.tw1578499551869305889 (.Tuple [] 0 ⟨0,0,0,0⟩),words:=["comparison"],ids:=y0}
def y1:Expr:=.Tuple [] 0 ⟨0,0,0,0⟩
theorem DW:PySem.W.Fast.tw1578499551869305889 y1=letOwnedTupleGo y1:=by rw [←PySem.W.Fast.te1578499551869305889]
theorem DX (w:Yc):(B0 w).lg=letOwnedTupleGo (.Tuple [] 0 ⟨0,0,0,0⟩):=DW
def W (b c:Bool) (w:Yc):Yc:=(w.withFollow "special-get-raises" b).withFollow "comprehension-iter-twice" c
theorem DY (w:Yc):W (w.params.followText "special-get-raises") (w.params.followText "comprehension-iter-twice") w=w:=by
 unfold W
 rw [World.withFollow_self,World.withFollow_self]
def su (a:Nat):KT→Nat→Nat→Bool
 | .nil,_,_=>true
 | .node v l r,s,b=>(match v with | some _=>Nat.blt b a | none=>true)&&(su a l (2*s) (s+b)&&su a r (2*s) (2*s+b))
theorem uL {lim:Nat}:∀{t:KT} {s b:Nat},su lim t s b=true→∀{j:Nat} {o:Obj},t.get j=some o→s*j+b<lim
 | .nil,_,_,_,_,_,e=>by cases e
 | .node v l r,s,b,H,j,o,e=>by
  rw [KT.get_node] at e
  simp only [su,Bool.and_eq_true] at H
  by_cases c:j=0
  ·subst c
   rw [if_pos rfl] at e
   subst e
   rw [Nat.mul_zero,Nat.zero_add]
   exact Nat.le_of_ble_eq_true H.1
  ·rw [if_neg c] at e
   by_cases p:j % 2=1
   ·rw [if_pos p] at e
    have z:=uL H.2.1 e
    have:2*s*(j / 2)+(s+b)=s*j+b:=by
     have a:j=2*(j / 2)+1:=by lia
     generalize j / 2=q at a
     subst a
     rw [Nat.mul_add,Nat.mul_one,←Nat.mul_assoc,Nat.mul_comm s 2];lia
    lia
   ·rw [if_neg p] at e
    have z:=uL H.2.2 e
    have:2*s*(j / 2-1)+(2*s+b)=s*j+b:=by
     have a:j=2*(j / 2-1)+2:=by lia
     generalize j / 2-1=q at a
     subst a
     rw [Nat.mul_add,←Nat.mul_assoc,Nat.mul_comm s 2];lia
    lia
def uM (id:String):Bool:=id=="type.__call__" || plainId id
theorem DZ {id:String} (h:uM id=true):nM id:=by
 unfold uM at h
 rcases Bool.or_eq_true_iff.mp h with e | e
 ·rw [beq_iff_eq.mp e];exact Dg
 ·exact wS e
theorem D0:y0.all uM=true:=by decide +kernel
theorem D1 (w:Yc):w.params=(w.withFollow "special-get-raises" false).params∨w.params=(w.withFollow "special-get-raises" true).params:=by
 have e:=World.withFollow_self w "special-get-raises"
 cases h:w.params.followText "special-get-raises" with
 | false=>rw [h] at e;exact .inl (congrArg World.params e.symm)
 | true=>rw [h] at e;exact .inr (congrArg World.params e.symm)
theorem bG (w:Yc):(B0 w).Ok:=by
 refine ⟨ss,D1 w,by show PySem.W.Fast.tw15066281185411960212=_;rw [←PySem.W.Fast.te15066281185411960212],by show PySem.W.Fast.tw10648789137845014744=_;rw [←PySem.W.Fast.te10648789137845014744],by show @Bind.bind Sem PySem.W.Fast.tw12456147031677567982.toBind Unit Fin=_;rw [←PySem.W.Fast.te12456147031677567982];rfl,DX w,fun b o e => ?_,rfl,fun h e => ?_,fun id a=>DZ (List.all_eq_true.mp D0 id a)⟩
 ·have z:=uL (lim:=292) (t:=o6 w.params) (s:=1) (b:=0) (by kernel_rfl) e
  rw [Nat.one_mul,Nat.add_zero] at z
  exact z
 ·refine Heap.NoLimit.of_ok ?_
  unfold Heap.noLimitOk Heap.isNs Heap.nsMap
  rw [e]
  kernel_rfl
def lc:Nat→(Nat→Oc)→List Oc
 | 0,_=>[]
 | k+1,f=>f 0::lc k fun i=>f (i+1)
theorem sw:∀(a:List Oc),∃f,a=lc a.length f
 | []=>⟨fun _=>(0,0,id),rfl⟩
 | o::l=>by
  obtain ⟨f,e⟩:=sw l
  exact ⟨fun i=>match i with | 0=>o | j+1=>f j,by show o::l=o::lc l.length f;rw [←e]⟩
theorem aq {B:bf} {m:Nat}:∀o∈([]:List aH),o.Sure B m:=fun _ h=>nomatch h
theorem aa {B:bf} {m:Nat} {o:aH} {l:List aH} (h:o.Sure B m) (r:∀o∈l,o.Sure B m):∀a∈o::l,a.Sure B m:=by
 intro a b
 rcases List.mem_cons.mp b with rfl | b
 ·exact h
 ·exact r a b
def y2 (x:Option cZ) (c:Yh) (b:Ya) (a:eZ):Prop:=
 x.map (kS c)=some (nP a.1,((b.map (·.1)).zip a.2.1++a.2.2).map some,(kU x).map Ob.r)
def gv (b c:Bool) (w:Yc) (e:List aH) (d:Nat) (a:Yh) (L:Nat) (f:Nat→Oc) (h:Code) (g:Kn) (n i:Nat):Option cZ:=
 d6 ((B0 (W b c w)).sv e) d a (lc L f) [] (.code h) (dr h) g n i []
theorem aA {b c:Bool} {w:Yc} {m:Nat} {s:Code} {g:Ya} {k:Ye→eZ} {orcs:List aH} (y:∀o∈orcs,o.Sure (B0 (W b c w)) m)
  (i L:Nat) (h j:Yh) (t:Nat→Nat→(Nat→Oc)→Nat→Nat) (z:j.Nodup:=by decide) (u:∀a,(k a).2.1.length=g.length:=by intro _;rfl)
  (E:∀n p f,y2 (gv b c w orcs i h L f s g n p) j g (k (t n p f)):=by intro n p f;delta y2;kernel_rfl) (hc:∀id a,s≠.builtin id a:=by intro id a e;cases e):aL (B0 (W b c w)) (m+1) s g k:=by
 have q:∀d:List Oc,∃f,d=lc d.length f:=sw
 refine Ds (bG _) y hc i L h j (fun n p d=>t n p (Classical.choose (q d))) z u fun n p d x => ?_
 have e:=Classical.choose_spec (q d)
 have:=E n p (Classical.choose (q d))
 unfold gv at this
 rw [←x,←e] at this
 exact this
def aB:Yh→Nat→Nat
 | [],_=>0
 | x::l,i=>match i with
  | 0=>x
  | j+1=>aB l j
def aD:Yg:=["=","a","=2F","=2E","=3D","=20","=E9","a=2F","=2F=2E","=2E=3D","=3D=20","=20=E9","=E9a"]
theorem mR {B:bf} (O:B.Ok) {h c:Heap} {l:List Addr} (d:B.In h) (le:h.objs.size≤c.objs.size) (lo:∀a∈l,B.lo≤a) (g:∀b f,h.get? b=some f→b∉l→c.get? b=some f):B.In c:=
 ⟨fun b o e=>g b o (d.1 b o e) fun m=>absurd (O.kt b o e) (Nat.not_lt.mpr (lo b m)),Nat.le_trans d.2 le⟩
theorem aL.trans {B:bf} (O:B.Ok) {m:Nat} {c H:Code} {f:Ya} {g k:Ye→eZ} (R:aL B m c f g) (P:∀j,(g j).1 = .error H) (S:∀j,(g j).2.1.length=f.length)
  (D:∀j,aL B m H ((f.map (·.1)).zip (g j).2.1) k):aL B m c f k:=by
 intro A C h Q J d K G nd L I U
 refine R A C h Q J d K G nd L I fun T y j le N n _ _ => ?_
 rw [P j]
 have z:((f.map (·.1)).zip (g j).2.1).map (·.1)=f.map (·.1):=List.map_fst_zip (by rw [S,List.length_map];exact Nat.le_refl _)
 have lo:∀a∈f.map (·.1),B.lo≤a:=fun a V=>by
  obtain ⟨p,n,rfl⟩:=List.mem_map.mp V
  exact (L p n).2
 refine D j A C T y J d K G (by rw [z];exact nd) (fun p i=>⟨n p i,lo _ (by rw [←z];exact List.mem_map_of_mem i)⟩) (mR O I le lo N) fun w s u t o i q x => ?_
 rw [z] at o i
 exact U w s u (Nat.le_trans le t) (fun b E e F=>o b E (N b E e F) F) i (fun p n=>⟨(q p n).1,Nat.le_trans le (q p n).2⟩) x
theorem aL.re {B:bf} {m:Nat} {c:Code} {need:Ya} {out a:Ye→eZ} (R:aL B m c need out) (h:∀g,∃b,a b=out g):aL B m c need a:=by
 intro A j w k q d s o nd t p x
 refine R A j w k q d s o nd t p fun n i g le z u y f => ?_
 obtain ⟨b,e⟩:=h g
 have:=x n i b le z (by rw [e];exact u) (by rw [e];exact y) (by rw [e];exact f)
 rw [e] at this
 exact this
noncomputable def am (x:Yd) (i:Nat):Obj:={cls:=.type "list_iterator",data:=.fields #[x,.int (i:Int) 0]}
def j7 (t:Nat):Obj:={cls:=.type "StopIteration",data:=.fields (#[.ref t,.none,.none,.none,.bool false,.none]++ownMembersOf (.type "StopIteration") [])}
section
variable {B:bf} {m:Nat}
def cA (c b:Nat) (a:Yb) (i:Nat) (x:Yd):aH:=
 {code:=fun p=>.call (.builtin "list_iterator.__next__") ⟨[.ref (p 1 0)],[]⟩,pl:=[c,b],objs:=fun p=>[(p 1 0,am (.ref (p 2 0)) i),(p 2 0,ab a (p 2 1))],strm:=true,
  out:=fun p _=>(.ret x,[am (.ref (p 2 0)) (i+1),ab a (p 2 1)],[])}
theorem cP {t j:Nat} {a:Yb} {i:Nat} {x:Yd} (u:t≠j) (e:a[i]? = some x):(cA t j a i x).Sure B m:=by
 refine ⟨by simp [cA,u],fun p A _ h n F d G g l k Q E nd s _ H=>d7 ?_⟩
 have c:h.get? (p 1 0)=some (am (.ref (p 2 0)) i):=(s _ (.head _)).1
 have o:h.get? (p 2 0)=some (ab a (p 2 1)):=(s _ (.tail _ (.head _))).1
 have C:p 1 0≠p 2 0:=by
  have:[p 1 0,p 2 0].Nodup:=nd
  simpa using this
 refine wpAny_call_entry slot_listiter_next (show Shared.TypeIs ⟨h,F,d,n,G⟩ (.ref (p 1 0)) "list_iterator" from ⟨_,c,rfl⟩) entry_listiter_next ?_ (args_listiter_next _)
 show wpAny _ _ (field (.ref (p 1 0)) 0 >>= _) _ _ _
 refine wpAny_bind (wpAny_field c rfl (x:=.ref (p 2 0)) rfl ?_)
 show wpAny _ _ (if (Value.ref (p 2 0)==Value.none)=true then _ else _) _ _ _
 rw [if_neg (show ¬((Value.ref (p 2 0)==Value.none)=true) from Bool.false_ne_true)]
 show wpAny _ _ (field (.ref (p 1 0)) 1 >>= _) _ _ _
 refine wpAny_bind (wpAny_field c rfl (x:=.int i 0) rfl ?_)
 show wpAny _ _ (seqItems? (.ref (p 2 0)) >>= _) _ _ _
 refine wpAny_bind (wpAny_seqItems o rfl ?_)
 have I:a.toArray[((i:Nat):Int).toNat]? = some x:=by rw [Int.toNat_natCast,List.getElem?_toArray];exact e
 simp only [I]
 refine wpAny_bind (wpAny_setField c rfl (by simp) (wpAny_pure ⟨x,rfl,?_⟩))
 have f:Heap.SameBut (p 1 0) h (h.update (p 1 0) (Obj.mapFields (·.setIfInBounds 1 (rawInt (i+1))))):=Heap.SameBut.update ..
 refine H _ n (fun _=>0) (fun e=>by cases e) (by rw [f.1];exact Nat.le_refl _) (fun b J q w => ?_) (fun y D => ?_) (fun _ hx=>(nomatch hx)) List.nodup_nil
 ·have:b≠p 1 0:=fun z=>w (by rw [z];exact .head _)
  exact (f.2 _ this).trans q
 ·have:y=(p 1 0,am (.ref (p 2 0)) (i+1))∨y=(p 2 0,ab a (p 2 1)):=by simpa [cA] using D
  rcases this with rfl | rfl
  ·refine (Heap.get?_update_self _ c rfl).trans ?_
   simp [am,Obj.mapFields,rawInt]
  ·exact (f.2 _ (Ne.symm C)).trans o
def fJ (d c:Nat) (b:Yb) (i:Nat):aH:=
 {code:=fun p=>.call (.builtin "list_iterator.__next__") ⟨[.ref (p 1 0)],[]⟩,pl:=[d,c],objs:=fun p=>[(p 1 0,am (.ref (p 2 0)) i),(p 2 0,ab b (p 2 1))],strm:=true,bad:=true,
  out:=fun p a=>(.ret (.ref (a 0)),[am .none i,ab b (p 2 1)],[(a 0,j7 (a 1))])}
theorem iJ {J C:Nat} {f:Yb} {i:Nat} (N:J≠C) (e:f.length≤i):(fJ J C f i).Sure B m:=by
 refine ⟨by simp [fJ,N],fun p A L h D R d S g l k Q E nd I _ T=>d7 ?_⟩
 have j:h.get? (p 1 0)=some (am (.ref (p 2 0)) i):=(I _ (.head _)).1
 have F:h.get? (p 2 0)=some (ab f (p 2 1)):=(I _ (.tail _ (.head _))).1
 have P:p 1 0≠p 2 0:=by
  have:[p 1 0,p 2 0].Nodup:=nd
  simpa using this
 refine wpAny_call_entry slot_listiter_next (show Shared.TypeIs ⟨h,R,d,D,S⟩ (.ref (p 1 0)) "list_iterator" from ⟨_,j,rfl⟩) entry_listiter_next ?_ (args_listiter_next _)
 show wpAny _ _ (field (.ref (p 1 0)) 0 >>= _) _ _ _
 refine wpAny_bind (wpAny_field j rfl (x:=.ref (p 2 0)) rfl ?_)
 show wpAny _ _ (if (Value.ref (p 2 0)==Value.none)=true then _ else _) _ _ _
 rw [if_neg (show ¬((Value.ref (p 2 0)==Value.none)=true) from Bool.false_ne_true)]
 show wpAny _ _ (field (.ref (p 1 0)) 1 >>= _) _ _ _
 refine wpAny_bind (wpAny_field j rfl (x:=.int i 0) rfl ?_)
 show wpAny _ _ (seqItems? (.ref (p 2 0)) >>= _) _ _ _
 refine wpAny_bind (wpAny_seqItems F rfl ?_)
 have U:f.toArray[((i:Nat):Int).toNat]? = none:=by rw [Int.toNat_natCast,List.getElem?_toArray];exact List.getElem?_eq_none e
 simp only [U]
 refine wpAny_bind (wpAny_rule (wpAny_bind (wpAny_setField j rfl (by simp) ?_)))
 show wpAny _ _ (newExc (.type "StopIteration") [] >>= _) _ _ _
 refine wpAny_bind ?_
 simp only [newExc,newTuple]
 refine wpAny_bind (wpAny_newObj_type ?_ (by size_fits))
 refine wpAny_bind (m:=firstArgMember _ _) (wpAny_of_eq (a:=Value.none) (by first | rfl | (simp only [firstArgMember];rfl)) ?_)
 refine wpAny_newObj_type ?_ (by size_fits)
 simp only [raiseNew]
 refine wpAny_bind (wpAny_handled ?_)
 rw [show A.in1.handled=none from L.1]
 refine wpAny_bind (wpAny_pure (wpAny_throw ?_))
 have s:Heap.SameBut (p 1 0) h (h.update (p 1 0) (Obj.mapFields (·.setIfInBounds 0 .none))):=Heap.SameBut.update ..
 have K:(h.update (p 1 0) (Obj.mapFields (·.setIfInBounds 0 .none))).get? (p 1 0)=some (am .none i):=by
  refine (Heap.get?_update_self _ j rfl).trans ?_
  simp [am,Obj.mapFields]
 have G:∀(u:Heap) (o H:Obj) b n,u.get? b=some n→((u.push o).push H).get? b=some n:=fun u o H b n q=>Heap.get?_push_of_some _ (Heap.get?_push_of_some _ q)
 have t:(h.update (p 1 0) (Obj.mapFields (·.setIfInBounds 0 .none))).objs.size=h.objs.size:=s.1
 generalize (h.update (p 1 0) (Obj.mapFields (·.setIfInBounds 0 .none)))=c at s K t ⊢
 have q:=Heap.get?_push_size (c.push {cls:=.type "tuple",data:=.seq ([]:Yb).toArray}) (o:=j7 c.objs.size) rfl
 refine T _ D (fun i=>match i with | 0=>(c.push {cls:=.type "tuple",data:=.seq ([]:Yb).toArray}).objs.size | _=>c.objs.size) (fun e=>by cases e) ?_ (fun b n q O=>G _ _ _ _ _ ?_) (fun y w=>G _ _ _ _ _ ?_) (fun y w => ?_) (by simp [fJ])
 ·rw [Heap.size_push,Heap.size_push,t];exact Nat.le_add_right _ 2
 ·have:b≠p 1 0:=fun z=>O (by rw [z];exact .head _)
  exact (s.2 _ this).trans q
 ·have:y=(p 1 0,am .none i)∨y=(p 2 0,ab f (p 2 1)):=by simpa [fJ] using w
  rcases this with rfl | rfl
  ·exact K
  ·exact (s.2 _ (Ne.symm P)).trans F
 ·have:y=((c.push {cls:=.type "tuple",data:=.seq ([]:Yb).toArray}).objs.size,j7 c.objs.size):=by simpa [fJ] using w
  subst this
  exact ⟨q,by rw [Heap.size_push,t];exact Nat.le_succ _⟩
end
section
variable {B:bf} {m:Nat}
def iK (id:String) (j:Nat) (d:Yb) (a:af→Yb) (v:af→Ye→Yd) (b:af→Yb):aH:=
 {code:=fun p=>.call (.builtin id) ⟨.ref (p 1 0)::a p,[]⟩,pl:=[j],objs:=fun p=>[(p 1 0,ab d (p 1 1))],strm:=true,out:=fun p c=>(.ret (v p c),[ab (b p) (c 1)],[])}
theorem lf {id:String} {j:Nat} {n:Yb} {a:af→Yb} {v:af→Ye→Yd} {c:af→Yb}
  (H:∀(p:af) (A:Around) (s:Shared) (Q:Yd→Shared→Prop) (E:Yd→Shared→Prop),s.heap.get? (p 1 0)=some (ab n (p 1 1))→
   (∀f i k,Heap.SameBut (p 1 0) s.heap f→f.get? (p 1 0)=some (ab (c p) (i 1))→Q (v p i) {s with heap:=f,toks:=k})→wpAny B.M A (call (.builtin id) (.ref (p 1 0)::a p)) Q E s):(iK id j n a v c).Sure B m:=by
 refine ⟨by simp [iK],fun p A _ h F G d I g l k Q E _ w _ y=>d7 (H p A _ _ _ (w _ (.head _)).1 fun f i t o C => ?_)⟩
 refine y f t i (fun e=>by cases e) (by rw [o.1];exact Nat.le_refl _) (fun b D e u => ?_) (fun x hx => ?_) (fun _ hx=>(nomatch hx)) List.nodup_nil
 ·have:b≠p 1 0:=fun z=>u (by rw [z];exact .head _)
  exact (o.2 b this).trans e
 ·have:x=(p 1 0,ab (c p) (i 1)):=by simpa [iK] using hx
  subst this
  exact C
theorem D2 {c:Program} {w:Yc} {A:Around} {E:Yd→Shared→Prop} {s:Shared} {l:Addr} {a:Array Yd} {k:Int} {t:Tok} {x:Yd} {Q:Yd→Shared→Prop} (e:s.heap.IsList l a)
  (f:0≤k) (b:k<2 ^ 63) (hx:a[k.toNat]? = some x) (h:Q x s):wpAny (model c w) A (call (.builtin "list.__getitem__") [.ref l,.int k t]) Q E s:=by
 obtain ⟨o,i,n,p,g⟩:=id e
 refine wpAny_call_entry slot_list_getitem e.typeIs entry_list_getitem ?_ (args_list_getitem _ _)
 show wpAny _ _ (Builtin.List.listSubscript? (.int k t) >>= _) _ _ s
 refine wpAny_bind (wpAny_listSubscript_int (fitsIndex_of f b) ?_)
 clear b
 obtain ⟨j,rfl⟩:=Int.eq_ofNat_of_zero_le f
 have d:a[j]? = some x:=hx
 show wpAny _ _ ((seqItemAt l j >>= fun r=>pure (r.map (j,·))) >>= _) _ _ s
 refine wpAny_bind (wpAny_bind (wpAny_seqItemAt i g (wpAny_pure ?_)))
 rw [d]
 exact wpAny_pure ⟨x,rfl,h⟩
theorem D3 {c:Program} {w:Yc} {A:Around} {E:Yd→Shared→Prop} {s:Shared} {l:Addr} {o:Obj} {a:Array Yd} {n:Nat} {k:Int} {t:Tok} {v:Yd} {Q:Yd→Shared→Prop} (f:s.heap.get? l=some o) (i:o.cls = .type "list") (d:o.data = .seq a n)
  (g:0≤k) (b:k<2 ^ 63) (x:k<a.size) (q:Q .none {s with heap:=s.heap.update l (Obj.mapSeq (·.setIfInBounds k.toNat v))}) :
  wpAny (model c w) A (call (.builtin "list.__setitem__") [.ref l,.int k t,v]) Q E s:=by
 have u:s.heap.IsList l a:=⟨o,f,i,n,d⟩
 refine wpAny_call_entry slot_list_setitem u.typeIs entry_list_setitem ?_ (args_list_setitem _ _ _)
 show wpAny _ _ (Builtin.List.listSubscript? (.int k t) >>= _) _ _ s
 refine wpAny_bind (wpAny_listSubscript_int (fitsIndex_of g b) ?_)
 clear b
 obtain ⟨j,rfl⟩:=Int.eq_ofNat_of_zero_le g
 have p:j<a.size:=by lia
 have e:a[j]? = some a[j]:=Array.getElem?_eq_getElem p
 show wpAny _ _ ((seqItemAt l j >>= fun r=>pure (r.map (j,·))) >>= _) _ _ s
 refine wpAny_bind (wpAny_bind (wpAny_seqItemAt f d (wpAny_pure ?_)))
 rw [e]
 show wpAny _ _ (setSeqItemAt l j v >>= _) _ _ s
 refine wpAny_bind (wpAny_setSeqItemAt f d ?_)
 exact wpAny_pure ⟨.none,rfl,q⟩
def cK (j:Nat) (a:Yb) (i:Int) (x:Yd):aH:=iK "list.__getitem__" j a (fun p=>[.int i (p 0 1)]) (fun _ _=>x) fun _=>a
theorem cQ {j:Nat} {a:Yb} {i:Int} {x:Yd} (d:0≤i) (f:i<2 ^ 63) (e:a[i.toNat]? = some x):(cK j a i x).Sure B m:=by
 refine lf fun p A s Q E b h => ?_
 have c:s.heap.IsList (p 1 0) a.toArray:=⟨_,b,rfl,p 1 1,rfl⟩
 exact D2 c d f (by rw [List.getElem?_toArray];exact e) (h s.heap (fun _=>p 1 1) s.toks ⟨rfl,fun _ _=>rfl⟩ b)
def fb (j:Nat) (a:Yb) (i:Int) (x:Str):aH:=iK "list.__setitem__" j a (fun p=>[.int i (p 0 1),.str x (p 0 2)]) (fun _ _=>.none) fun p=>a.set i.toNat (.str x (p 0 2))
theorem gw {j:Nat} {a:Yb} {i:Int} {x:Str} (d:0≤i) (f:i<2 ^ 63) (c:i<a.length):(fb j a i x).Sure B m:=by
 refine lf fun p A s Q E b h => ?_
 refine D3 b rfl rfl d f (by rw [List.size_toArray];exact c) ?_
 have e:Heap.SameBut (p 1 0) s.heap (s.heap.update (p 1 0) (Obj.mapSeq (·.setIfInBounds i.toNat (.str x (p 0 2))))):=Heap.SameBut.update ..
 refine h _ (fun _=>p 1 1) s.toks e ?_
 refine (Heap.get?_update_self _ b rfl).trans ?_
 show some (Obj.mapSeq _ (ab a (p 1 1)))=some (ab (a.set i.toNat (.str x (p 0 2))) (p 1 1))
 unfold Obj.mapSeq ab
 simp
def f2 (j:Nat) (a:Yb) (x:Str):aH:=iK "list.append" j a (fun p=>[.str x (p 0 1)]) (fun _ _=>.none) fun p=>a++[.str x (p 0 1)]
theorem gz {j:Nat} {a:Yb} {x:Str} (c:a.length≤1000):(f2 j a x).Sure B m:=by
 refine lf fun p A s Q E b h => ?_
 have e:IsL s.heap (p 1 0) a.toArray (p 1 1):=b
 refine call_meets F.slot_list_append ⟨_,b,rfl⟩ F.entry_list_append (F.args_list_append_2 _ _) (list_append (p 1 0) a.toArray (p 1 1) (.str x (p 0 1)) (by rw [List.size_toArray];exact Nat.le_trans c (by decide))) ⟨b,?_⟩
 have d:Heap.SameBut (p 1 0) s.heap (s.heap.update (p 1 0) (Obj.mapSeq fun y=>y.push (.str x (p 0 1)))):=Heap.SameBut.update ..
 refine h _ (fun _=>p 1 1+1) s.toks d ?_
 refine (Heap.get?_update_self _ b rfl).trans ?_
 show some (Obj.mapSeq _ (ab a (p 1 1)))=some (ab (a++[.str x (p 0 1)]) (p 1 1+1))
 unfold Obj.mapSeq ab
 simp
end
section
variable {B:bf} {m:Nat}
def uN (j:Nat) (a:Yb) (y:Yd):aH:=iK "list.pop" j (a++[y]) (fun _=>[]) (fun _ _=>y) fun _=>a
theorem y3 {j:Nat} {a:Yb} {y:Yd} (d:a.length≤1000):(uN j a y).Sure B m:=by
 refine lf fun p A s Q E c h => ?_
 have b:(a++[y]).toArray.size≤sizeLine:=by
  rw [List.size_toArray,List.length_append]
  exact Nat.le_trans (Nat.add_le_add_right d 1) (by decide)
 refine call_meets F.slot_list_pop ⟨_,c,rfl⟩ F.entry_list_pop (F.args_list_pop_1 _) (MeetsSeq.list_pop_last (p 1 0) (a++[y]).toArray (p 1 1) y (by simp) b) ⟨c,?_⟩
 refine h _ (fun _=>p 1 1+1) s.toks (Heap.SameBut.update ..) ?_
 refine (Heap.get?_update_self _ c rfl).trans ?_
 show some (Obj.mapSeq _ (ab (a++[y]) (p 1 1)))=some (ab a (p 1 1+1))
 unfold Obj.mapSeq ab
 simp [Array.eraseIdxIfInBounds,List.eraseIdx_append_of_length_le]
def uO (j:Nat) (a:Yb) (n:Int):aH:=iK "len" j a (fun _=>[]) (fun _ b=>.int n (b 0)) fun _=>a
theorem y4 {j:Nat} {a:Yb} {n:Int} (e:(a.length:Int)=n) (d:a.length≤1000):(uO j a n).Sure B m:=by
 refine lf fun p A s Q E b h => ?_
 have c:s.heap.IsList (p 1 0) a.toArray:=⟨_,b,rfl,p 1 1,rfl⟩
 refine len_list c (by rw [List.size_toArray];lia) ?_
 rw [List.size_toArray,e]
 exact h s.heap (fun i=>match i with | 0=>s.toks+1 | _=>p 1 1) _ ⟨rfl,fun _ _=>rfl⟩ b
def o7 (j:Nat) (a:Yb) (n:Int):aH:=
 {code:=fun p=>.builtin "len" ⟨[.ref (p 1 0)],[]⟩,pl:=[j],objs:=fun p=>[(p 1 0,ab a (p 1 1))],strm:=true,out:=fun p b=>(.ret (.int n (b 0)),[ab a (p 1 1)],[])}
theorem y5 {j:Nat} {a:Yb} {n:Int} (e:(a.length:Int)=n) (z:a.length≤1000):(o7 j a n).Sure B m:=by
 refine ⟨by simp [o7],fun p A _ h c u d w g l k Q E _ b _ y => ?_⟩
 have i:=(b _ (.head _)).1
 have t:h.IsList (p 1 0) a.toArray:=⟨_,i,rfl,p 1 1,rfl⟩
 refine x_call (hd:=none) ?_ (by intro e;cases e)
 refine codeAny_builtin entry_len (wpAny_mono (wpAny_len_body_list (s:=⟨h,u,d,c,w⟩) (Q:=fun v f=>wpAny B.M A (k (.ok (.ret v))) Q E f) t (by rw [List.size_toArray];lia) ?_) ?_ fun _ _ q=>q)
 ·rw [List.size_toArray,e]
  exact y h _ (fun _=>c+1) (fun e=>by cases e) (Nat.le_refl _) (fun _ _ e _=>e) (fun x hx=>by
   have:x=(p 1 0,ab a (p 1 1)):=by simpa [o7] using hx
   subst this;exact i) (fun _ hx=>(nomatch hx)) List.nodup_nil
 ·rintro o f ⟨r,rfl,q⟩
  exact q
end
def o8:Option cZ→Code
 | some o=>match o.r with
  | .cut c _ _=>c
  | _=>.call .none ⟨[],[]⟩
 | none=>.call .none ⟨[],[]⟩
def hY:Code→Bool
 | .builtin _ _=>true
 | _=>false
theorem aS {c:Code} (h:hY c=false):∀id a,c≠.builtin id a:=by
 rintro id a rfl
 cases h
noncomputable def aG (w:Yc) (a:List (Str×Nat×Yd)) (n:Nat):Obj:={cls:=.type "frame",data:=.dict (a.map fun e=>⟨reduceHash (w.params.strHash e.1.cps),.str e.1 e.2.1,e.2.2⟩).toArray n}
def gA (w:Yc) (a:Nat):Code:=o8 (gv false false w [] 45 [0,0,2,1,2,1,2,1,0,0,2,2,1,1,1,0,1,0,54,1,2,1,1] 0 (fun _=>(0,0,id)) (.call (.ref 128) ⟨[.ref 2001,.int 0 81,.int 0 82],[]⟩) [(2001,ab [.str "" 77] 4)] a 0)
theorem mS (w:Yc) (a:Nat):hY (gA w a)=false:=by kernel_rfl
section
open SeqAt MeetsSeq3
open AutoSeq1 (wpAny_loadPart')
def bc (p:af) (j:Nat):Yg→Nat→Yb
 | [],_=>[]
 | x::r,i=>.str x (p j i)::bc p j r (i+1)
theorem uP (p:af) (j:Nat):∀(l:Yg) (i:Nat),(bc p j l i).length=l.length
 | [],_=>rfl
 | _::r,i=>by show (bc p j r (i+1)).length+1=_;rw [uP p j r];rfl
theorem o9 (p:af) (j:Nat):∀(l:Yg) (i:Nat),StrsAre (bc p j l i) l
 | [],_=>.nil
 | x::r,i=>.cons x _ (o9 p j r (i+1))
def aP:Yg→Yg→Bool
 | x::b,y::a=>if x==y then aP b a else decide (x.cps.toList<y.cps.toList)
 | b,a=>decide (b.length<a.length)
theorem mT {a:Yb} {b:Yg} (h:StrsAre a b):∀i:Nat,(a[i]? = none∧b[i]? = none)∨∃(x:Str) (t:Nat),a[i]? = some (Value.str x t)∧b[i]? = some x:=by
 induction h with
 | nil=>intro i;exact .inl ⟨rfl,rfl⟩
 | cons y t h c=>
  intro i
  cases i with
  | zero=>exact .inr ⟨y,t,rfl,rfl⟩
  | succ i=>exact c i
theorem hZ {vs:Yb} {a:Yg} (h:StrsAre vs a):vs.length=a.length:=by
 induction h with
 | nil=>rfl
 | cons y t h b=>rw [List.length_cons,List.length_cons,b]
theorem y7 {a:Yg} {i:Nat} (h:a[i]? = none):a.drop i=[]:=List.drop_of_length_le (List.getElem?_eq_none_iff.mp h)
theorem sx {a:Yg} {i:Nat} {x:Str} (h:a[i]? = some x):a.drop i=x::a.drop (i+1):=by
 obtain ⟨b,e⟩:=List.getElem?_eq_some_iff.mp h
 rw [List.drop_eq_getElem_cons b,e]
theorem mU (a:Yg):aP [] a=decide (0<a.length):=by cases a <;> rfl
theorem D4 (x:Str) (a:Yg):aP (x::a) []=false:=rfl
theorem D5 (l b:Addr) (a f:Yb) (o E:Yg) (n n2:Nat) (K:StrsAre a o) (L:StrsAre f E) (k:Nat) :
  ∀i:Nat,i≤o.length→i≤E.length→o.length-i=k→Meets (Builtin.«list.__eq__.loop» ⟨[.ref l,.ref b,rawInt i,rawInt 0],[]⟩)
   (fun A R s=>s.heap.get? l=some (ab a n)∧s.heap.get? b=some (ab f n2)∧R (.ok (.ret (.bool (aP (o.drop i) (E.drop i))))) s):=by
 have lv:=hZ K
 have Y:=hZ L
 induction k with
 | zero=>
  intro i hx S X j w A R s h
  obtain ⟨V,g,d,Q,U⟩:=s;obtain ⟨e,c,h⟩:=h
  unfold ab at e c
  wp_walk using wpAny_loadPart' e,wpAny_loadPart' c
  have G:a[i]? = none:=List.getElem?_eq_none (by omega)
  have D:a.toArray[((i:Nat):Int).toNat]? = none:=by rw [Int.toNat_natCast,List.getElem?_toArray];exact G
  have N:o.drop i=[]:=List.drop_of_length_le (by omega)
  rw [N,mU] at h
  rw [D]
  wp_walk using wpAny_loadPart' e,wpAny_loadPart' c
  show R (.ok (.ret (.bool (decide (a.toArray.size<f.toArray.size))))) _
  have:decide (a.toArray.size<f.toArray.size)=decide (0<(E.drop i).length):=by
   rw [List.size_toArray,List.size_toArray,List.length_drop]
   exact decide_eq_decide.mpr (by omega)
  rw [this]
  exact h
 | succ k O=>
  intro i hx S X j w A R s h
  obtain ⟨V,g,d,Q,U⟩:=s;obtain ⟨e,c,h⟩:=h
  have J:=e
  have I:=c
  unfold ab at e c
  wp_walk using wpAny_loadPart' e,wpAny_loadPart' c
  obtain ⟨x,t,ev,T⟩:∃x t,a[i]? = some (.str x t)∧o[i]? = some x:=by
   rcases mT K i with h | h
   ·have:=List.getElem?_eq_none_iff.mp h.2;omega
   ·exact h
  have D:a.toArray[((i:Nat):Int).toNat]? = some (.str x t):=by rw [Int.toNat_natCast,List.getElem?_toArray];exact ev
  rw [sx T] at h
  rw [D]
  rcases mT L i with ⟨H,q⟩ | ⟨y,u,H,q⟩
  ·have C:f.toArray[((i:Nat):Int).toNat]? = none:=by rw [Int.toNat_natCast,List.getElem?_toArray];exact H
   rw [C]
   rw [y7 q,D4] at h
   wp_walk using wpAny_loadPart' e,wpAny_loadPart' c
   show R (.ok (.ret (.bool (decide (a.toArray.size<f.toArray.size))))) _
   have:decide (a.toArray.size<f.toArray.size)=false:=by
    rw [List.size_toArray,List.size_toArray]
    have:=List.getElem?_eq_none_iff.mp q
    exact decide_eq_false (by omega)
   rw [this]
   exact h
  ·have C:f.toArray[((i:Nat):Int).toNat]? = some (.str y u):=by rw [Int.toNat_natCast,List.getElem?_toArray];exact H
   rw [C]
   rw [sx q] at h
   have P:((i:Int)+1)=((i+1:Nat):Int):=by push_cast;rfl
   refine wpAny_bind (eqBool_str ?_)
   unfold aP at h
   cases p:x==y with
   | true=>
    rw [p,if_pos rfl] at h
    wp_walk
    rw [P]
    exact ⟨plainId_quiet plain_eq_loop _,codeAny_builtin entry_eq_loop (by
     rw [Around.under_plainId plain_eq_loop _]
     have Z:=(List.getElem?_eq_some_iff.mp q).1
     exact O (i+1) (by omega) (by omega) (by omega) j w A R _ ⟨J,I,h⟩)⟩
   | false=>
    rw [p,if_neg (by decide)] at h
    wp_walk using wpAny_loadPart' e,wpAny_loadPart' c
    rw [D,C]
    refine wpAny_bind (richCompare_gives (op:=.Lt) (typeIs_str _ _ _) (typeIs_str _ _ _) F.slot_str_lt F.entry_str_lt (F.args_str_lt_2 _ _) (gives_str_lt _ _ _ _) (fun z=>nomatch z) ?_)
    exact wpAny_pure h
theorem y8 (l b:Addr) (c k:Yb) (e j:Yg) (n n2:Nat) (p:StrsAre c e) (q:StrsAre k j) :
  Meets (Builtin.«list.__lt__» ⟨[.ref l,.ref b],[]⟩)
   (fun A R s=>s.heap.get? l=some (ab c n)∧s.heap.get? b=some (ab k n2)∧R (.ok (.ret (.bool (aP e j)))) s):=by
 intro a w A R s h
 obtain ⟨y,g,d,t,x⟩:=s;obtain ⟨i,f,h⟩:=h
 have o:=And.intro i f
 unfold ab at i f
 have u:=AutoSeq1.sub_list_list
 wp_walk using wpAny_loadPart' i,wpAny_loadPart' f
 exact ⟨plainId_quiet plain_eq_loop _,codeAny_builtin entry_eq_loop (by
  rw [Around.under_plainId plain_eq_loop _]
  exact D5 l b c k e j n n2 p q _ 0 (Nat.zero_le _) (Nat.zero_le _) rfl a w A R _ ⟨o.1,o.2,h⟩)⟩
theorem uQ {A:Around} {s:Shared} {d f:Yb} {g h:Yg} (k:StrsAre d g) (n:StrsAre f h):∀j (c:j<d.toArray.size) (b:j<f.toArray.size),EqAt A s d.toArray[j] f.toArray[j] (g[j]? == h[j]?):=by
 intro j c b
 rw [List.size_toArray] at c b
 rcases mT k j with ⟨e,_⟩ | ⟨x,t,e,o⟩
 ·rw [List.getElem?_eq_getElem c] at e;cases e
 ·rcases mT n j with ⟨a,_⟩ | ⟨y,u,a,i⟩
  ·rw [List.getElem?_eq_getElem b] at a;cases a
  ·rw [List.getElem?_eq_getElem c] at e
   rw [List.getElem?_eq_getElem b] at a
   rw [List.getElem_toArray,List.getElem_toArray,Option.some.inj e,Option.some.inj a,o,i]
   have:(some x==some y)=(x==y):=rfl
   rw [this]
   exact EqAt.str_str x t y u
section
variable {B:bf} {m:Nat}
noncomputable def az (l:Yb) (n:Nat):Obj:={cls:=.type "tuple",data:=.seq l.toArray n}
end
end
section
open SeqAt MeetsSeq3
def bH:Ya→Yf
 | []=>[]
 | x::l=>x.2::bH l
theorem uR:∀l:Ya,bH l=l.map (·.2)
 | []=>rfl
 | x::l=>by show x.2::bH l=_;rw [uR l];rfl
theorem sy (l:Ya):(l.map (·.1)).zip (bH l)=l:=by
 rw [uR]
 induction l with
 | nil=>rfl
 | cons x l a=>rw [List.map_cons,List.map_cons,List.zip_cons_cons,a]
section
variable {B:bf} {m:Nat}
end
end
theorem jj {a:Ya} {b:Yf} (h:b.length=a.length):((a.map (·.1)).zip b).map (·.1)=a.map (·.1):=List.map_fst_zip (by rw [h,List.length_map];exact Nat.le_refl _)
theorem aL.andThen {B:bf} (O:B.Ok) {m:Nat} {c Q:Code} {need:Ya} {j k:Ye→eZ} {out2:Ye→Ye→eZ} (R:aL B m c need j) (X:∀f,(j f).1 = .error Q) (hz:∀f,(j f).2.1.length=need.length)
  (D:∀f,aL B m Q ((need.map (·.1)).zip (j f).2.1) (out2 f)) (y:∀f i,∃n,k n=((out2 f i).1,(out2 f i).2.1,(j f).2.2++(out2 f i).2.2)):aL B m c need k:=by
 intro A K h Y T d U P nd G S hR
 refine R A K h Y T d U P nd G S fun h' H f le V g t I => ?_
 rw [X f]
 have J:=jj (hz f)
 have lo:∀a∈need.map (·.1),B.lo≤a:=fun a t=>by
  obtain ⟨p,g,rfl⟩:=List.mem_map.mp t
  exact (G p g).2
 have lt:∀a∈need.map (·.1),a<h.objs.size:=fun a t=>by
  obtain ⟨p,g,rfl⟩:=List.mem_map.mp t
  exact Heap.lt_size (G p g).1
 refine D f A K h' H T d U P (by rw [J];exact nd) (fun p w=>⟨g p w,lo _ (by rw [←J];exact List.mem_map_of_mem w)⟩) (mR O S le lo V) fun C x i F s u o E => ?_
 rw [J] at s u
 obtain ⟨n,e⟩:=y f i
 have z:=hR C x n (Nat.le_trans le F) (fun b L q N=>s b L (V b L q N) N) (by rw [e];exact u) ?_ ?_
 ·rw [e] at z;exact z
 ·rw [e]
  intro p g
  rcases List.mem_append.mp g with g | g
  ·have q:=t p g
   exact ⟨s p.1 p.2 q.1 fun Z=>absurd (lt _ Z) (Nat.not_lt.mpr q.2),q.2⟩
  ·exact ⟨(o p g).1,Nat.le_trans le (o p g).2⟩
 ·rw [e]
  show (((j f).2.2++(out2 f i).2.2).map (·.1)).Nodup
  rw [List.map_append]
  refine List.nodup_append.mpr ⟨I,E,fun a h1 b h2 => ?_⟩
  obtain ⟨p,g,rfl⟩:=List.mem_map.mp h1
  obtain ⟨q,hq,rfl⟩:=List.mem_map.mp h2
  exact Nat.ne_of_lt (Nat.lt_of_lt_of_le (Heap.lt_size (t p g).1) (o q hq).2)
theorem D6 {l:Ya} (nd:(l.map (·.1)).Nodup) {p q:Addr×Obj} (d:p∈l) (c:q∈l) (e:p.1=q.1):p=q:=by
 induction l with
 | nil=>cases d
 | cons x l f=>
  rw [List.map_cons,List.nodup_cons] at nd
  rcases List.mem_cons.mp d with b | b
  ·rcases List.mem_cons.mp c with a | a
   ·rw [b,a]
   ·exact absurd (by rw [←b,e];exact List.mem_map_of_mem a) nd.1
  ·rcases List.mem_cons.mp c with a | a
   ·exact absurd (by rw [←a,←e];exact List.mem_map_of_mem b) nd.1
   ·exact f nd.2 b a
theorem iL {α β : Type}:∀{a b:List α} {c d:List β},a.length=c.length→(a++b).zip (c++d)=a.zip c++b.zip d
 | [],_,[],_,_=>rfl
 | [],_,_::_,_,h=>by cases h
 | _::_,_,[],_,h=>by cases h
 | x::a,b,y::c,d,h=>by
  show (x,y)::(a++b).zip (c++d)=(x,y)::(a.zip c++b.zip d)
  rw [iL (a:=a) (c:=c) (by simpa using h)]
theorem aL.lift {B:bf} {m:Nat} {c:Code} {need src:Ya} (f:Ya) {k:Ye→Except Code Flow} {o:Ye→Yf} {ads:Ye→Ya} (R:aL B m c (need++src) fun i=>(k i,o i++bH src,ads i))
  (P:∀i,(o i).length=need.length) (sub:∀p∈src,p∈f) (C:(src.map (·.1)).Nodup):aL B m c (need++f) fun i=>(k i,o i++bH f,ads i):=by
 intro A L h O X d Y T nd I V Z
 rw [List.map_append,List.nodup_append] at nd
 obtain ⟨F,ndS,w⟩:=nd
 have s:∀a∈src.map (·.1),a∈f.map (·.1):=fun a D=>by
  obtain ⟨p,n,rfl⟩:=List.mem_map.mp D
  exact List.mem_map_of_mem (sub p n)
 refine R A L h O X d Y T ?_ (fun p n=>I p ?_) V fun G E i le J n D z=>Z G E i le (fun b N q Q=>J b N q fun j=>Q ?_) (fun x hx => ?_) D z
 ·rw [List.map_append,List.nodup_append]
  exact ⟨F,C,fun a h1 b U=>w a h1 b (s b U)⟩
 ·rcases List.mem_append.mp n with n | n
  ·exact List.mem_append_left _ n
  ·exact List.mem_append_right _ (sub p n)
 ·rw [List.map_append] at j ⊢
  rcases List.mem_append.mp j with j | j
  ·exact List.mem_append_left _ j
  ·exact List.mem_append_right _ (s b j)
 ·have e:∀l:Ya,((need++l).map (·.1)).zip (o i++bH l)=(need.map (·.1)).zip (o i)++l:=fun l=>by
   rw [List.map_append,iL (by rw [List.length_map,P]),sy]
  have u:∀y∈(need.map (·.1)).zip (o i)++src,G.get? y.1=some y.2:=fun y S=>n y (by rw [e];exact S)
  have g:x∈(need.map (·.1)).zip (o i)++f:=by rw [←e];exact hx
  rcases List.mem_append.mp g with g | g
  ·exact u x (List.mem_append_left _ g)
  ·by_cases H:x.1∈src.map (·.1)
   ·obtain ⟨p,t,K⟩:=List.mem_map.mp H
    have:p=x:=D6 ndS (sub p t) g K
    subst this
    exact u _ (List.mem_append_right _ t)
   ·refine J x.1 x.2 (I x (List.mem_append_right _ g)).1 fun j => ?_
    rw [List.map_append] at j
    rcases List.mem_append.mp j with j | j
    ·exact w _ j _ (List.mem_map_of_mem g) rfl
    ·exact H j
structure aI (B:bf) (m:Nat) {α : Type} (t:Sem α) (need:Ya) (out:Ye→α×Yf×Ya):Prop where
 go:∀(A:Around),Lv m A→∀(h:Heap) (tk:Nat) (gs:Array GenState) (d:Drawn) (os:OsState) (Q : α→Shared→Prop) (E:Yd→Shared→Prop),
  (need.map (·.1)).Nodup→(∀p∈need,h.get? p.1=some p.2∧B.lo≤p.1)→B.In h→
  (∀(h':Heap) (tk':Nat) (ax:Ye),h.objs.size≤h'.objs.size→(∀b ob,h.get? b=some ob→b∉need.map (·.1)→h'.get? b=some ob)→
   (∀x∈(need.map (·.1)).zip (out ax).2.1,h'.get? x.1=some x.2)→(∀p∈(out ax).2.2,h'.get? p.1=some p.2∧h.objs.size≤p.1)→((out ax).2.2.map (·.1)).Nodup→
   Q (out ax).1 ⟨h',gs,d,tk',os⟩)→
  wpAny B.M A t Q E ⟨h,gs,d,tk,os⟩
def ia:Nat→Kn→Kn
 | 0,T=>T
 | _+1,[]=>[]
 | k+1,_::T=>ia k T
theorem sA:∀{k:Nat} {T:Kn} {p:Addr×Obj},p∈ia k T→p∈T
 | 0,_,_,h=>h
 | _+1,[],_,h=>h
 | k+1,x::T,p,h=>.tail _ (sA (k:=k) (T:=T) h)
theorem y9:∀(k:Nat) (T:Kn),ia k T=T.drop k
 | 0,T=>rfl
 | _+1,[]=>rfl
 | k+1,x::T=>by show ia k T=T.drop k;exact y9 k T
theorem D7 {k:Nat} {T:Kn} (h:(T.map (·.1)).Nodup):((ia k T).map (·.1)).Nodup:=by
 rw [y9,List.map_drop]
 exact List.Sublist.nodup (List.drop_sublist _ _) h
theorem za:∀{i k:Nat} {T:Kn} {p q:Addr×Obj},(T.map (·.1)).Nodup→i<k→bW T i=some p→q∈ia k T→p.1≠q.1
 | _,_,[],_,_,_,_,h,_=>by cases h
 | 0,k+1,x::T,p,q,nd,_,h,hq=>by
  cases h
  rw [List.map_cons,List.nodup_cons] at nd
  intro e
  exact nd.1 (by rw [e];exact List.mem_map_of_mem (sA hq))
 | i+1,k+1,x::T,p,q,nd,hl,h,hq=>by
  rw [List.map_cons,List.nodup_cons] at nd
  exact za (T:=T) nd.2 (Nat.lt_of_succ_lt_succ hl) h hq
 | i+1,0,_::_,_,_,_,hl,_,_=>absurd hl (Nat.not_lt_zero _)
 | 0,0,_::_,_,_,_,hl,_,_=>absurd hl (Nat.not_lt_zero _)
def dx (v:Yd):Flow:=.ret v
def iM (_:Unit):Flow:=.next
def mV (b:Bool):Flow:=.ret (.bool b)
def j8:Option Yd→Flow
 | some v=>.ret v
 | none=>.next
theorem eN:∀{a b:Yd},dx a=dx b→a=b:=fun h=>Flow.ret.inj h
theorem j9:∀{a b:Unit},iM a=iM b→a=b:=fun _=>rfl
theorem sB:∀{a b:Bool},mV a=mV b→a=b:=fun h=>Value.bool.inj (Flow.ret.inj h)
theorem mW:∀{a b:Option Yd},j8 a=j8 b→a=b:=by
 intro a b h
 cases a with
 | none=>cases b with
  | none=>rfl
  | some b=>cases h
 | some a=>cases b with
  | none=>cases h
  | some b=>exact congrArg some (Flow.ret.inj h)
def mX (b c:Bool) (w:Yc) (e:List aH) (d:Nat) (a:Yh) (L:Nat) (f:Nat→Oc) {α : Type} (t:Sem α) (h : α→Flow) (g:Kn) (n i:Nat):Option cZ:=
 d6 ((B0 (W b c w)).sv e) d a (lc L f) [] .base (t.bind fun v=>.pure (.done (h v))) g n i []
def ib (x:Option cZ) (d:Yh) (k:Option Nat) (a:Ya) (r:Flow) (b:Yf) (c tail:Ya):Prop:=
 x.map (fun o=>(kS d o,k.map fun k=>ia k o.T))=some ((.ret (.ok r),((a.map (·.1)).zip b++c).map some,(kU x).map Ob.r),k.map fun _=>tail)
def aH.SureF (B:bf) (m:Nat) (S:Ya) (o:aH):Prop:=o.pl.Nodup∧∀(a:af) (A:Around),Lv m A→∀(h:Heap) (j:Nat) (q:Array GenState) (d:Drawn) (s:OsState) (g:Bool) (l:Yb) (k:Result→Sem Fin) (Q:Fin→Shared→Prop) (E:Yd→Shared→Prop),
 ((o.objs a).map (·.1)).Nodup→(∀x∈o.objs a,h.get? x.1=some x.2∧B.lo≤x.1)→B.In h→
 (∀p∈S,h.get? p.1=some p.2∧B.lo≤p.1)→(∀p∈S,p.1∉(o.objs a).map (·.1))→(S.map (·.1)).Nodup→
 (∀(c:Heap) (f:Nat) (e:Ye),(o.strm=false→c.objs.size=h.objs.size∧f=j+o.dt∧e=fun i=>j+i)→h.objs.size≤c.objs.size→
  (∀b n,h.get? b=some n→b∉(o.objs a).map (·.1)→c.get? b=some n)→
  (∀x∈((o.objs a).map (·.1)).zip (o.out a e).2.1,c.get? x.1=some x.2)→
  (∀p∈(o.out a e).2.2,c.get? p.1=some p.2∧h.objs.size≤p.1)→((o.out a e).2.2.map (·.1)).Nodup→
  wpAny B.M A (k (lI o.bad (o.out a e).1)) Q E ⟨c,q,d,f,s⟩)→
 wpAny B.M A (.call (o.code a) none g l k) Q E ⟨h,q,d,j,s⟩
theorem aH.Sure.toF {B:bf} {m:Nat} {o:aH} (h:o.Sure B m) (S:Ya):o.SureF B m S:=⟨h.1,fun a A b e c i d j g l k Q E nd n f _ _ _ p=>h.2 a A b e c i d j g l k Q E nd n f p⟩
theorem jk {B:bf} {m:Nat} {S:Ya} {o:aH} {l:List aH} (h:o.SureF B m S) (r:∀o∈l,o.SureF B m S):∀a∈o::l,a.SureF B m S:=by
 intro a b
 rcases List.mem_cons.mp b with rfl | b
 ·exact h
 ·exact r a b
theorem pc {B:bf} {m:Nat} {S:Ya}:∀o∈([]:List aH),o.SureF B m S:=fun _ h=>nomatch h
theorem aH.SureF.le {B:bf} {m n:Nat} {S:Ya} {o:aH} (h:o.SureF B m S) (l:m≤n):o.SureF B n S:=⟨h.1,fun a A b=>h.2 a A (b.le l)⟩
theorem zb {a S:Ya} {o:Yf} (h:o.length=a.length):((a++S).map (·.1)).zip (o++bH S)=(a.map (·.1)).zip o++S:=by
 rw [List.map_append,iL (by rw [List.length_map,h]),sy]
theorem pd {B:bf} {m:Nat} {S:Ya} {code:af→Code} {C:Yh} {f:af→Ya} {out:af→Ye→Flow×Yf×Ya}
  (R:C.Nodup) (J:∀c i,(out c i).2.1.length=(f c).length) (D:∀c,aL B m (code c) (f c++S) fun i=>(.ok (out c i).1,(out c i).2.1++bH S,(out c i).2.2)):(bA code C f out).SureF B m S:=by
 refine ⟨R,fun c A G h I O d P g l k Q E nd U N hS hd T V => ?_⟩
 refine x_call (hd:=none) ?_ (by intro e;cases e)
 refine D c A G h I O d P _ ?_ (fun p j => ?_) N fun z w i le Y j X u => ?_
 ·rw [List.map_append]
  refine List.nodup_append.mpr ⟨nd,T,fun a t b L e => ?_⟩
  obtain ⟨p,j,rfl⟩:=List.mem_map.mp L
  exact hd p j (e▸t)
 ·rcases List.mem_append.mp j with j | j
  ·exact U p j
  ·exact hS p j
 ·have s:∀x∈((f c).map (·.1)).zip (out c i).2.1++S,z.get? x.1=some x.2:=fun x hx=>j x (by rw [←zb (J c i)] at hx;exact hx)
  refine V z w i (fun e=>by cases e) le (fun b H q K => ?_) (fun x hx=>s x (List.mem_append_left _ hx)) X u
  by_cases y:b∈S.map (·.1)
  ·obtain ⟨p,o,rfl⟩:=List.mem_map.mp y
   have F:=(hS p o).1
   rw [F] at q
   rw [←q]
   exact s p (List.mem_append_right _ o)
  ·refine Y b H q fun n => ?_
   rw [List.map_append] at n
   rcases List.mem_append.mp n with t | t
   ·exact K t
   ·exact y t
theorem D8 {B:bf} (O:B.Ok) {m:Nat} {A:Around} (c:Lv (m+1) A) {S:Ya} {orcs:List aH} (t:∀o∈orcs,o.SureF B m S) {X:Cx} (s:X.A₀ = A) (j:B.lo≤X.h₀.objs.size)
  (hS:∀p∈S,X.h₀.get? p.1=some p.2∧B.lo≤p.1) (q:∀p∈S,p.1∉X.M₀) (D:(S.map (·.1)).Nodup):gf (B.sv orcs) X:=by
 have G:=tO (B:=B) O c (orcs:=[]) (fun _ h=>nomatch h) s j
 refine ⟨G.den,G.pab,G.ef,G.cr,G.bd,G.lg,G.kt,G.stat,G.lim,G.ids,G.hd,G.depth,G.units,G.low,fun o u => ?_⟩
 subst s
 refine ⟨(t o u).1,fun d w f h y g l k Q E nd F H C b i I => ?_⟩
 refine (t o u).2 d w ⟨f.1,by have:=c.2.1;have:=f.2.1;lia,by have:=c.2.2;have:=f.2.2;lia⟩ h y _ _ _ g l k Q E nd F ⟨H,C⟩ (fun p a=>⟨b _ _ (hS p a).1 (q p a),(hS p a).2⟩) (fun p a z => ?_) D I
 obtain ⟨x,hx,e⟩:=List.mem_map.mp z
 rcases i x hx with n | n
 ·exact q p a (e▸n)
 ·exact absurd (Heap.lt_size (hS p a).1) (Nat.not_lt.mpr (e▸n))
theorem mY {b c:Bool} {w:Yc} {m:Nat} {α : Type} {t:Sem α} {enc : α→Flow} (inj:∀{a b : α},enc a=enc b→a=b) {need:Ya} {val:Ye→α} {objs:Ye→Yf} {ads tail:Ye→Ya} {orcs:List aH} (S:Ya) (hs:∀o∈orcs,o.SureF (B0 (W b c w)) m S)
  (F L:Nat) (C J:Yh) (k:Option Nat) (u:Nat→Nat→(Nat→Oc)→Nat→Nat) (ns:J.Nodup:=by decide) (hk:k.elim True (fun k=>∀i∈J,i<k):=by exact trivial) (ht:k=none→∀a,tail a=[]:=by exact fun _ _=>rfl) (hz:∀a,(objs a).length=need.length:=by intro _;kernel_rfl)
  (E:∀n j f,ib (mX b c w orcs F C L f t enc need n j) J k need (enc (val (u n j f))) (objs (u n j f)) (ads (u n j f)) (tail (u n j f)):=by intro n j f;delta ib;kernel_rfl):aI (B0 (W b c w)) (m+1) t (need++S) fun a=>(val a,objs a++bH S,ads a++tail a):=by
 refine ⟨fun A hA h j gs d os Q Er N X hB hR => ?_⟩
 rw [List.map_append,List.nodup_append] at N
 obtain ⟨hnd,ns0,dis⟩:=N
 have hn:∀p∈need,h.get? p.1=some p.2∧(B0 (W b c w)).lo≤p.1:=fun p g=>X p (List.mem_append_left _ g)
 have hS:∀p∈S,h.get? p.1=some p.2∧(B0 (W b c w)).lo≤p.1:=fun p g=>X p (List.mem_append_right _ g)
 have P:∀p∈S,p.1∉need.map (·.1):=fun p g T=>dis _ T _ (List.mem_map_of_mem g) rfl
 let R:Result→Shared→Prop:=fun r s=>match r with
  | .ok f=>∀v,f=enc v→Q v s
  | .error e=>Er e s
 have G:gf ((B0 (W b c w)).sv orcs) ⟨h,need.map (·.1),A,R,gs,d,os⟩:=D8 (bG _) hA hs rfl hB.2 hS P ns0
 have D:dp ((B0 (W b c w)).sv orcs) ⟨h,need.map (·.1),A,R,gs,d,os⟩ h need h.objs.size:=⟨rfl,fun p g=>(hn p g).1,fun p g=>(hn p g).2,hnd,hB.1,fun _ _ e _=>e,fun p g=>.inl (List.mem_map_of_mem (f:=(·.1)) g),Nat.le_refl _⟩
 have z:=tN G F L C [] .base (t.bind fun v=>.pure (.done (enc v))) need h.objs.size j [] h (fun V hl=>by
  obtain ⟨f,ef⟩:=sw V
  rw [hl] at ef
  have U:=E h.objs.size j f
  unfold ib mX at U
  rw [←ef] at U
  generalize hx:d6 ((B0 (W b c w)).sv orcs) F C V [] .base (t.bind fun v=>.pure (.done (enc v))) need h.objs.size j []=x at U
  cases x with
  | none=>cases U
  | some o=>
   have e2:=Option.some.inj U
   have eS:=congrArg Prod.fst e2
   have eT:k.map (fun k=>ia k o.T)=k.map fun _=>tail (u h.objs.size j f):=congrArg Prod.snd e2
   have er:o.r = .ret (.ok (enc (val (u h.objs.size j f)))):=congrArg Prod.fst eS
   have K:J.map (bW o.T)=((need.map (·.1)).zip (objs (u h.objs.size j f))++ads (u h.objs.size j f)).map some:=congrArg (fun y:Rs×List (Option (Addr×Obj))×List Ob=>y.2.1) eS
   have eob:lH o.ob:=congrArg (fun y:Rs×List (Option (Addr×Obj))×List Ob=>y.2.2) eS
   refine ⟨o,rfl,eob,fun h' H => ?_⟩
   rw [er]
   intro v hv
   have ev:=inj hv
   subst ev
   have nn:=lN H.nd ns K
   rw [List.map_append,List.map_fst_zip (by rw [hz,List.length_map];exact Nat.le_refl _)] at nn
   have fresh:∀p∈o.T,p.1∉need.map (·.1)→h.objs.size≤p.1:=fun p g Z=>(H.new p g).resolve_left Z
   have tl:∀p∈tail (u h.objs.size j f),∃I,k=some I∧p∈ia I o.T:=fun p g=>by
    cases k with
    | none=>rw [ht rfl] at g;cases g
    | some I=>
     have:ia I o.T=tail (u h.objs.size j f):=Option.some.inj eT
     exact ⟨I,rfl,by rw [this];exact g⟩
   have tn:∀p∈tail (u h.objs.size j f),∀q∈(need.map (·.1)).zip (objs (u h.objs.size j f))++ads (u h.objs.size j f),q.1≠p.1:=fun p g q O=>by
    obtain ⟨I,ek,P⟩:=tl p g
    subst ek
    obtain ⟨i,hi,hi'⟩:=i3 K q O
    exact za H.nd (hk i hi) hi' P
   have mz:∀a∈need.map (·.1),∃q∈(need.map (·.1)).zip (objs (u h.objs.size j f)),q.1=a:=fun a ha=>by
    have:a∈((need.map (·.1)).zip (objs (u h.objs.size j f))).map (·.1):=by rw [jj (hz _)];exact ha
    obtain ⟨q,O,e⟩:=List.mem_map.mp this
    exact ⟨q,O,e⟩
   refine hR h' o.tk (u h.objs.size j f) (by rw [H.size];exact H.grow) (fun b ob q hb=>H.keep b ob q fun T=>hb (by rw [List.map_append];exact List.mem_append_left _ T)) (fun x hx => ?_) (fun p g => ?_) ?_
   ·have B:x∈((need++S).map (·.1)).zip (objs (u h.objs.size j f)++bH S):=hx
    rw [zb (hz _)] at B
    rcases List.mem_append.mp B with B | B
    ·obtain ⟨i,_,Y⟩:=i3 K x (List.mem_append_left _ B)
     exact H.own x (dj Y)
    ·exact H.keep x.1 x.2 (hS x B).1 (P x B)
   ·rcases List.mem_append.mp g with g | g
    ·obtain ⟨i,hi,Y⟩:=i3 K p (List.mem_append_right _ g)
     refine ⟨H.own p (dj Y),fresh p (dj Y) fun T => ?_⟩
     exact (List.nodup_append.mp nn).2.2 p.1 T p.1 (List.mem_map_of_mem g) rfl
    ·obtain ⟨I,ek,P⟩:=tl p g
     refine ⟨H.own p (sA P),fresh p (sA P) fun T => ?_⟩
     obtain ⟨q,O,e⟩:=mz p.1 T
     exact tn p g q (List.mem_append_left _ O) e
   ·show ((ads (u h.objs.size j f)++tail (u h.objs.size j f)).map (·.1)).Nodup
    rw [List.map_append]
    refine List.nodup_append.mpr ⟨(List.nodup_append.mp nn).2.1,?_,fun a ha b' hb => ?_⟩
    ·cases k with
     | none=>rw [ht rfl];exact List.nodup_nil
     | some I=>
      have:ia I o.T=tail (u h.objs.size j f):=Option.some.inj eT
      rw [←this]
      exact D7 H.nd
    ·obtain ⟨q,O,rfl⟩:=List.mem_map.mp ha
     obtain ⟨p,g,rfl⟩:=List.mem_map.mp hb
     exact tn p g q (List.mem_append_right _ O)) trivial (Nat.zero_le _) D
 intro Γ p hΓ
 have y:=z Γ p hΓ
 rw [Sem.wp_bind] at y
 exact Sem.wp_mono _ Γ _ (fun v p' s' q=>q v rfl) (fun _ _ _ q=>q) p _ y
theorem bt {b c:Bool} {w:Yc} {m:Nat} {α : Type} {t:Sem α} {enc : α→Flow} (s:∀{a b : α},enc a=enc b→a=b) {need:Ya} {val:Ye→α} {objs:Ye→Yf} {ads tail:Ye→Ya} {orcs:List aH} (y:∀o∈orcs,o.Sure (B0 (W b c w)) m)
  (j L:Nat) (g d:Yh) (k:Option Nat) (q:Nat→Nat→(Nat→Oc)→Nat→Nat) (z:d.Nodup:=by decide) (A:k.elim True (fun k=>∀i∈d,i<k):=by exact trivial) (x:k=none→∀a,tail a=[]:=by exact fun _ _=>rfl) (u:∀a,(objs a).length=need.length:=by intro _;kernel_rfl)
  (E:∀n p f,ib (mX b c w orcs j g L f t enc need n p) d k need (enc (val (q n p f))) (objs (q n p f)) (ads (q n p f)) (tail (q n p f)):=by intro n p f;delta ib;kernel_rfl):aI (B0 (W b c w)) (m+1) t need fun a=>(val a,objs a,ads a++tail a):=by
 have h:=mY (tail:=tail) s [] (fun o B=>(y o B).toF []) j L g d k q z A x u E
 rw [List.append_nil] at h
 have e:(fun a=>(val a,objs a++bH [],ads a++tail a))=fun a=>(val a,objs a,ads a++tail a):=funext fun a=>by
  show (val a,objs a++[],ads a++tail a)=_
  rw [List.append_nil]
 rw [e] at h
 exact h
def D9 (v:Flow):aH:={code:=fun _=>.call .none ⟨[],[]⟩,strm:=true,out:=fun _ _=>(v,[],[])}
def fd (c:Code) (g f a h:Nat):Code:=match c with
 | .compStart e d _ _ b=>.compStart e d (.ref g) (.ref f) {b with locals:=a,frame:=some h}
 | c=>c
def dZ (c:Code) (g f a h:Nat):Code:=match c with
 | .compStart e d _ _ b=>.compLoop e d (.ref g) (.ref f) {b with locals:=a,frame:=some h}
 | c=>c
section
open PySem.Builtin PySem.Builtin.Str
section
variable {B:bf} {m:Nat}
def i2 (id:String) (x y:Int) (v:Ye→Yd):aH:=bs id (fun p=>[.int x (p 0 0),.int y (p 0 1)]) fun _ a=>v a
theorem lh {id:String} {c:Str} {F:Builtin} {x y:Int} {e:af→Made} {v:Ye→Yd} (b:Slot "int" c id)
  (a:entryFor table id=some F) (d:∀p:af,argsOk id ⟨[.int x (p 0 0),.int y (p 0 1)],[]⟩) (g:∀p:af,Gives (F ⟨[.int x (p 0 0),.int y (p 0 1)],[]⟩) (e p))
  (j:∀p s (Q:Yd→Shared→Prop),(∀i k,Q (v i) {s with toks:=k})→(e p).post Q s):(i2 id x y v).Sure B m:=
 jQ fun p _ s Q _ h=>call_gives b (typeIs_int s _ _) a (d p) (g p) (j p s Q h)
theorem aM {x y z:Int} (e:x.fmod y=z) (b:¬(y==0)=true:=by decide):(i2 "int.__mod__" x y fun a=>.int z (a 0)).Sure B m:=
 lh F.slot_int_mod F.entry_int_mod (fun _=>F.args_int_mod_2 _ _) (fun _=>AutoIntG6.int___mod___int_int_1 _ _ _ _ b) fun _ s _ h=>by
  rw [e];exact h (fun _=>s.toks) (s.toks+1)
theorem aO {x y z:Int} (e:x.fdiv y=z) (c:¬(y==0)=true:=by decide) (b:y.natAbs<1073741824:=by decide):(i2 "int.__floordiv__" x y fun a=>.int z (a 0)).Sure B m:=
 lh F.slot_int_floordiv F.entry_int_floordiv (fun _=>F.args_int_floordiv_2 _ _) (fun _=>AutoIntG4.int___floordiv___int_int_1 _ _ _ _ c (by rw [PyProof.noPylong_small b];decide)) fun _ s _ h=>by
  rw [e];exact h (fun _=>s.toks) (s.toks+1)
def b3 (x:Str) (i:Int) (z:Str):aH:=bs "str.__getitem__" (fun p=>[.str x (p 0 0),.int i (p 0 1)]) fun _ a=>.str z (a 0)
theorem Ea {x:Str} {i:Int} {c:Nat} {z:Str} (a:(decide (i < -(2 ^ 63:Int))||decide (i≥2 ^ 63))=false) (h:(seqIndex? i x.length).bind (x.cps[·]?)=some c) (e:(⟨#[c]⟩:Str)=z):(b3 x i z).Sure B m:=
 jQ fun p _ s _ _ b=>call_gives F.slot_str_getitem (typeIs_str s _ _) F.entry_str_getitem (F.args_str_getitem_2 _ _) (gives_str_getitem x i (p 0 0) (p 0 1) c a h) ⟨by show 1≤sizeLine;decide,by rw [e];exact b (fun _=>s.toks) (s.toks+1)⟩
end
end
section
open PySem.Builtin PySem.Builtin.Str
def bL (i:Int) (z:Str):Prop:=∃c:Nat,(decide (i < -(2 ^ 63:Int))||decide (i≥2 ^ 63))=false∧(seqIndex? i ("a/.= é" : Str).length).bind (("a/.= é" : Str).cps[·]?)=some c∧(⟨#[c]⟩:Str)=z
theorem bL.sure {i:Int} {z:Str} (h:bL i z) {B:bf} {m:Nat}:(b3 "a/.= é" i z).Sure B m:=let ⟨_,a,b,c⟩:=h;Ea a b c
theorem Eb (b:Bool) (w:Yc) (x q:Int) (r g:Int) (h:x.fmod 2=0) (e:x.fdiv 2=q) (d:q.fdiv 1=r) (c:r.fmod 18=g) (i:g.fmod 3=0) (p:af):aC (B0 (W b false w)) 1 (.call (.ref 274) ⟨[.int x (p 0 0)],[]⟩) [] (fun a=>(.ret (.ref (a 0)),[],[(a 0,ab [.str "" (a 1)] 1)])):=
 aA (orcs:=[i2 "int.__mod__" x 2 fun a=>.int 0 (a 0),i2 "int.__floordiv__" x 2 fun a=>.int q (a 0),i2 "int.__floordiv__" q 1 fun a=>.int r (a 0),i2 "int.__mod__" r 18 fun a=>.int g (a 0),i2 "int.__mod__" g 3 fun a=>.int 0 (a 0)]) (aa (aM h) (aa (aO e) (aa (aO d) (aa (aM c) (aa (aM i) aq))))) 237 5 [0,0,1,0,0,0,1,0,0,0,1,2,0,0,16,0,0,0,0,0,79,4,4,0,4,0,29,4,4,4,0,4,0,80,4,4,4,5,0,5,0,5,0,81,5,5,5,5,4,5,4,1,0,1,3,1,0,0,83,4,5,2,1,1,3,3,3,3,0,0,2,6,0,0,0,0,0,79,6,6,0,6,0,29,6,6,6,0,6,0,80,6,6,6,7,0,7,7,0,7,0,84,7,0,7,0,7,0,81,7,7,7,11,9,0,0,27,8,8,0,3,0,26,3,2,3,0,5,0,5,0,81,5,5,5,13,0,1] [2] (fun n j f=>aB [n+2,(f 4).2.1+2])
theorem Ec (b:Bool) (w:Yc) (x q:Int) (r g:Int) (h:x.fmod 2=0) (e:x.fdiv 2=q) (d:q.fdiv 1=r) (c:r.fmod 18=g) (i:g.fmod 3=0) (p:af):aC (B0 (W b true w)) 1 (.call (.ref 274) ⟨[.int x (p 0 0)],[]⟩) [] (fun a=>(.ret (.ref (a 0)),[],[(a 0,ab [.str "" (a 1)] 1)])):=
 aA (orcs:=[i2 "int.__mod__" x 2 fun a=>.int 0 (a 0),i2 "int.__floordiv__" x 2 fun a=>.int q (a 0),i2 "int.__floordiv__" q 1 fun a=>.int r (a 0),i2 "int.__mod__" r 18 fun a=>.int g (a 0),i2 "int.__mod__" g 3 fun a=>.int 0 (a 0)]) (aa (aM h) (aa (aO e) (aa (aO d) (aa (aM c) (aa (aM i) aq))))) 227 5 [0,0,1,0,0,0,1,0,0,0,1,2,0,0,16,0,0,0,0,0,79,4,4,0,4,0,29,4,4,4,0,4,0,80,4,4,4,5,0,5,0,5,0,81,5,5,5,5,4,5,4,1,0,1,3,1,0,0,83,4,5,2,1,1,3,3,3,3,0,0,2,6,0,0,0,0,0,79,6,6,0,6,0,29,6,6,6,0,6,0,80,6,6,6,7,0,0,7,0,7,0,81,7,7,7,11,9,0,0,27,8,8,0,3,0,26,3,2,3,0,5,0,5,0,81,5,5,5,13,0,1] [2] (fun n j f=>aB [n+2,(f 4).2.1+2])
theorem Ed (b:Bool) (w:Yc) (x q:Int) (r g:Int) (h:Int) (d:Int) (c:Str) (e:Str) (y:x.fmod 2=0) (s:x.fdiv 2=q) (m:q.fdiv 1=r) (i:r.fmod 18=g) (u:g.fmod 3=1) (t:g.fdiv 3=h) (k:(h+0).fmod 6=d) (z:bL d c) (j:Txt.join "" [c]=e) (o:JoinOk "" [c]=true) (p:af):aC (B0 (W b false w)) 1 (.call (.ref 274) ⟨[.int x (p 0 0)],[]⟩) [] (fun a=>(.ret (.ref (a 0)),[],[(a 0,ab [.str e (a 1)] 1)])):=
 aA (orcs:=[i2 "int.__mod__" x 2 fun a=>.int 0 (a 0),i2 "int.__floordiv__" x 2 fun a=>.int q (a 0),i2 "int.__floordiv__" q 1 fun a=>.int r (a 0),i2 "int.__mod__" r 18 fun a=>.int g (a 0),i2 "int.__mod__" g 3 fun a=>.int 1 (a 0),i2 "int.__floordiv__" g 3 fun a=>.int h (a 0),i2 "int.__mod__" (h+0) 6 fun a=>.int d (a 0),b3 "a/.= é" d c,bx 7 "" [c] e]) (aa (aM y) (aa (aO s) (aa (aO m) (aa (aM i) (aa (aM u) (aa (aO t) (aa (aM k) (aa (z.sure) (aa (bB j o) aq))))))))) 283 9 [0,0,1,0,0,0,1,0,0,0,1,2,0,0,16,0,0,0,0,0,79,4,4,0,4,0,29,4,4,4,0,4,0,80,4,4,4,5,0,5,0,5,0,81,5,5,5,5,4,5,4,1,0,1,3,1,0,0,83,4,5,2,1,1,3,3,3,3,0,0,2,6,0,0,0,0,0,79,6,6,0,6,0,29,6,6,6,0,6,0,80,6,6,6,7,0,7,7,0,7,0,84,7,0,7,0,7,0,81,7,7,7,7,6,7,6,9,8,2,7,9,0,0,16,8,9,0,8,0,26,8,7,8,0,7,0,7,0,81,7,7,7,11,9,9,8,10,0,3,0,26,3,2,3,0,5,0,5,0,81,5,5,5,13,0,1] [2] (fun n A f=>aB [n+2,(f 8).2.2 0])
theorem Ee (b:Bool) (w:Yc) (x q:Int) (r g:Int) (h:Int) (d:Int) (c:Str) (e:Str) (y:x.fmod 2=0) (s:x.fdiv 2=q) (m:q.fdiv 1=r) (i:r.fmod 18=g) (u:g.fmod 3=1) (t:g.fdiv 3=h) (k:(h+0).fmod 6=d) (z:bL d c) (j:Txt.join "" [c]=e) (o:JoinOk "" [c]=true) (p:af):aC (B0 (W b true w)) 1 (.call (.ref 274) ⟨[.int x (p 0 0)],[]⟩) [] (fun a=>(.ret (.ref (a 0)),[],[(a 0,ab [.str e (a 1)] 1)])):=
 aA (orcs:=[i2 "int.__mod__" x 2 fun a=>.int 0 (a 0),i2 "int.__floordiv__" x 2 fun a=>.int q (a 0),i2 "int.__floordiv__" q 1 fun a=>.int r (a 0),i2 "int.__mod__" r 18 fun a=>.int g (a 0),i2 "int.__mod__" g 3 fun a=>.int 1 (a 0),i2 "int.__floordiv__" g 3 fun a=>.int h (a 0),i2 "int.__mod__" (h+0) 6 fun a=>.int d (a 0),b3 "a/.= é" d c,bx 7 "" [c] e]) (aa (aM y) (aa (aO s) (aa (aO m) (aa (aM i) (aa (aM u) (aa (aO t) (aa (aM k) (aa (z.sure) (aa (bB j o) aq))))))))) 273 9 [0,0,1,0,0,0,1,0,0,0,1,2,0,0,16,0,0,0,0,0,79,4,4,0,4,0,29,4,4,4,0,4,0,80,4,4,4,5,0,5,0,5,0,81,5,5,5,5,4,5,4,1,0,1,3,1,0,0,83,4,5,2,1,1,3,3,3,3,0,0,2,6,0,0,0,0,0,79,6,6,0,6,0,29,6,6,6,0,6,0,80,6,6,6,7,0,0,7,0,7,0,81,7,7,7,7,6,7,6,9,8,2,7,9,0,0,16,8,9,0,8,0,26,8,7,8,0,7,0,7,0,81,7,7,7,11,9,9,8,10,0,3,0,26,3,2,3,0,5,0,5,0,81,5,5,5,13,0,1] [2] (fun n A f=>aB [n+2,(f 8).2.2 0])
theorem Ef (b:Bool) (w:Yc) (x q:Int) (r g:Int) (h:Int) (i:Int) (c:Str) (e:Int) (d:Str) (k:Str) (B:x.fmod 2=0) (z:x.fdiv 2=q) (u:q.fdiv 1=r) (s:r.fmod 18=g) (A:g.fmod 3=2) (m:g.fdiv 3=h) (t:(h+0).fmod 6=i) (C:bL i c) (y:(h+1).fmod 6=e) (D:bL e d) (j:Txt.join "" [c,d]=k) (o:JoinOk "" [c,d]=true) (p:af):aC (B0 (W b false w)) 1 (.call (.ref 274) ⟨[.int x (p 0 0)],[]⟩) [] (fun a=>(.ret (.ref (a 0)),[],[(a 0,ab [.str k (a 1)] 1)])):=
 aA (orcs:=[i2 "int.__mod__" x 2 fun a=>.int 0 (a 0),i2 "int.__floordiv__" x 2 fun a=>.int q (a 0),i2 "int.__floordiv__" q 1 fun a=>.int r (a 0),i2 "int.__mod__" r 18 fun a=>.int g (a 0),i2 "int.__mod__" g 3 fun a=>.int 2 (a 0),i2 "int.__floordiv__" g 3 fun a=>.int h (a 0),i2 "int.__mod__" (h+0) 6 fun a=>.int i (a 0),b3 "a/.= é" i c,i2 "int.__floordiv__" g 3 fun a=>.int h (a 0),i2 "int.__mod__" (h+1) 6 fun a=>.int e (a 0),b3 "a/.= é" e d,bx 7 "" [c,d] k]) (aa (aM B) (aa (aO z) (aa (aO u) (aa (aM s) (aa (aM A) (aa (aO m) (aa (aM t) (aa (C.sure) (aa (aO m) (aa (aM y) (aa (D.sure) (aa (bB j o) aq)))))))))))) 330 12 [0,0,1,0,0,0,1,0,0,0,1,2,0,0,16,0,0,0,0,0,79,4,4,0,4,0,29,4,4,4,0,4,0,80,4,4,4,5,0,5,0,5,0,81,5,5,5,5,4,5,4,1,0,1,3,1,0,0,83,4,5,2,1,1,3,3,3,3,0,0,2,6,0,0,0,0,0,79,6,6,0,6,0,29,6,6,6,0,6,0,80,6,6,6,7,0,7,7,0,7,0,84,7,0,7,0,7,0,81,7,7,7,7,6,7,6,9,8,2,7,9,0,0,16,8,9,0,8,0,26,8,7,8,0,7,0,7,0,81,7,7,7,7,6,7,6,9,8,2,10,9,0,0,16,11,12,0,8,0,26,8,7,8,0,7,0,7,0,81,7,7,7,11,9,9,8,13,0,3,0,26,3,2,3,0,5,0,5,0,81,5,5,5,13,0,1] [2] (fun n E f=>aB [n+2,(f 11).2.2 0])
theorem Eg (b:Bool) (w:Yc) (x q:Int) (r g:Int) (h:Int) (i:Int) (c:Str) (e:Int) (d:Str) (k:Str) (B:x.fmod 2=0) (z:x.fdiv 2=q) (u:q.fdiv 1=r) (s:r.fmod 18=g) (A:g.fmod 3=2) (m:g.fdiv 3=h) (t:(h+0).fmod 6=i) (C:bL i c) (y:(h+1).fmod 6=e) (D:bL e d) (j:Txt.join "" [c,d]=k) (o:JoinOk "" [c,d]=true) (p:af):aC (B0 (W b true w)) 1 (.call (.ref 274) ⟨[.int x (p 0 0)],[]⟩) [] (fun a=>(.ret (.ref (a 0)),[],[(a 0,ab [.str k (a 1)] 1)])):=
 aA (orcs:=[i2 "int.__mod__" x 2 fun a=>.int 0 (a 0),i2 "int.__floordiv__" x 2 fun a=>.int q (a 0),i2 "int.__floordiv__" q 1 fun a=>.int r (a 0),i2 "int.__mod__" r 18 fun a=>.int g (a 0),i2 "int.__mod__" g 3 fun a=>.int 2 (a 0),i2 "int.__floordiv__" g 3 fun a=>.int h (a 0),i2 "int.__mod__" (h+0) 6 fun a=>.int i (a 0),b3 "a/.= é" i c,i2 "int.__floordiv__" g 3 fun a=>.int h (a 0),i2 "int.__mod__" (h+1) 6 fun a=>.int e (a 0),b3 "a/.= é" e d,bx 7 "" [c,d] k]) (aa (aM B) (aa (aO z) (aa (aO u) (aa (aM s) (aa (aM A) (aa (aO m) (aa (aM t) (aa (C.sure) (aa (aO m) (aa (aM y) (aa (D.sure) (aa (bB j o) aq)))))))))))) 320 12 [0,0,1,0,0,0,1,0,0,0,1,2,0,0,16,0,0,0,0,0,79,4,4,0,4,0,29,4,4,4,0,4,0,80,4,4,4,5,0,5,0,5,0,81,5,5,5,5,4,5,4,1,0,1,3,1,0,0,83,4,5,2,1,1,3,3,3,3,0,0,2,6,0,0,0,0,0,79,6,6,0,6,0,29,6,6,6,0,6,0,80,6,6,6,7,0,0,7,0,7,0,81,7,7,7,7,6,7,6,9,8,2,7,9,0,0,16,8,9,0,8,0,26,8,7,8,0,7,0,7,0,81,7,7,7,7,6,7,6,9,8,2,10,9,0,0,16,11,12,0,8,0,26,8,7,8,0,7,0,7,0,81,7,7,7,11,9,9,8,13,0,3,0,26,3,2,3,0,5,0,5,0,81,5,5,5,13,0,1] [2] (fun n E f=>aB [n+2,(f 11).2.2 0])
theorem Eh (b:Bool) (w:Yc) (x q:Int) (r g:Int) (c d:Int) (s:x.fmod 2=1) (j:x.fdiv 2=q) (m:q.fdiv 1=r) (k:r.fmod 18=g) (o:g.fmod 3=0) (h:q.fdiv 18=c) (e:c.fmod 18=d) (i:d.fmod 3=0) (p:af):aC (B0 (W b false w)) 1 (.call (.ref 274) ⟨[.int x (p 0 0)],[]⟩) [] (fun a=>(.ret (.ref (a 0)),[],[(a 0,ab [.str "" (a 1),.str "" (a 2)] 2)])):=
 aA (orcs:=[i2 "int.__mod__" x 2 fun a=>.int 1 (a 0),i2 "int.__floordiv__" x 2 fun a=>.int q (a 0),i2 "int.__floordiv__" q 1 fun a=>.int r (a 0),i2 "int.__mod__" r 18 fun a=>.int g (a 0),i2 "int.__mod__" g 3 fun a=>.int 0 (a 0),i2 "int.__floordiv__" x 2 fun a=>.int q (a 0),i2 "int.__floordiv__" q 18 fun a=>.int c (a 0),i2 "int.__mod__" c 18 fun a=>.int d (a 0),i2 "int.__mod__" d 3 fun a=>.int 0 (a 0)]) (aa (aM s) (aa (aO j) (aa (aO m) (aa (aM k) (aa (aM o) (aa (aO j) (aa (aO h) (aa (aM e) (aa (aM i) aq))))))))) 383 9 [0,0,1,0,0,0,1,0,0,0,1,2,0,0,16,0,0,0,0,0,79,4,4,0,4,0,29,4,4,4,0,4,0,80,4,4,4,5,0,5,0,5,0,81,5,5,5,5,4,5,4,1,0,1,3,1,0,0,83,4,5,2,1,1,3,3,3,3,0,0,2,6,0,0,0,0,0,79,6,6,0,6,0,29,6,6,6,0,6,0,80,6,6,6,7,0,7,7,0,7,0,84,7,0,7,0,7,0,81,7,7,7,11,9,0,0,27,8,8,0,3,0,26,3,2,3,0,5,0,5,0,81,5,5,5,5,4,5,4,1,0,1,7,1,0,0,83,8,9,2,1,1,3,3,3,3,0,0,2,10,0,0,0,0,0,79,12,12,0,12,0,29,12,12,12,0,12,0,80,12,12,12,13,0,13,13,0,13,0,84,13,0,13,0,13,0,81,13,13,13,17,15,0,0,27,14,14,0,3,0,26,3,2,3,0,5,0,5,0,81,5,5,5,19,0,1] [2] (fun n t f=>aB [n+2,(f 4).2.1+2,(f 8).2.1+2])
theorem Ei (b:Bool) (w:Yc) (x q:Int) (r g:Int) (c d:Int) (s:x.fmod 2=1) (j:x.fdiv 2=q) (m:q.fdiv 1=r) (k:r.fmod 18=g) (o:g.fmod 3=0) (h:q.fdiv 18=c) (e:c.fmod 18=d) (i:d.fmod 3=0) (p:af):aC (B0 (W b true w)) 1 (.call (.ref 274) ⟨[.int x (p 0 0)],[]⟩) [] (fun a=>(.ret (.ref (a 0)),[],[(a 0,ab [.str "" (a 1),.str "" (a 2)] 2)])):=
 aA (orcs:=[i2 "int.__mod__" x 2 fun a=>.int 1 (a 0),i2 "int.__floordiv__" x 2 fun a=>.int q (a 0),i2 "int.__floordiv__" q 1 fun a=>.int r (a 0),i2 "int.__mod__" r 18 fun a=>.int g (a 0),i2 "int.__mod__" g 3 fun a=>.int 0 (a 0),i2 "int.__floordiv__" x 2 fun a=>.int q (a 0),i2 "int.__floordiv__" q 18 fun a=>.int c (a 0),i2 "int.__mod__" c 18 fun a=>.int d (a 0),i2 "int.__mod__" d 3 fun a=>.int 0 (a 0)]) (aa (aM s) (aa (aO j) (aa (aO m) (aa (aM k) (aa (aM o) (aa (aO j) (aa (aO h) (aa (aM e) (aa (aM i) aq))))))))) 363 9 [0,0,1,0,0,0,1,0,0,0,1,2,0,0,16,0,0,0,0,0,79,4,4,0,4,0,29,4,4,4,0,4,0,80,4,4,4,5,0,5,0,5,0,81,5,5,5,5,4,5,4,1,0,1,3,1,0,0,83,4,5,2,1,1,3,3,3,3,0,0,2,6,0,0,0,0,0,79,6,6,0,6,0,29,6,6,6,0,6,0,80,6,6,6,7,0,0,7,0,7,0,81,7,7,7,11,9,0,0,27,8,8,0,3,0,26,3,2,3,0,5,0,5,0,81,5,5,5,5,4,5,4,1,0,1,7,1,0,0,83,8,9,2,1,1,3,3,3,3,0,0,2,10,0,0,0,0,0,79,12,12,0,12,0,29,12,12,12,0,12,0,80,12,12,12,13,0,0,13,0,13,0,81,13,13,13,17,15,0,0,27,14,14,0,3,0,26,3,2,3,0,5,0,5,0,81,5,5,5,19,0,1] [2] (fun n t f=>aB [n+2,(f 4).2.1+2,(f 8).2.1+2])
theorem Ej (b:Bool) (w:Yc) (x q:Int) (r g:Int) (j h:Int) (i:Int) (d:Int) (c:Str) (e:Str) (E:x.fmod 2=1) (y:x.fdiv 2=q) (A:q.fdiv 1=r) (z:r.fmod 18=g) (D:g.fmod 3=0) (o:q.fdiv 18=j) (m:j.fmod 18=h) (t:h.fmod 3=1) (u:h.fdiv 3=i) (s:(i+0).fmod 6=d) (k:bL d c) (B:Txt.join "" [c]=e) (C:JoinOk "" [c]=true) (p:af):aC (B0 (W b false w)) 1 (.call (.ref 274) ⟨[.int x (p 0 0)],[]⟩) [] (fun a=>(.ret (.ref (a 0)),[],[(a 0,ab [.str "" (a 1),.str e (a 2)] 2)])):=
 aA (orcs:=[i2 "int.__mod__" x 2 fun a=>.int 1 (a 0),i2 "int.__floordiv__" x 2 fun a=>.int q (a 0),i2 "int.__floordiv__" q 1 fun a=>.int r (a 0),i2 "int.__mod__" r 18 fun a=>.int g (a 0),i2 "int.__mod__" g 3 fun a=>.int 0 (a 0),i2 "int.__floordiv__" x 2 fun a=>.int q (a 0),i2 "int.__floordiv__" q 18 fun a=>.int j (a 0),i2 "int.__mod__" j 18 fun a=>.int h (a 0),i2 "int.__mod__" h 3 fun a=>.int 1 (a 0),i2 "int.__floordiv__" h 3 fun a=>.int i (a 0),i2 "int.__mod__" (i+0) 6 fun a=>.int d (a 0),b3 "a/.= é" d c,bx 13 "" [c] e]) (aa (aM E) (aa (aO y) (aa (aO A) (aa (aM z) (aa (aM D) (aa (aO y) (aa (aO o) (aa (aM m) (aa (aM t) (aa (aO u) (aa (aM s) (aa (k.sure) (aa (bB B C) aq))))))))))))) 429 13 [0,0,1,0,0,0,1,0,0,0,1,2,0,0,16,0,0,0,0,0,79,4,4,0,4,0,29,4,4,4,0,4,0,80,4,4,4,5,0,5,0,5,0,81,5,5,5,5,4,5,4,1,0,1,3,1,0,0,83,4,5,2,1,1,3,3,3,3,0,0,2,6,0,0,0,0,0,79,6,6,0,6,0,29,6,6,6,0,6,0,80,6,6,6,7,0,7,7,0,7,0,84,7,0,7,0,7,0,81,7,7,7,11,9,0,0,27,8,8,0,3,0,26,3,2,3,0,5,0,5,0,81,5,5,5,5,4,5,4,1,0,1,7,1,0,0,83,8,9,2,1,1,3,3,3,3,0,0,2,10,0,0,0,0,0,79,12,12,0,12,0,29,12,12,12,0,12,0,80,12,12,12,13,0,13,13,0,13,0,84,13,0,13,0,13,0,81,13,13,13,13,12,13,12,15,14,2,11,15,0,0,16,12,13,0,14,0,26,14,13,14,0,13,0,13,0,81,13,13,13,17,15,15,14,14,0,3,0,26,3,2,3,0,5,0,5,0,81,5,5,5,19,0,1] [2] (fun n F f=>aB [n+2,(f 4).2.1+2,(f 12).2.2 0])
theorem Ek (b:Bool) (w:Yc) (x q:Int) (r g:Int) (j h:Int) (i:Int) (d:Int) (c:Str) (e:Str) (E:x.fmod 2=1) (y:x.fdiv 2=q) (A:q.fdiv 1=r) (z:r.fmod 18=g) (D:g.fmod 3=0) (o:q.fdiv 18=j) (m:j.fmod 18=h) (t:h.fmod 3=1) (u:h.fdiv 3=i) (s:(i+0).fmod 6=d) (k:bL d c) (B:Txt.join "" [c]=e) (C:JoinOk "" [c]=true) (p:af):aC (B0 (W b true w)) 1 (.call (.ref 274) ⟨[.int x (p 0 0)],[]⟩) [] (fun a=>(.ret (.ref (a 0)),[],[(a 0,ab [.str "" (a 1),.str e (a 2)] 2)])):=
 aA (orcs:=[i2 "int.__mod__" x 2 fun a=>.int 1 (a 0),i2 "int.__floordiv__" x 2 fun a=>.int q (a 0),i2 "int.__floordiv__" q 1 fun a=>.int r (a 0),i2 "int.__mod__" r 18 fun a=>.int g (a 0),i2 "int.__mod__" g 3 fun a=>.int 0 (a 0),i2 "int.__floordiv__" x 2 fun a=>.int q (a 0),i2 "int.__floordiv__" q 18 fun a=>.int j (a 0),i2 "int.__mod__" j 18 fun a=>.int h (a 0),i2 "int.__mod__" h 3 fun a=>.int 1 (a 0),i2 "int.__floordiv__" h 3 fun a=>.int i (a 0),i2 "int.__mod__" (i+0) 6 fun a=>.int d (a 0),b3 "a/.= é" d c,bx 13 "" [c] e]) (aa (aM E) (aa (aO y) (aa (aO A) (aa (aM z) (aa (aM D) (aa (aO y) (aa (aO o) (aa (aM m) (aa (aM t) (aa (aO u) (aa (aM s) (aa (k.sure) (aa (bB B C) aq))))))))))))) 409 13 [0,0,1,0,0,0,1,0,0,0,1,2,0,0,16,0,0,0,0,0,79,4,4,0,4,0,29,4,4,4,0,4,0,80,4,4,4,5,0,5,0,5,0,81,5,5,5,5,4,5,4,1,0,1,3,1,0,0,83,4,5,2,1,1,3,3,3,3,0,0,2,6,0,0,0,0,0,79,6,6,0,6,0,29,6,6,6,0,6,0,80,6,6,6,7,0,0,7,0,7,0,81,7,7,7,11,9,0,0,27,8,8,0,3,0,26,3,2,3,0,5,0,5,0,81,5,5,5,5,4,5,4,1,0,1,7,1,0,0,83,8,9,2,1,1,3,3,3,3,0,0,2,10,0,0,0,0,0,79,12,12,0,12,0,29,12,12,12,0,12,0,80,12,12,12,13,0,0,13,0,13,0,81,13,13,13,13,12,13,12,15,14,2,11,15,0,0,16,12,13,0,14,0,26,14,13,14,0,13,0,13,0,81,13,13,13,17,15,15,14,14,0,3,0,26,3,2,3,0,5,0,5,0,81,5,5,5,19,0,1] [2] (fun n F f=>aB [n+2,(f 4).2.1+2,(f 12).2.2 0])
theorem El (b:Bool) (w:Yc) (x q:Int) (r g:Int) (o k:Int) (i:Int) (e:Int) (d:Str) (h:Int) (c:Str) (j:Str) (I:x.fmod 2=1) (C:x.fdiv 2=q) (E:q.fdiv 1=r) (D:r.fmod 18=g) (H:g.fmod 3=0) (y:q.fdiv 18=o) (t:o.fmod 18=k) (B:k.fmod 3=2) (m:k.fdiv 3=i) (A:(i+0).fmod 6=e) (s:bL e d) (u:(i+1).fmod 6=h) (z:bL h c) (F:Txt.join "" [d,c]=j) (G:JoinOk "" [d,c]=true) (p:af):aC (B0 (W b false w)) 1 (.call (.ref 274) ⟨[.int x (p 0 0)],[]⟩) [] (fun a=>(.ret (.ref (a 0)),[],[(a 0,ab [.str "" (a 1),.str j (a 2)] 2)])):=
 aA (orcs:=[i2 "int.__mod__" x 2 fun a=>.int 1 (a 0),i2 "int.__floordiv__" x 2 fun a=>.int q (a 0),i2 "int.__floordiv__" q 1 fun a=>.int r (a 0),i2 "int.__mod__" r 18 fun a=>.int g (a 0),i2 "int.__mod__" g 3 fun a=>.int 0 (a 0),i2 "int.__floordiv__" x 2 fun a=>.int q (a 0),i2 "int.__floordiv__" q 18 fun a=>.int o (a 0),i2 "int.__mod__" o 18 fun a=>.int k (a 0),i2 "int.__mod__" k 3 fun a=>.int 2 (a 0),i2 "int.__floordiv__" k 3 fun a=>.int i (a 0),i2 "int.__mod__" (i+0) 6 fun a=>.int e (a 0),b3 "a/.= é" e d,i2 "int.__floordiv__" k 3 fun a=>.int i (a 0),i2 "int.__mod__" (i+1) 6 fun a=>.int h (a 0),b3 "a/.= é" h c,bx 13 "" [d,c] j]) (aa (aM I) (aa (aO C) (aa (aO E) (aa (aM D) (aa (aM H) (aa (aO C) (aa (aO y) (aa (aM t) (aa (aM B) (aa (aO m) (aa (aM A) (aa (s.sure) (aa (aO m) (aa (aM u) (aa (z.sure) (aa (bB F G) aq)))))))))))))))) 476 16 [0,0,1,0,0,0,1,0,0,0,1,2,0,0,16,0,0,0,0,0,79,4,4,0,4,0,29,4,4,4,0,4,0,80,4,4,4,5,0,5,0,5,0,81,5,5,5,5,4,5,4,1,0,1,3,1,0,0,83,4,5,2,1,1,3,3,3,3,0,0,2,6,0,0,0,0,0,79,6,6,0,6,0,29,6,6,6,0,6,0,80,6,6,6,7,0,7,7,0,7,0,84,7,0,7,0,7,0,81,7,7,7,11,9,0,0,27,8,8,0,3,0,26,3,2,3,0,5,0,5,0,81,5,5,5,5,4,5,4,1,0,1,7,1,0,0,83,8,9,2,1,1,3,3,3,3,0,0,2,10,0,0,0,0,0,79,12,12,0,12,0,29,12,12,12,0,12,0,80,12,12,12,13,0,13,13,0,13,0,84,13,0,13,0,13,0,81,13,13,13,13,12,13,12,15,14,2,11,15,0,0,16,12,13,0,14,0,26,14,13,14,0,13,0,13,0,81,13,13,13,13,12,13,12,15,14,2,14,15,0,0,16,15,16,0,14,0,26,14,13,14,0,13,0,13,0,81,13,13,13,17,15,15,14,17,0,3,0,26,3,2,3,0,5,0,5,0,81,5,5,5,19,0,1] [2] (fun n J f=>aB [n+2,(f 4).2.1+2,(f 15).2.2 0])
theorem Em (b:Bool) (w:Yc) (x q:Int) (r g:Int) (o k:Int) (i:Int) (e:Int) (d:Str) (h:Int) (c:Str) (j:Str) (I:x.fmod 2=1) (C:x.fdiv 2=q) (E:q.fdiv 1=r) (D:r.fmod 18=g) (H:g.fmod 3=0) (y:q.fdiv 18=o) (t:o.fmod 18=k) (B:k.fmod 3=2) (m:k.fdiv 3=i) (A:(i+0).fmod 6=e) (s:bL e d) (u:(i+1).fmod 6=h) (z:bL h c) (F:Txt.join "" [d,c]=j) (G:JoinOk "" [d,c]=true) (p:af):aC (B0 (W b true w)) 1 (.call (.ref 274) ⟨[.int x (p 0 0)],[]⟩) [] (fun a=>(.ret (.ref (a 0)),[],[(a 0,ab [.str "" (a 1),.str j (a 2)] 2)])):=
 aA (orcs:=[i2 "int.__mod__" x 2 fun a=>.int 1 (a 0),i2 "int.__floordiv__" x 2 fun a=>.int q (a 0),i2 "int.__floordiv__" q 1 fun a=>.int r (a 0),i2 "int.__mod__" r 18 fun a=>.int g (a 0),i2 "int.__mod__" g 3 fun a=>.int 0 (a 0),i2 "int.__floordiv__" x 2 fun a=>.int q (a 0),i2 "int.__floordiv__" q 18 fun a=>.int o (a 0),i2 "int.__mod__" o 18 fun a=>.int k (a 0),i2 "int.__mod__" k 3 fun a=>.int 2 (a 0),i2 "int.__floordiv__" k 3 fun a=>.int i (a 0),i2 "int.__mod__" (i+0) 6 fun a=>.int e (a 0),b3 "a/.= é" e d,i2 "int.__floordiv__" k 3 fun a=>.int i (a 0),i2 "int.__mod__" (i+1) 6 fun a=>.int h (a 0),b3 "a/.= é" h c,bx 13 "" [d,c] j]) (aa (aM I) (aa (aO C) (aa (aO E) (aa (aM D) (aa (aM H) (aa (aO C) (aa (aO y) (aa (aM t) (aa (aM B) (aa (aO m) (aa (aM A) (aa (s.sure) (aa (aO m) (aa (aM u) (aa (z.sure) (aa (bB F G) aq)))))))))))))))) 456 16 [0,0,1,0,0,0,1,0,0,0,1,2,0,0,16,0,0,0,0,0,79,4,4,0,4,0,29,4,4,4,0,4,0,80,4,4,4,5,0,5,0,5,0,81,5,5,5,5,4,5,4,1,0,1,3,1,0,0,83,4,5,2,1,1,3,3,3,3,0,0,2,6,0,0,0,0,0,79,6,6,0,6,0,29,6,6,6,0,6,0,80,6,6,6,7,0,0,7,0,7,0,81,7,7,7,11,9,0,0,27,8,8,0,3,0,26,3,2,3,0,5,0,5,0,81,5,5,5,5,4,5,4,1,0,1,7,1,0,0,83,8,9,2,1,1,3,3,3,3,0,0,2,10,0,0,0,0,0,79,12,12,0,12,0,29,12,12,12,0,12,0,80,12,12,12,13,0,0,13,0,13,0,81,13,13,13,13,12,13,12,15,14,2,11,15,0,0,16,12,13,0,14,0,26,14,13,14,0,13,0,13,0,81,13,13,13,13,12,13,12,15,14,2,14,15,0,0,16,15,16,0,14,0,26,14,13,14,0,13,0,13,0,81,13,13,13,17,15,15,14,17,0,3,0,26,3,2,3,0,5,0,5,0,81,5,5,5,19,0,1] [2] (fun n J f=>aB [n+2,(f 4).2.1+2,(f 15).2.2 0])
theorem Eo (b:Bool) (w:Yc) (x q:Int) (r g:Int) (h:Int) (d:Int) (c:Str) (m:Str) (e i:Int) (D:x.fmod 2=1) (u:x.fdiv 2=q) (A:q.fdiv 1=r) (y:r.fmod 18=g) (C:g.fmod 3=1) (B:g.fdiv 3=h) (z:(h+0).fmod 6=d) (E:bL d c) (j:Txt.join "" [c]=m) (o:JoinOk "" [c]=true) (s:q.fdiv 18=e) (k:e.fmod 18=i) (t:i.fmod 3=0) (p:af):aC (B0 (W b false w)) 1 (.call (.ref 274) ⟨[.int x (p 0 0)],[]⟩) [] (fun a=>(.ret (.ref (a 0)),[],[(a 0,ab [.str m (a 1),.str "" (a 2)] 2)])):=
 aA (orcs:=[i2 "int.__mod__" x 2 fun a=>.int 1 (a 0),i2 "int.__floordiv__" x 2 fun a=>.int q (a 0),i2 "int.__floordiv__" q 1 fun a=>.int r (a 0),i2 "int.__mod__" r 18 fun a=>.int g (a 0),i2 "int.__mod__" g 3 fun a=>.int 1 (a 0),i2 "int.__floordiv__" g 3 fun a=>.int h (a 0),i2 "int.__mod__" (h+0) 6 fun a=>.int d (a 0),b3 "a/.= é" d c,bx 7 "" [c] m,i2 "int.__floordiv__" x 2 fun a=>.int q (a 0),i2 "int.__floordiv__" q 18 fun a=>.int e (a 0),i2 "int.__mod__" e 18 fun a=>.int i (a 0),i2 "int.__mod__" i 3 fun a=>.int 0 (a 0)]) (aa (aM D) (aa (aO u) (aa (aO A) (aa (aM y) (aa (aM C) (aa (aO B) (aa (aM z) (aa (E.sure) (aa (bB j o) (aa (aO u) (aa (aO s) (aa (aM k) (aa (aM t) aq))))))))))))) 429 13 [0,0,1,0,0,0,1,0,0,0,1,2,0,0,16,0,0,0,0,0,79,4,4,0,4,0,29,4,4,4,0,4,0,80,4,4,4,5,0,5,0,5,0,81,5,5,5,5,4,5,4,1,0,1,3,1,0,0,83,4,5,2,1,1,3,3,3,3,0,0,2,6,0,0,0,0,0,79,6,6,0,6,0,29,6,6,6,0,6,0,80,6,6,6,7,0,7,7,0,7,0,84,7,0,7,0,7,0,81,7,7,7,7,6,7,6,9,8,2,7,9,0,0,16,8,9,0,8,0,26,8,7,8,0,7,0,7,0,81,7,7,7,11,9,9,8,10,0,3,0,26,3,2,3,0,5,0,5,0,81,5,5,5,5,4,5,4,1,0,1,11,1,0,0,83,12,13,2,1,1,3,3,3,3,0,0,2,14,0,0,0,0,0,79,12,12,0,12,0,29,12,12,12,0,12,0,80,12,12,12,13,0,13,13,0,13,0,84,13,0,13,0,13,0,81,13,13,13,17,15,0,0,27,14,14,0,3,0,26,3,2,3,0,5,0,5,0,81,5,5,5,19,0,1] [2] (fun n F f=>aB [n+2,(f 8).2.2 0,(f 12).2.1+2])
theorem Ep (b:Bool) (w:Yc) (x q:Int) (r g:Int) (h:Int) (d:Int) (c:Str) (m:Str) (e i:Int) (D:x.fmod 2=1) (u:x.fdiv 2=q) (A:q.fdiv 1=r) (y:r.fmod 18=g) (C:g.fmod 3=1) (B:g.fdiv 3=h) (z:(h+0).fmod 6=d) (E:bL d c) (j:Txt.join "" [c]=m) (o:JoinOk "" [c]=true) (s:q.fdiv 18=e) (k:e.fmod 18=i) (t:i.fmod 3=0) (p:af):aC (B0 (W b true w)) 1 (.call (.ref 274) ⟨[.int x (p 0 0)],[]⟩) [] (fun a=>(.ret (.ref (a 0)),[],[(a 0,ab [.str m (a 1),.str "" (a 2)] 2)])):=
 aA (orcs:=[i2 "int.__mod__" x 2 fun a=>.int 1 (a 0),i2 "int.__floordiv__" x 2 fun a=>.int q (a 0),i2 "int.__floordiv__" q 1 fun a=>.int r (a 0),i2 "int.__mod__" r 18 fun a=>.int g (a 0),i2 "int.__mod__" g 3 fun a=>.int 1 (a 0),i2 "int.__floordiv__" g 3 fun a=>.int h (a 0),i2 "int.__mod__" (h+0) 6 fun a=>.int d (a 0),b3 "a/.= é" d c,bx 7 "" [c] m,i2 "int.__floordiv__" x 2 fun a=>.int q (a 0),i2 "int.__floordiv__" q 18 fun a=>.int e (a 0),i2 "int.__mod__" e 18 fun a=>.int i (a 0),i2 "int.__mod__" i 3 fun a=>.int 0 (a 0)]) (aa (aM D) (aa (aO u) (aa (aO A) (aa (aM y) (aa (aM C) (aa (aO B) (aa (aM z) (aa (E.sure) (aa (bB j o) (aa (aO u) (aa (aO s) (aa (aM k) (aa (aM t) aq))))))))))))) 409 13 [0,0,1,0,0,0,1,0,0,0,1,2,0,0,16,0,0,0,0,0,79,4,4,0,4,0,29,4,4,4,0,4,0,80,4,4,4,5,0,5,0,5,0,81,5,5,5,5,4,5,4,1,0,1,3,1,0,0,83,4,5,2,1,1,3,3,3,3,0,0,2,6,0,0,0,0,0,79,6,6,0,6,0,29,6,6,6,0,6,0,80,6,6,6,7,0,0,7,0,7,0,81,7,7,7,7,6,7,6,9,8,2,7,9,0,0,16,8,9,0,8,0,26,8,7,8,0,7,0,7,0,81,7,7,7,11,9,9,8,10,0,3,0,26,3,2,3,0,5,0,5,0,81,5,5,5,5,4,5,4,1,0,1,11,1,0,0,83,12,13,2,1,1,3,3,3,3,0,0,2,14,0,0,0,0,0,79,12,12,0,12,0,29,12,12,12,0,12,0,80,12,12,12,13,0,0,13,0,13,0,81,13,13,13,17,15,0,0,27,14,14,0,3,0,26,3,2,3,0,5,0,5,0,81,5,5,5,19,0,1] [2] (fun n F f=>aB [n+2,(f 8).2.2 0,(f 12).2.1+2])
theorem Eq (b:Bool) (w:Yc) (x q:Int) (r g:Int) (h:Int) (s:Int) (k:Str) (z:Str) (t i:Int) (m:Int) (d:Int) (c:Str) (e:Str) (N:x.fmod 2=1) (E:x.fdiv 2=q) (H:q.fdiv 1=r) (F:r.fmod 18=g) (L:g.fmod 3=1) (I:g.fdiv 3=h) (G:(h+0).fmod 6=s) (O:bL s k) (j:Txt.join "" [k]=z) (o:JoinOk "" [k]=true) (A:q.fdiv 18=t) (y:t.fmod 18=i) (C:i.fmod 3=1) (D:i.fdiv 3=m) (B:(m+0).fmod 6=d) (u:bL d c) (J:Txt.join "" [c]=e) (K:JoinOk "" [c]=true) (p:af):aC (B0 (W b false w)) 1 (.call (.ref 274) ⟨[.int x (p 0 0)],[]⟩) [] (fun a=>(.ret (.ref (a 0)),[],[(a 0,ab [.str z (a 1),.str e (a 2)] 2)])):=
 aA (orcs:=[i2 "int.__mod__" x 2 fun a=>.int 1 (a 0),i2 "int.__floordiv__" x 2 fun a=>.int q (a 0),i2 "int.__floordiv__" q 1 fun a=>.int r (a 0),i2 "int.__mod__" r 18 fun a=>.int g (a 0),i2 "int.__mod__" g 3 fun a=>.int 1 (a 0),i2 "int.__floordiv__" g 3 fun a=>.int h (a 0),i2 "int.__mod__" (h+0) 6 fun a=>.int s (a 0),b3 "a/.= é" s k,bx 7 "" [k] z,i2 "int.__floordiv__" x 2 fun a=>.int q (a 0),i2 "int.__floordiv__" q 18 fun a=>.int t (a 0),i2 "int.__mod__" t 18 fun a=>.int i (a 0),i2 "int.__mod__" i 3 fun a=>.int 1 (a 0),i2 "int.__floordiv__" i 3 fun a=>.int m (a 0),i2 "int.__mod__" (m+0) 6 fun a=>.int d (a 0),b3 "a/.= é" d c,bx 13 "" [c] e]) (aa (aM N) (aa (aO E) (aa (aO H) (aa (aM F) (aa (aM L) (aa (aO I) (aa (aM G) (aa (O.sure) (aa (bB j o) (aa (aO E) (aa (aO A) (aa (aM y) (aa (aM C) (aa (aO D) (aa (aM B) (aa (u.sure) (aa (bB J K) aq))))))))))))))))) 475 17 [0,0,1,0,0,0,1,0,0,0,1,2,0,0,16,0,0,0,0,0,79,4,4,0,4,0,29,4,4,4,0,4,0,80,4,4,4,5,0,5,0,5,0,81,5,5,5,5,4,5,4,1,0,1,3,1,0,0,83,4,5,2,1,1,3,3,3,3,0,0,2,6,0,0,0,0,0,79,6,6,0,6,0,29,6,6,6,0,6,0,80,6,6,6,7,0,7,7,0,7,0,84,7,0,7,0,7,0,81,7,7,7,7,6,7,6,9,8,2,7,9,0,0,16,8,9,0,8,0,26,8,7,8,0,7,0,7,0,81,7,7,7,11,9,9,8,10,0,3,0,26,3,2,3,0,5,0,5,0,81,5,5,5,5,4,5,4,1,0,1,11,1,0,0,83,12,13,2,1,1,3,3,3,3,0,0,2,14,0,0,0,0,0,79,12,12,0,12,0,29,12,12,12,0,12,0,80,12,12,12,13,0,13,13,0,13,0,84,13,0,13,0,13,0,81,13,13,13,13,12,13,12,15,14,2,15,15,0,0,16,16,17,0,14,0,26,14,13,14,0,13,0,13,0,81,13,13,13,17,15,15,14,18,0,3,0,26,3,2,3,0,5,0,5,0,81,5,5,5,19,0,1] [2] (fun n P f=>aB [n+2,(f 8).2.2 0,(f 16).2.2 0])
theorem Es (b:Bool) (w:Yc) (x q:Int) (r g:Int) (h:Int) (s:Int) (k:Str) (z:Str) (t i:Int) (m:Int) (d:Int) (c:Str) (e:Str) (N:x.fmod 2=1) (E:x.fdiv 2=q) (H:q.fdiv 1=r) (F:r.fmod 18=g) (L:g.fmod 3=1) (I:g.fdiv 3=h) (G:(h+0).fmod 6=s) (O:bL s k) (j:Txt.join "" [k]=z) (o:JoinOk "" [k]=true) (A:q.fdiv 18=t) (y:t.fmod 18=i) (C:i.fmod 3=1) (D:i.fdiv 3=m) (B:(m+0).fmod 6=d) (u:bL d c) (J:Txt.join "" [c]=e) (K:JoinOk "" [c]=true) (p:af):aC (B0 (W b true w)) 1 (.call (.ref 274) ⟨[.int x (p 0 0)],[]⟩) [] (fun a=>(.ret (.ref (a 0)),[],[(a 0,ab [.str z (a 1),.str e (a 2)] 2)])):=
 aA (orcs:=[i2 "int.__mod__" x 2 fun a=>.int 1 (a 0),i2 "int.__floordiv__" x 2 fun a=>.int q (a 0),i2 "int.__floordiv__" q 1 fun a=>.int r (a 0),i2 "int.__mod__" r 18 fun a=>.int g (a 0),i2 "int.__mod__" g 3 fun a=>.int 1 (a 0),i2 "int.__floordiv__" g 3 fun a=>.int h (a 0),i2 "int.__mod__" (h+0) 6 fun a=>.int s (a 0),b3 "a/.= é" s k,bx 7 "" [k] z,i2 "int.__floordiv__" x 2 fun a=>.int q (a 0),i2 "int.__floordiv__" q 18 fun a=>.int t (a 0),i2 "int.__mod__" t 18 fun a=>.int i (a 0),i2 "int.__mod__" i 3 fun a=>.int 1 (a 0),i2 "int.__floordiv__" i 3 fun a=>.int m (a 0),i2 "int.__mod__" (m+0) 6 fun a=>.int d (a 0),b3 "a/.= é" d c,bx 13 "" [c] e]) (aa (aM N) (aa (aO E) (aa (aO H) (aa (aM F) (aa (aM L) (aa (aO I) (aa (aM G) (aa (O.sure) (aa (bB j o) (aa (aO E) (aa (aO A) (aa (aM y) (aa (aM C) (aa (aO D) (aa (aM B) (aa (u.sure) (aa (bB J K) aq))))))))))))))))) 455 17 [0,0,1,0,0,0,1,0,0,0,1,2,0,0,16,0,0,0,0,0,79,4,4,0,4,0,29,4,4,4,0,4,0,80,4,4,4,5,0,5,0,5,0,81,5,5,5,5,4,5,4,1,0,1,3,1,0,0,83,4,5,2,1,1,3,3,3,3,0,0,2,6,0,0,0,0,0,79,6,6,0,6,0,29,6,6,6,0,6,0,80,6,6,6,7,0,0,7,0,7,0,81,7,7,7,7,6,7,6,9,8,2,7,9,0,0,16,8,9,0,8,0,26,8,7,8,0,7,0,7,0,81,7,7,7,11,9,9,8,10,0,3,0,26,3,2,3,0,5,0,5,0,81,5,5,5,5,4,5,4,1,0,1,11,1,0,0,83,12,13,2,1,1,3,3,3,3,0,0,2,14,0,0,0,0,0,79,12,12,0,12,0,29,12,12,12,0,12,0,80,12,12,12,13,0,0,13,0,13,0,81,13,13,13,13,12,13,12,15,14,2,15,15,0,0,16,16,17,0,14,0,26,14,13,14,0,13,0,13,0,81,13,13,13,17,15,15,14,18,0,3,0,26,3,2,3,0,5,0,5,0,81,5,5,5,19,0,1] [2] (fun n P f=>aB [n+2,(f 8).2.2 0,(f 16).2.2 0])
theorem Et (b:Bool) (w:Yc) (x q:Int) (r g:Int) (h:Int) (y:Int) (t:Str) (C:Str) (z s:Int) (k:Int) (e:Int) (d:Str) (i:Int) (c:Str) (m:Str) (Q:x.fmod 2=1) (I:x.fdiv 2=q) (L:q.fdiv 1=r) (J:r.fmod 18=g) (P:g.fmod 3=1) (R:g.fdiv 3=h) (K:(h+0).fmod 6=y) (S:bL y t) (j:Txt.join "" [t]=C) (o:JoinOk "" [t]=true) (E:q.fdiv 18=z) (B:z.fmod 18=s) (H:s.fmod 3=2) (u:s.fdiv 3=k) (G:(k+0).fmod 6=e) (A:bL e d) (D:(k+1).fmod 6=i) (F:bL i c) (N:Txt.join "" [d,c]=m) (O:JoinOk "" [d,c]=true) (p:af):aC (B0 (W b false w)) 1 (.call (.ref 274) ⟨[.int x (p 0 0)],[]⟩) [] (fun a=>(.ret (.ref (a 0)),[],[(a 0,ab [.str C (a 1),.str m (a 2)] 2)])):=
 aA (orcs:=[i2 "int.__mod__" x 2 fun a=>.int 1 (a 0),i2 "int.__floordiv__" x 2 fun a=>.int q (a 0),i2 "int.__floordiv__" q 1 fun a=>.int r (a 0),i2 "int.__mod__" r 18 fun a=>.int g (a 0),i2 "int.__mod__" g 3 fun a=>.int 1 (a 0),i2 "int.__floordiv__" g 3 fun a=>.int h (a 0),i2 "int.__mod__" (h+0) 6 fun a=>.int y (a 0),b3 "a/.= é" y t,bx 7 "" [t] C,i2 "int.__floordiv__" x 2 fun a=>.int q (a 0),i2 "int.__floordiv__" q 18 fun a=>.int z (a 0),i2 "int.__mod__" z 18 fun a=>.int s (a 0),i2 "int.__mod__" s 3 fun a=>.int 2 (a 0),i2 "int.__floordiv__" s 3 fun a=>.int k (a 0),i2 "int.__mod__" (k+0) 6 fun a=>.int e (a 0),b3 "a/.= é" e d,i2 "int.__floordiv__" s 3 fun a=>.int k (a 0),i2 "int.__mod__" (k+1) 6 fun a=>.int i (a 0),b3 "a/.= é" i c,bx 13 "" [d,c] m]) (aa (aM Q) (aa (aO I) (aa (aO L) (aa (aM J) (aa (aM P) (aa (aO R) (aa (aM K) (aa (S.sure) (aa (bB j o) (aa (aO I) (aa (aO E) (aa (aM B) (aa (aM H) (aa (aO u) (aa (aM G) (aa (A.sure) (aa (aO u) (aa (aM D) (aa (F.sure) (aa (bB N O) aq)))))))))))))))))))) 522 20 [0,0,1,0,0,0,1,0,0,0,1,2,0,0,16,0,0,0,0,0,79,4,4,0,4,0,29,4,4,4,0,4,0,80,4,4,4,5,0,5,0,5,0,81,5,5,5,5,4,5,4,1,0,1,3,1,0,0,83,4,5,2,1,1,3,3,3,3,0,0,2,6,0,0,0,0,0,79,6,6,0,6,0,29,6,6,6,0,6,0,80,6,6,6,7,0,7,7,0,7,0,84,7,0,7,0,7,0,81,7,7,7,7,6,7,6,9,8,2,7,9,0,0,16,8,9,0,8,0,26,8,7,8,0,7,0,7,0,81,7,7,7,11,9,9,8,10,0,3,0,26,3,2,3,0,5,0,5,0,81,5,5,5,5,4,5,4,1,0,1,11,1,0,0,83,12,13,2,1,1,3,3,3,3,0,0,2,14,0,0,0,0,0,79,12,12,0,12,0,29,12,12,12,0,12,0,80,12,12,12,13,0,13,13,0,13,0,84,13,0,13,0,13,0,81,13,13,13,13,12,13,12,15,14,2,15,15,0,0,16,16,17,0,14,0,26,14,13,14,0,13,0,13,0,81,13,13,13,13,12,13,12,15,14,2,18,15,0,0,16,19,20,0,14,0,26,14,13,14,0,13,0,13,0,81,13,13,13,17,15,15,14,21,0,3,0,26,3,2,3,0,5,0,5,0,81,5,5,5,19,0,1] [2] (fun n T f=>aB [n+2,(f 8).2.2 0,(f 19).2.2 0])
theorem Eu (b:Bool) (w:Yc) (x q:Int) (r g:Int) (h:Int) (y:Int) (t:Str) (C:Str) (z s:Int) (k:Int) (e:Int) (d:Str) (i:Int) (c:Str) (m:Str) (Q:x.fmod 2=1) (I:x.fdiv 2=q) (L:q.fdiv 1=r) (J:r.fmod 18=g) (P:g.fmod 3=1) (R:g.fdiv 3=h) (K:(h+0).fmod 6=y) (S:bL y t) (j:Txt.join "" [t]=C) (o:JoinOk "" [t]=true) (E:q.fdiv 18=z) (B:z.fmod 18=s) (H:s.fmod 3=2) (u:s.fdiv 3=k) (G:(k+0).fmod 6=e) (A:bL e d) (D:(k+1).fmod 6=i) (F:bL i c) (N:Txt.join "" [d,c]=m) (O:JoinOk "" [d,c]=true) (p:af):aC (B0 (W b true w)) 1 (.call (.ref 274) ⟨[.int x (p 0 0)],[]⟩) [] (fun a=>(.ret (.ref (a 0)),[],[(a 0,ab [.str C (a 1),.str m (a 2)] 2)])):=
 aA (orcs:=[i2 "int.__mod__" x 2 fun a=>.int 1 (a 0),i2 "int.__floordiv__" x 2 fun a=>.int q (a 0),i2 "int.__floordiv__" q 1 fun a=>.int r (a 0),i2 "int.__mod__" r 18 fun a=>.int g (a 0),i2 "int.__mod__" g 3 fun a=>.int 1 (a 0),i2 "int.__floordiv__" g 3 fun a=>.int h (a 0),i2 "int.__mod__" (h+0) 6 fun a=>.int y (a 0),b3 "a/.= é" y t,bx 7 "" [t] C,i2 "int.__floordiv__" x 2 fun a=>.int q (a 0),i2 "int.__floordiv__" q 18 fun a=>.int z (a 0),i2 "int.__mod__" z 18 fun a=>.int s (a 0),i2 "int.__mod__" s 3 fun a=>.int 2 (a 0),i2 "int.__floordiv__" s 3 fun a=>.int k (a 0),i2 "int.__mod__" (k+0) 6 fun a=>.int e (a 0),b3 "a/.= é" e d,i2 "int.__floordiv__" s 3 fun a=>.int k (a 0),i2 "int.__mod__" (k+1) 6 fun a=>.int i (a 0),b3 "a/.= é" i c,bx 13 "" [d,c] m]) (aa (aM Q) (aa (aO I) (aa (aO L) (aa (aM J) (aa (aM P) (aa (aO R) (aa (aM K) (aa (S.sure) (aa (bB j o) (aa (aO I) (aa (aO E) (aa (aM B) (aa (aM H) (aa (aO u) (aa (aM G) (aa (A.sure) (aa (aO u) (aa (aM D) (aa (F.sure) (aa (bB N O) aq)))))))))))))))))))) 502 20 [0,0,1,0,0,0,1,0,0,0,1,2,0,0,16,0,0,0,0,0,79,4,4,0,4,0,29,4,4,4,0,4,0,80,4,4,4,5,0,5,0,5,0,81,5,5,5,5,4,5,4,1,0,1,3,1,0,0,83,4,5,2,1,1,3,3,3,3,0,0,2,6,0,0,0,0,0,79,6,6,0,6,0,29,6,6,6,0,6,0,80,6,6,6,7,0,0,7,0,7,0,81,7,7,7,7,6,7,6,9,8,2,7,9,0,0,16,8,9,0,8,0,26,8,7,8,0,7,0,7,0,81,7,7,7,11,9,9,8,10,0,3,0,26,3,2,3,0,5,0,5,0,81,5,5,5,5,4,5,4,1,0,1,11,1,0,0,83,12,13,2,1,1,3,3,3,3,0,0,2,14,0,0,0,0,0,79,12,12,0,12,0,29,12,12,12,0,12,0,80,12,12,12,13,0,0,13,0,13,0,81,13,13,13,13,12,13,12,15,14,2,15,15,0,0,16,16,17,0,14,0,26,14,13,14,0,13,0,13,0,81,13,13,13,13,12,13,12,15,14,2,18,15,0,0,16,19,20,0,14,0,26,14,13,14,0,13,0,13,0,81,13,13,13,17,15,15,14,21,0,3,0,26,3,2,3,0,5,0,5,0,81,5,5,5,19,0,1] [2] (fun n T f=>aB [n+2,(f 8).2.2 0,(f 19).2.2 0])
theorem Ev (b:Bool) (w:Yc) (x q:Int) (r g:Int) (h:Int) (i:Int) (c:Str) (e:Int) (d:Str) (t:Str) (k m:Int) (G:x.fmod 2=1) (z:x.fdiv 2=q) (D:q.fdiv 1=r) (B:r.fmod 18=g) (F:g.fmod 3=2) (A:g.fdiv 3=h) (C:(h+0).fmod 6=i) (H:bL i c) (E:(h+1).fmod 6=e) (I:bL e d) (j:Txt.join "" [c,d]=t) (o:JoinOk "" [c,d]=true) (u:q.fdiv 18=k) (s:k.fmod 18=m) (y:m.fmod 3=0) (p:af):aC (B0 (W b false w)) 1 (.call (.ref 274) ⟨[.int x (p 0 0)],[]⟩) [] (fun a=>(.ret (.ref (a 0)),[],[(a 0,ab [.str t (a 1),.str "" (a 2)] 2)])):=
 aA (orcs:=[i2 "int.__mod__" x 2 fun a=>.int 1 (a 0),i2 "int.__floordiv__" x 2 fun a=>.int q (a 0),i2 "int.__floordiv__" q 1 fun a=>.int r (a 0),i2 "int.__mod__" r 18 fun a=>.int g (a 0),i2 "int.__mod__" g 3 fun a=>.int 2 (a 0),i2 "int.__floordiv__" g 3 fun a=>.int h (a 0),i2 "int.__mod__" (h+0) 6 fun a=>.int i (a 0),b3 "a/.= é" i c,i2 "int.__floordiv__" g 3 fun a=>.int h (a 0),i2 "int.__mod__" (h+1) 6 fun a=>.int e (a 0),b3 "a/.= é" e d,bx 7 "" [c,d] t,i2 "int.__floordiv__" x 2 fun a=>.int q (a 0),i2 "int.__floordiv__" q 18 fun a=>.int k (a 0),i2 "int.__mod__" k 18 fun a=>.int m (a 0),i2 "int.__mod__" m 3 fun a=>.int 0 (a 0)]) (aa (aM G) (aa (aO z) (aa (aO D) (aa (aM B) (aa (aM F) (aa (aO A) (aa (aM C) (aa (H.sure) (aa (aO A) (aa (aM E) (aa (I.sure) (aa (bB j o) (aa (aO z) (aa (aO u) (aa (aM s) (aa (aM y) aq)))))))))))))))) 476 16 [0,0,1,0,0,0,1,0,0,0,1,2,0,0,16,0,0,0,0,0,79,4,4,0,4,0,29,4,4,4,0,4,0,80,4,4,4,5,0,5,0,5,0,81,5,5,5,5,4,5,4,1,0,1,3,1,0,0,83,4,5,2,1,1,3,3,3,3,0,0,2,6,0,0,0,0,0,79,6,6,0,6,0,29,6,6,6,0,6,0,80,6,6,6,7,0,7,7,0,7,0,84,7,0,7,0,7,0,81,7,7,7,7,6,7,6,9,8,2,7,9,0,0,16,8,9,0,8,0,26,8,7,8,0,7,0,7,0,81,7,7,7,7,6,7,6,9,8,2,10,9,0,0,16,11,12,0,8,0,26,8,7,8,0,7,0,7,0,81,7,7,7,11,9,9,8,13,0,3,0,26,3,2,3,0,5,0,5,0,81,5,5,5,5,4,5,4,1,0,1,14,1,0,0,83,15,16,2,1,1,3,3,3,3,0,0,2,17,0,0,0,0,0,79,12,12,0,12,0,29,12,12,12,0,12,0,80,12,12,12,13,0,13,13,0,13,0,84,13,0,13,0,13,0,81,13,13,13,17,15,0,0,27,14,14,0,3,0,26,3,2,3,0,5,0,5,0,81,5,5,5,19,0,1] [2] (fun n J f=>aB [n+2,(f 11).2.2 0,(f 15).2.1+2])
theorem Ew (b:Bool) (w:Yc) (x q:Int) (r g:Int) (h:Int) (i:Int) (c:Str) (e:Int) (d:Str) (t:Str) (k m:Int) (G:x.fmod 2=1) (z:x.fdiv 2=q) (D:q.fdiv 1=r) (B:r.fmod 18=g) (F:g.fmod 3=2) (A:g.fdiv 3=h) (C:(h+0).fmod 6=i) (H:bL i c) (E:(h+1).fmod 6=e) (I:bL e d) (j:Txt.join "" [c,d]=t) (o:JoinOk "" [c,d]=true) (u:q.fdiv 18=k) (s:k.fmod 18=m) (y:m.fmod 3=0) (p:af):aC (B0 (W b true w)) 1 (.call (.ref 274) ⟨[.int x (p 0 0)],[]⟩) [] (fun a=>(.ret (.ref (a 0)),[],[(a 0,ab [.str t (a 1),.str "" (a 2)] 2)])):=
 aA (orcs:=[i2 "int.__mod__" x 2 fun a=>.int 1 (a 0),i2 "int.__floordiv__" x 2 fun a=>.int q (a 0),i2 "int.__floordiv__" q 1 fun a=>.int r (a 0),i2 "int.__mod__" r 18 fun a=>.int g (a 0),i2 "int.__mod__" g 3 fun a=>.int 2 (a 0),i2 "int.__floordiv__" g 3 fun a=>.int h (a 0),i2 "int.__mod__" (h+0) 6 fun a=>.int i (a 0),b3 "a/.= é" i c,i2 "int.__floordiv__" g 3 fun a=>.int h (a 0),i2 "int.__mod__" (h+1) 6 fun a=>.int e (a 0),b3 "a/.= é" e d,bx 7 "" [c,d] t,i2 "int.__floordiv__" x 2 fun a=>.int q (a 0),i2 "int.__floordiv__" q 18 fun a=>.int k (a 0),i2 "int.__mod__" k 18 fun a=>.int m (a 0),i2 "int.__mod__" m 3 fun a=>.int 0 (a 0)]) (aa (aM G) (aa (aO z) (aa (aO D) (aa (aM B) (aa (aM F) (aa (aO A) (aa (aM C) (aa (H.sure) (aa (aO A) (aa (aM E) (aa (I.sure) (aa (bB j o) (aa (aO z) (aa (aO u) (aa (aM s) (aa (aM y) aq)))))))))))))))) 456 16 [0,0,1,0,0,0,1,0,0,0,1,2,0,0,16,0,0,0,0,0,79,4,4,0,4,0,29,4,4,4,0,4,0,80,4,4,4,5,0,5,0,5,0,81,5,5,5,5,4,5,4,1,0,1,3,1,0,0,83,4,5,2,1,1,3,3,3,3,0,0,2,6,0,0,0,0,0,79,6,6,0,6,0,29,6,6,6,0,6,0,80,6,6,6,7,0,0,7,0,7,0,81,7,7,7,7,6,7,6,9,8,2,7,9,0,0,16,8,9,0,8,0,26,8,7,8,0,7,0,7,0,81,7,7,7,7,6,7,6,9,8,2,10,9,0,0,16,11,12,0,8,0,26,8,7,8,0,7,0,7,0,81,7,7,7,11,9,9,8,13,0,3,0,26,3,2,3,0,5,0,5,0,81,5,5,5,5,4,5,4,1,0,1,14,1,0,0,83,15,16,2,1,1,3,3,3,3,0,0,2,17,0,0,0,0,0,79,12,12,0,12,0,29,12,12,12,0,12,0,80,12,12,12,13,0,0,13,0,13,0,81,13,13,13,17,15,0,0,27,14,14,0,3,0,26,3,2,3,0,5,0,5,0,81,5,5,5,19,0,1] [2] (fun n J f=>aB [n+2,(f 11).2.2 0,(f 15).2.1+2])
theorem Ex (b:Bool) (w:Yc) (x q:Int) (r g:Int) (h:Int) (u:Int) (k:Str) (s:Int) (m:Str) (B:Str) (y i:Int) (t:Int) (d:Int) (c:Str) (e:Str) (Q:x.fmod 2=1) (G:x.fdiv 2=q) (K:q.fdiv 1=r) (I:r.fmod 18=g) (P:g.fmod 3=2) (H:g.fdiv 3=h) (J:(h+0).fmod 6=u) (R:bL u k) (L:(h+1).fmod 6=s) (S:bL s m) (j:Txt.join "" [k,m]=B) (o:JoinOk "" [k,m]=true) (C:q.fdiv 18=y) (A:y.fmod 18=i) (E:i.fmod 3=1) (F:i.fdiv 3=t) (D:(t+0).fmod 6=d) (z:bL d c) (N:Txt.join "" [c]=e) (O:JoinOk "" [c]=true) (p:af):aC (B0 (W b false w)) 1 (.call (.ref 274) ⟨[.int x (p 0 0)],[]⟩) [] (fun a=>(.ret (.ref (a 0)),[],[(a 0,ab [.str B (a 1),.str e (a 2)] 2)])):=
 aA (orcs:=[i2 "int.__mod__" x 2 fun a=>.int 1 (a 0),i2 "int.__floordiv__" x 2 fun a=>.int q (a 0),i2 "int.__floordiv__" q 1 fun a=>.int r (a 0),i2 "int.__mod__" r 18 fun a=>.int g (a 0),i2 "int.__mod__" g 3 fun a=>.int 2 (a 0),i2 "int.__floordiv__" g 3 fun a=>.int h (a 0),i2 "int.__mod__" (h+0) 6 fun a=>.int u (a 0),b3 "a/.= é" u k,i2 "int.__floordiv__" g 3 fun a=>.int h (a 0),i2 "int.__mod__" (h+1) 6 fun a=>.int s (a 0),b3 "a/.= é" s m,bx 7 "" [k,m] B,i2 "int.__floordiv__" x 2 fun a=>.int q (a 0),i2 "int.__floordiv__" q 18 fun a=>.int y (a 0),i2 "int.__mod__" y 18 fun a=>.int i (a 0),i2 "int.__mod__" i 3 fun a=>.int 1 (a 0),i2 "int.__floordiv__" i 3 fun a=>.int t (a 0),i2 "int.__mod__" (t+0) 6 fun a=>.int d (a 0),b3 "a/.= é" d c,bx 13 "" [c] e]) (aa (aM Q) (aa (aO G) (aa (aO K) (aa (aM I) (aa (aM P) (aa (aO H) (aa (aM J) (aa (R.sure) (aa (aO H) (aa (aM L) (aa (S.sure) (aa (bB j o) (aa (aO G) (aa (aO C) (aa (aM A) (aa (aM E) (aa (aO F) (aa (aM D) (aa (z.sure) (aa (bB N O) aq)))))))))))))))))))) 522 20 [0,0,1,0,0,0,1,0,0,0,1,2,0,0,16,0,0,0,0,0,79,4,4,0,4,0,29,4,4,4,0,4,0,80,4,4,4,5,0,5,0,5,0,81,5,5,5,5,4,5,4,1,0,1,3,1,0,0,83,4,5,2,1,1,3,3,3,3,0,0,2,6,0,0,0,0,0,79,6,6,0,6,0,29,6,6,6,0,6,0,80,6,6,6,7,0,7,7,0,7,0,84,7,0,7,0,7,0,81,7,7,7,7,6,7,6,9,8,2,7,9,0,0,16,8,9,0,8,0,26,8,7,8,0,7,0,7,0,81,7,7,7,7,6,7,6,9,8,2,10,9,0,0,16,11,12,0,8,0,26,8,7,8,0,7,0,7,0,81,7,7,7,11,9,9,8,13,0,3,0,26,3,2,3,0,5,0,5,0,81,5,5,5,5,4,5,4,1,0,1,14,1,0,0,83,15,16,2,1,1,3,3,3,3,0,0,2,17,0,0,0,0,0,79,12,12,0,12,0,29,12,12,12,0,12,0,80,12,12,12,13,0,13,13,0,13,0,84,13,0,13,0,13,0,81,13,13,13,13,12,13,12,15,14,2,18,15,0,0,16,19,20,0,14,0,26,14,13,14,0,13,0,13,0,81,13,13,13,17,15,15,14,21,0,3,0,26,3,2,3,0,5,0,5,0,81,5,5,5,19,0,1] [2] (fun n T f=>aB [n+2,(f 11).2.2 0,(f 19).2.2 0])
theorem Ey (b:Bool) (w:Yc) (x q:Int) (r g:Int) (h:Int) (u:Int) (k:Str) (s:Int) (m:Str) (B:Str) (y i:Int) (t:Int) (d:Int) (c:Str) (e:Str) (Q:x.fmod 2=1) (G:x.fdiv 2=q) (K:q.fdiv 1=r) (I:r.fmod 18=g) (P:g.fmod 3=2) (H:g.fdiv 3=h) (J:(h+0).fmod 6=u) (R:bL u k) (L:(h+1).fmod 6=s) (S:bL s m) (j:Txt.join "" [k,m]=B) (o:JoinOk "" [k,m]=true) (C:q.fdiv 18=y) (A:y.fmod 18=i) (E:i.fmod 3=1) (F:i.fdiv 3=t) (D:(t+0).fmod 6=d) (z:bL d c) (N:Txt.join "" [c]=e) (O:JoinOk "" [c]=true) (p:af):aC (B0 (W b true w)) 1 (.call (.ref 274) ⟨[.int x (p 0 0)],[]⟩) [] (fun a=>(.ret (.ref (a 0)),[],[(a 0,ab [.str B (a 1),.str e (a 2)] 2)])):=
 aA (orcs:=[i2 "int.__mod__" x 2 fun a=>.int 1 (a 0),i2 "int.__floordiv__" x 2 fun a=>.int q (a 0),i2 "int.__floordiv__" q 1 fun a=>.int r (a 0),i2 "int.__mod__" r 18 fun a=>.int g (a 0),i2 "int.__mod__" g 3 fun a=>.int 2 (a 0),i2 "int.__floordiv__" g 3 fun a=>.int h (a 0),i2 "int.__mod__" (h+0) 6 fun a=>.int u (a 0),b3 "a/.= é" u k,i2 "int.__floordiv__" g 3 fun a=>.int h (a 0),i2 "int.__mod__" (h+1) 6 fun a=>.int s (a 0),b3 "a/.= é" s m,bx 7 "" [k,m] B,i2 "int.__floordiv__" x 2 fun a=>.int q (a 0),i2 "int.__floordiv__" q 18 fun a=>.int y (a 0),i2 "int.__mod__" y 18 fun a=>.int i (a 0),i2 "int.__mod__" i 3 fun a=>.int 1 (a 0),i2 "int.__floordiv__" i 3 fun a=>.int t (a 0),i2 "int.__mod__" (t+0) 6 fun a=>.int d (a 0),b3 "a/.= é" d c,bx 13 "" [c] e]) (aa (aM Q) (aa (aO G) (aa (aO K) (aa (aM I) (aa (aM P) (aa (aO H) (aa (aM J) (aa (R.sure) (aa (aO H) (aa (aM L) (aa (S.sure) (aa (bB j o) (aa (aO G) (aa (aO C) (aa (aM A) (aa (aM E) (aa (aO F) (aa (aM D) (aa (z.sure) (aa (bB N O) aq)))))))))))))))))))) 502 20 [0,0,1,0,0,0,1,0,0,0,1,2,0,0,16,0,0,0,0,0,79,4,4,0,4,0,29,4,4,4,0,4,0,80,4,4,4,5,0,5,0,5,0,81,5,5,5,5,4,5,4,1,0,1,3,1,0,0,83,4,5,2,1,1,3,3,3,3,0,0,2,6,0,0,0,0,0,79,6,6,0,6,0,29,6,6,6,0,6,0,80,6,6,6,7,0,0,7,0,7,0,81,7,7,7,7,6,7,6,9,8,2,7,9,0,0,16,8,9,0,8,0,26,8,7,8,0,7,0,7,0,81,7,7,7,7,6,7,6,9,8,2,10,9,0,0,16,11,12,0,8,0,26,8,7,8,0,7,0,7,0,81,7,7,7,11,9,9,8,13,0,3,0,26,3,2,3,0,5,0,5,0,81,5,5,5,5,4,5,4,1,0,1,14,1,0,0,83,15,16,2,1,1,3,3,3,3,0,0,2,17,0,0,0,0,0,79,12,12,0,12,0,29,12,12,12,0,12,0,80,12,12,12,13,0,0,13,0,13,0,81,13,13,13,13,12,13,12,15,14,2,18,15,0,0,16,19,20,0,14,0,26,14,13,14,0,13,0,13,0,81,13,13,13,17,15,15,14,21,0,3,0,26,3,2,3,0,5,0,5,0,81,5,5,5,19,0,1] [2] (fun n T f=>aB [n+2,(f 11).2.2 0,(f 19).2.2 0])
theorem Ez (b:Bool) (w:Yc) (x q:Int) (r g:Int) (h:Int) (A:Int) (t:Str) (z:Int) (y:Str) (E:Str) (B s:Int) (k:Int) (e:Int) (d:Str) (i:Int) (c:Str) (m:Str) (U:x.fmod 2=1) (K:x.fdiv 2=q) (P:q.fdiv 1=r) (N:r.fmod 18=g) (T:g.fmod 3=2) (L:g.fdiv 3=h) (O:(h+0).fmod 6=A) (V:bL A t) (Q:(h+1).fmod 6=z) (X:bL z y) (j:Txt.join "" [t,y]=E) (o:JoinOk "" [t,y]=true) (G:q.fdiv 18=B) (D:B.fmod 18=s) (J:s.fmod 3=2) (u:s.fdiv 3=k) (I:(k+0).fmod 6=e) (C:bL e d) (F:(k+1).fmod 6=i) (H:bL i c) (R:Txt.join "" [d,c]=m) (S:JoinOk "" [d,c]=true) (p:af):aC (B0 (W b false w)) 1 (.call (.ref 274) ⟨[.int x (p 0 0)],[]⟩) [] (fun a=>(.ret (.ref (a 0)),[],[(a 0,ab [.str E (a 1),.str m (a 2)] 2)])):=
 aA (orcs:=[i2 "int.__mod__" x 2 fun a=>.int 1 (a 0),i2 "int.__floordiv__" x 2 fun a=>.int q (a 0),i2 "int.__floordiv__" q 1 fun a=>.int r (a 0),i2 "int.__mod__" r 18 fun a=>.int g (a 0),i2 "int.__mod__" g 3 fun a=>.int 2 (a 0),i2 "int.__floordiv__" g 3 fun a=>.int h (a 0),i2 "int.__mod__" (h+0) 6 fun a=>.int A (a 0),b3 "a/.= é" A t,i2 "int.__floordiv__" g 3 fun a=>.int h (a 0),i2 "int.__mod__" (h+1) 6 fun a=>.int z (a 0),b3 "a/.= é" z y,bx 7 "" [t,y] E,i2 "int.__floordiv__" x 2 fun a=>.int q (a 0),i2 "int.__floordiv__" q 18 fun a=>.int B (a 0),i2 "int.__mod__" B 18 fun a=>.int s (a 0),i2 "int.__mod__" s 3 fun a=>.int 2 (a 0),i2 "int.__floordiv__" s 3 fun a=>.int k (a 0),i2 "int.__mod__" (k+0) 6 fun a=>.int e (a 0),b3 "a/.= é" e d,i2 "int.__floordiv__" s 3 fun a=>.int k (a 0),i2 "int.__mod__" (k+1) 6 fun a=>.int i (a 0),b3 "a/.= é" i c,bx 13 "" [d,c] m]) (aa (aM U) (aa (aO K) (aa (aO P) (aa (aM N) (aa (aM T) (aa (aO L) (aa (aM O) (aa (V.sure) (aa (aO L) (aa (aM Q) (aa (X.sure) (aa (bB j o) (aa (aO K) (aa (aO G) (aa (aM D) (aa (aM J) (aa (aO u) (aa (aM I) (aa (C.sure) (aa (aO u) (aa (aM F) (aa (H.sure) (aa (bB R S) aq))))))))))))))))))))))) 569 23 [0,0,1,0,0,0,1,0,0,0,1,2,0,0,16,0,0,0,0,0,79,4,4,0,4,0,29,4,4,4,0,4,0,80,4,4,4,5,0,5,0,5,0,81,5,5,5,5,4,5,4,1,0,1,3,1,0,0,83,4,5,2,1,1,3,3,3,3,0,0,2,6,0,0,0,0,0,79,6,6,0,6,0,29,6,6,6,0,6,0,80,6,6,6,7,0,7,7,0,7,0,84,7,0,7,0,7,0,81,7,7,7,7,6,7,6,9,8,2,7,9,0,0,16,8,9,0,8,0,26,8,7,8,0,7,0,7,0,81,7,7,7,7,6,7,6,9,8,2,10,9,0,0,16,11,12,0,8,0,26,8,7,8,0,7,0,7,0,81,7,7,7,11,9,9,8,13,0,3,0,26,3,2,3,0,5,0,5,0,81,5,5,5,5,4,5,4,1,0,1,14,1,0,0,83,15,16,2,1,1,3,3,3,3,0,0,2,17,0,0,0,0,0,79,12,12,0,12,0,29,12,12,12,0,12,0,80,12,12,12,13,0,13,13,0,13,0,84,13,0,13,0,13,0,81,13,13,13,13,12,13,12,15,14,2,18,15,0,0,16,19,20,0,14,0,26,14,13,14,0,13,0,13,0,81,13,13,13,13,12,13,12,15,14,2,21,15,0,0,16,22,23,0,14,0,26,14,13,14,0,13,0,13,0,81,13,13,13,17,15,15,14,24,0,3,0,26,3,2,3,0,5,0,5,0,81,5,5,5,19,0,1] [2] (fun n Y f=>aB [n+2,(f 11).2.2 0,(f 22).2.2 0])
theorem EA (b:Bool) (w:Yc) (x q:Int) (r g:Int) (h:Int) (A:Int) (t:Str) (z:Int) (y:Str) (E:Str) (B s:Int) (k:Int) (e:Int) (d:Str) (i:Int) (c:Str) (m:Str) (U:x.fmod 2=1) (K:x.fdiv 2=q) (P:q.fdiv 1=r) (N:r.fmod 18=g) (T:g.fmod 3=2) (L:g.fdiv 3=h) (O:(h+0).fmod 6=A) (V:bL A t) (Q:(h+1).fmod 6=z) (X:bL z y) (j:Txt.join "" [t,y]=E) (o:JoinOk "" [t,y]=true) (G:q.fdiv 18=B) (D:B.fmod 18=s) (J:s.fmod 3=2) (u:s.fdiv 3=k) (I:(k+0).fmod 6=e) (C:bL e d) (F:(k+1).fmod 6=i) (H:bL i c) (R:Txt.join "" [d,c]=m) (S:JoinOk "" [d,c]=true) (p:af):aC (B0 (W b true w)) 1 (.call (.ref 274) ⟨[.int x (p 0 0)],[]⟩) [] (fun a=>(.ret (.ref (a 0)),[],[(a 0,ab [.str E (a 1),.str m (a 2)] 2)])):=
 aA (orcs:=[i2 "int.__mod__" x 2 fun a=>.int 1 (a 0),i2 "int.__floordiv__" x 2 fun a=>.int q (a 0),i2 "int.__floordiv__" q 1 fun a=>.int r (a 0),i2 "int.__mod__" r 18 fun a=>.int g (a 0),i2 "int.__mod__" g 3 fun a=>.int 2 (a 0),i2 "int.__floordiv__" g 3 fun a=>.int h (a 0),i2 "int.__mod__" (h+0) 6 fun a=>.int A (a 0),b3 "a/.= é" A t,i2 "int.__floordiv__" g 3 fun a=>.int h (a 0),i2 "int.__mod__" (h+1) 6 fun a=>.int z (a 0),b3 "a/.= é" z y,bx 7 "" [t,y] E,i2 "int.__floordiv__" x 2 fun a=>.int q (a 0),i2 "int.__floordiv__" q 18 fun a=>.int B (a 0),i2 "int.__mod__" B 18 fun a=>.int s (a 0),i2 "int.__mod__" s 3 fun a=>.int 2 (a 0),i2 "int.__floordiv__" s 3 fun a=>.int k (a 0),i2 "int.__mod__" (k+0) 6 fun a=>.int e (a 0),b3 "a/.= é" e d,i2 "int.__floordiv__" s 3 fun a=>.int k (a 0),i2 "int.__mod__" (k+1) 6 fun a=>.int i (a 0),b3 "a/.= é" i c,bx 13 "" [d,c] m]) (aa (aM U) (aa (aO K) (aa (aO P) (aa (aM N) (aa (aM T) (aa (aO L) (aa (aM O) (aa (V.sure) (aa (aO L) (aa (aM Q) (aa (X.sure) (aa (bB j o) (aa (aO K) (aa (aO G) (aa (aM D) (aa (aM J) (aa (aO u) (aa (aM I) (aa (C.sure) (aa (aO u) (aa (aM F) (aa (H.sure) (aa (bB R S) aq))))))))))))))))))))))) 549 23 [0,0,1,0,0,0,1,0,0,0,1,2,0,0,16,0,0,0,0,0,79,4,4,0,4,0,29,4,4,4,0,4,0,80,4,4,4,5,0,5,0,5,0,81,5,5,5,5,4,5,4,1,0,1,3,1,0,0,83,4,5,2,1,1,3,3,3,3,0,0,2,6,0,0,0,0,0,79,6,6,0,6,0,29,6,6,6,0,6,0,80,6,6,6,7,0,0,7,0,7,0,81,7,7,7,7,6,7,6,9,8,2,7,9,0,0,16,8,9,0,8,0,26,8,7,8,0,7,0,7,0,81,7,7,7,7,6,7,6,9,8,2,10,9,0,0,16,11,12,0,8,0,26,8,7,8,0,7,0,7,0,81,7,7,7,11,9,9,8,13,0,3,0,26,3,2,3,0,5,0,5,0,81,5,5,5,5,4,5,4,1,0,1,14,1,0,0,83,15,16,2,1,1,3,3,3,3,0,0,2,17,0,0,0,0,0,79,12,12,0,12,0,29,12,12,12,0,12,0,80,12,12,12,13,0,0,13,0,13,0,81,13,13,13,13,12,13,12,15,14,2,18,15,0,0,16,19,20,0,14,0,26,14,13,14,0,13,0,13,0,81,13,13,13,13,12,13,12,15,14,2,21,15,0,0,16,22,23,0,14,0,26,14,13,14,0,13,0,13,0,81,13,13,13,17,15,15,14,24,0,3,0,26,3,2,3,0,5,0,5,0,81,5,5,5,19,0,1] [2] (fun n Y f=>aB [n+2,(f 11).2.2 0,(f 22).2.2 0])
end
def zc (x:Str) (p:af):Code:=.call (.ref 208) ⟨[.str x (p 0 0)],[]⟩
def zd (x:Str) (p:af):Ya:=[]
def ze (x:Str) (p:af) (a:Ye):Flow×Yf×Ya:=(.ret (.str x (p 0 0)),[],[])
theorem EB (b c:Bool) (w:Yc) (x:Str) (p:af):aC (B0 (W b c w)) 1 (zc x p) (zd x p) (ze x p):=
 aA (orcs:=[]) aq 62 0 [0,0,1,0,0,0,0,0,1,0,0,0,1,0,0,0,1,0,0,0,0,0,0,1,0,2,2,2,2,2,0,0,2,1] [] (fun n a f=>fun _=>0)
def eb (a:Yh) (x:Str):aH:=bA (zc x) a (zd x) (ze x)
theorem eO {b c:Bool} {w:Yc} {m:Nat} (a:Yh) (d:a.Nodup) (x:Str) (e:1≤m):(eb a x).Sure (B0 (W b c w)) m:=
 (bS d fun p=>EB b c w x p).le e
def zf (x:Str) (p:af):Code:=.call (.ref 222) ⟨[.str x (p 0 0)],[]⟩
def zg (x:Str) (p:af):Ya:=[]
def zh (x:Str) (p:af) (a:Ye):Flow×Yf×Ya:=(.ret (.str "/" (a 0)),[],[])
theorem EC (b c:Bool) (w:Yc) (x:Str) (p:af):aC (B0 (W b c w)) 1 (zf x p) (zg x p) (zh x p):=
 aA (orcs:=[]) aq 41 0 [0,0,1,0,0,0,0,0,1,0,0,0,0,3,0,4,0,0,5,0,0,6,0,7] [] (fun n a f=>aB [a+2])
def jl (a:Yh) (x:Str):aH:=bA (zf x) a (zg x) (zh x)
theorem ka {b c:Bool} {w:Yc} {m:Nat} (a:Yh) (d:a.Nodup) (x:Str) (e:1≤m):(jl a x).Sure (B0 (W b c w)) m:=
 (bS d fun p=>EC b c w x p).le e
theorem da:∀a∈aD,Txt.startswith a "/" = false∧(a.length==0)=false∧("/" ++ a).length≤1000:=by decide +kernel
theorem ED:∀a∈aD,Txt.endswith ("/" ++ a) "/" = false:=by decide +kernel
theorem zi:∀a∈aD,(("/" ++ a).length==0)=false:=by decide +kernel
theorem zj:∀a∈aD,(("/" ++ a).length:Int)=((a.length+1:Nat):Int):=by decide +kernel
theorem pe:∀a∈aD,∀b∈aD,("/" ++ a++("/" ++ b)).length≤1000:=by decide +kernel
def zk (a:Str) (p:af):Code:=.call (.ref 229) ⟨[.str "/" (p 0 0),.str a (p 0 1)],[]⟩
def zl (a:Str) (p:af):Ya:=[]
def zm (a:Str) (p:af) (b:Ye):Flow×Yf×Ya:=(.ret (.str ("/" ++ a) (b 0)),[],[])
theorem EE (b c:Bool) (w:Yc) (a:Str) (d:a∈aD) (p:af):aC (B0 (W b c w)) 2 (zk a p) (zl a p) (zm a p):=
 aA (orcs:=[eb [] "/",jl [] "/",eb [] a,o2 "str.startswith" a "/" fun _=>.bool false,o2 "str.__add__" "/" a fun e=>.str ("/" ++ a) (e 0)]) (aa (eO [] (by decide) "/" (by decide)) (aa (ka [] (by decide) "/" (by decide)) (aa (eO [] (by decide) a (by decide)) (aa (cm ((da a d).1)) (aa (fX rfl (by decide +kernel) (da a d).2.1 (da a d).2.2) aq))))) 180 5 [0,0,2,1,2,1,0,0,0,2,0,2,2,1,0,2,0,3,2,1,2,2,1,2,1,1,0,1,0,8,3,0,3,0,3,0,9,3,3,1,3,2,2,1,0,2,0,4,2,1,2,2,5,2,0,11,0,0,12,2,2,0,0,13,2,2,6,2,1,0,3,0,3,0,9,3,3,1,3,2,5,0,2] [] (fun n g f=>aB [(f 4).2.2 0])
def zn (b:Yh) (a:Str):aH:=bA (zk a) b (zl a) (zm a)
theorem EF {b c:Bool} {w:Yc} {m:Nat} (d:Yh) (e:d.Nodup) (a:Str) (g:a∈aD) (f:2≤m):(zn d a).Sure (B0 (W b c w)) m:=
 (bS e fun p=>EE b c w a g p).le f
def zo (a b:Str) (p:af):Code:=.call (.ref 229) ⟨[.str "/" (p 0 0),.str a (p 0 1),.str b (p 0 2)],[]⟩
def zp (a b:Str) (p:af):Ya:=[]
def zq (a b:Str) (p:af) (c:Ye):Flow×Yf×Ya:=(.ret (.str ("/" ++ a++("/" ++ b)) (c 0)),[],[])
theorem EG (b c:Bool) (w:Yc) (a d:Str) (e:a∈aD) (h:d∈aD) (p:af):aC (B0 (W b c w)) 2 (zo a d p) (zp a d p) (zq a d p):=
 aA (orcs:=[eb [] "/",jl [] "/",eb [] a,o2 "str.startswith" a "/" fun _=>.bool false,o2 "str.__add__" "/" a fun g=>.str ("/" ++ a) (g 0),eb [] d,o2 "str.startswith" d "/" fun _=>.bool false,a9 ("/" ++ a) ((a.length+1:Nat):Int),o2 "str.endswith" ("/" ++ a) "/" fun _=>.bool false,o2 "str.__add__" "/" d fun g=>.str ("/" ++ d) (g 0),o2 "str.__add__" ("/" ++ a) ("/" ++ d) fun g=>.str ("/" ++ a++("/" ++ d)) (g 0)]) (aa (eO [] (by decide) "/" (by decide)) (aa (ka [] (by decide) "/" (by decide)) (aa (eO [] (by decide) a (by decide)) (aa (cm ((da a e).1)) (aa (fX rfl (by decide +kernel) (da a e).2.1 (da a e).2.2) (aa (eO [] (by decide) d (by decide)) (aa (cm ((da d h).1)) (aa (bb (zj a e) (da a e).2.2) (aa (Dt (ED a e)) (aa (fX rfl (by decide +kernel) (da d h).2.1 (da d h).2.2) (aa (fX rfl (zi a e) (zi d h) (pe a e d h)) aq))))))))))) 260 11 [0,0,2,1,2,1,0,0,0,2,0,2,2,1,0,2,0,3,2,1,2,2,1,2,1,1,0,1,0,8,3,0,3,0,3,0,9,3,3,1,3,2,2,1,0,2,0,4,2,1,2,2,5,2,0,11,0,0,12,2,2,0,0,13,2,2,6,2,1,0,3,0,3,0,9,3,3,1,3,2,2,1,0,2,0,7,2,1,2,2,8,2,9,2,2,10,2,2,2,11,12,2,1,0,3,0,3,0,9,3,3,1,3,2,5,0,2] [] (fun n i f=>aB [(f 10).2.2 0])
def zr (c:Yh) (a b:Str):aH:=bA (zo a b) c (zp a b) (zq a b)
theorem EH {b c:Bool} {w:Yc} {m:Nat} (e:Yh) (f:e.Nodup) (a d:Str) (i:a∈aD) (h:d∈aD) (g:2≤m):(zr e a d).Sure (B0 (W b c w)) m:=
 (bS f fun p=>EG b c w a d i h p).le g
def b1:Yg:=["","a","/",".","="," ","é","a/","/.",".=","= "," é","éa"]
def uS:List (Str×Str)→Str→Str
 | [],x=>x
 | q::l,x=>if q.1==x then q.2 else uS l x
def b4 (x:Str):Str:=uS (aD.zip b1) x
theorem EI (b c:Bool) (w:Yc) (p:af):aC (B0 (W b c w)) 1 (.call (.ref 86) ⟨[.str "=" (p 0 0)],[]⟩) [] (fun a=>(.ret (.str "" (a 0)),[],[])):=
 aA (orcs:=[]) aq 276 0 [0,0,0,1,0,1,0,0,0,1,0,11,0,0,12,1,0,1,0,0,64,2,2,0,2,0,23,3,0,3,0,3,0,24,3,3,2,3,2,1,0,1,0,0,21,1,0,1,0,11,0,0,12,1,0,0,0,1,0,0,11,0,0,12,1,0,0,1,1,0,0,63,1,1,0,0,17,1,0,1,0,0,20,1,0,0,16,1,0,0,65,1,0,0,16,1,0,0,1,1,0,0,63,0,3,0,3,0,24,3,3,2,3,2,5,0,1,0,0,69,0,0,17,0,0,66,1,1,0,0,13,1] [] (fun n d f=>aB [d+4])
theorem EJ (b c:Bool) (w:Yc) (p:af):aC (B0 (W b c w)) 1 (.call (.ref 86) ⟨[.str "a" (p 0 0)],[]⟩) [] (fun a=>(.ret (.str "a" (a 0)),[],[])):=
 aA (orcs:=[]) aq 344 0 [0,0,0,1,0,1,0,0,0,1,0,11,0,0,12,1,0,1,0,0,64,2,2,0,2,0,23,3,0,3,0,3,0,24,3,3,2,3,2,1,0,1,0,0,21,1,0,1,0,11,0,0,12,1,0,0,0,1,0,0,11,0,0,12,1,0,0,1,1,0,0,63,1,1,0,0,17,1,0,1,0,0,20,1,1,0,0,14,1,0,1,0,0,16,1,0,1,1,0,0,65,1,1,0,0,14,1,0,0,1,1,0,0,63,0,3,0,3,0,24,3,3,2,3,2,5,0,1,0,0,69,0,0,17,0,0,66,1,1,0,0,13,1,0,0,1,0,0,11,0,0,12,0,0,69,0,0,17,6,6,6,6,1,0,1] [] (fun n d f=>aB [d+31])
theorem EK (b c:Bool) (w:Yc) (p:af):aC (B0 (W b c w)) 1 (.call (.ref 86) ⟨[.str "=2F" (p 0 0)],[]⟩) [] (fun a=>(.ret (.str "/" (a 0)),[],[])):=
 aA (orcs:=[]) aq 495 0 [0,0,0,1,0,1,0,0,0,1,0,11,0,0,12,1,0,1,0,0,64,2,2,0,2,0,23,3,0,3,0,3,0,24,3,3,2,3,2,1,0,1,0,0,21,1,0,1,0,11,0,0,12,1,0,0,0,1,0,0,11,0,0,12,1,0,0,1,1,0,0,63,1,1,0,0,17,1,0,1,0,0,20,1,0,0,16,1,0,0,65,1,0,0,16,1,0,0,63,1,1,0,0,16,0,0,17,0,0,0,66,1,1,0,0,16,0,0,17,0,0,0,66,1,0,1,1,1,0,0,16,0,0,17,4,4,4,4,0,0,0,0,5,4,0,0,0,0,0,0,5,0,0,17,6,6,6,6,0,0,0,0,0,67,0,0,29,0,0,68,0,0,14,1,0,1,0,0,16,1,0,1,1,0,0,65,1,1,0,0,14,1,0,0,1,1,0,0,63,0,3,0,3,0,24,3,3,2,3,2,8,0,1,0,0,69,0,0,17,0,0,66,1,1,0,0,13,1,0,0,1,0,0,11,0,0,12,0,0,69,0,0,17,9,9,9,9,1,0,1] [] (fun n d f=>aB [d+50])
theorem EL (b c:Bool) (w:Yc) (p:af):aC (B0 (W b c w)) 1 (.call (.ref 86) ⟨[.str "=2E" (p 0 0)],[]⟩) [] (fun a=>(.ret (.str "." (a 0)),[],[])):=
 aA (orcs:=[]) aq 495 0 [0,0,0,1,0,1,0,0,0,1,0,11,0,0,12,1,0,1,0,0,64,2,2,0,2,0,23,3,0,3,0,3,0,24,3,3,2,3,2,1,0,1,0,0,21,1,0,1,0,11,0,0,12,1,0,0,0,1,0,0,11,0,0,12,1,0,0,1,1,0,0,63,1,1,0,0,17,1,0,1,0,0,20,1,0,0,16,1,0,0,65,1,0,0,16,1,0,0,63,1,1,0,0,16,0,0,17,0,0,0,66,1,1,0,0,16,0,0,17,0,0,0,66,1,0,1,1,1,0,0,16,0,0,17,4,4,4,4,0,0,0,0,5,4,0,0,0,0,0,0,5,0,0,17,6,6,6,6,0,0,0,0,0,67,0,0,29,0,0,68,0,0,14,1,0,1,0,0,16,1,0,1,1,0,0,65,1,1,0,0,14,1,0,0,1,1,0,0,63,0,3,0,3,0,24,3,3,2,3,2,8,0,1,0,0,69,0,0,17,0,0,66,1,1,0,0,13,1,0,0,1,0,0,11,0,0,12,0,0,69,0,0,17,9,9,9,9,1,0,1] [] (fun n d f=>aB [d+50])
theorem EM (b c:Bool) (w:Yc) (p:af):aC (B0 (W b c w)) 1 (.call (.ref 86) ⟨[.str "=3D" (p 0 0)],[]⟩) [] (fun a=>(.ret (.str "=" (a 0)),[],[])):=
 aA (orcs:=[]) aq 495 0 [0,0,0,1,0,1,0,0,0,1,0,11,0,0,12,1,0,1,0,0,64,2,2,0,2,0,23,3,0,3,0,3,0,24,3,3,2,3,2,1,0,1,0,0,21,1,0,1,0,11,0,0,12,1,0,0,0,1,0,0,11,0,0,12,1,0,0,1,1,0,0,63,1,1,0,0,17,1,0,1,0,0,20,1,0,0,16,1,0,0,65,1,0,0,16,1,0,0,63,1,1,0,0,16,0,0,17,0,0,0,66,1,1,0,0,16,0,0,17,0,0,0,66,1,0,1,1,1,0,0,16,0,0,17,4,4,4,4,0,0,0,0,5,4,0,0,0,0,0,0,5,0,0,17,6,6,6,6,0,0,0,0,0,67,0,0,29,0,0,68,0,0,14,1,0,1,0,0,16,1,0,1,1,0,0,65,1,1,0,0,14,1,0,0,1,1,0,0,63,0,3,0,3,0,24,3,3,2,3,2,8,0,1,0,0,69,0,0,17,0,0,66,1,1,0,0,13,1,0,0,1,0,0,11,0,0,12,0,0,69,0,0,17,9,9,9,9,1,0,1] [] (fun n d f=>aB [d+50])
theorem EN (b c:Bool) (w:Yc) (p:af):aC (B0 (W b c w)) 1 (.call (.ref 86) ⟨[.str "=20" (p 0 0)],[]⟩) [] (fun a=>(.ret (.str " " (a 0)),[],[])):=
 aA (orcs:=[]) aq 495 0 [0,0,0,1,0,1,0,0,0,1,0,11,0,0,12,1,0,1,0,0,64,2,2,0,2,0,23,3,0,3,0,3,0,24,3,3,2,3,2,1,0,1,0,0,21,1,0,1,0,11,0,0,12,1,0,0,0,1,0,0,11,0,0,12,1,0,0,1,1,0,0,63,1,1,0,0,17,1,0,1,0,0,20,1,0,0,16,1,0,0,65,1,0,0,16,1,0,0,63,1,1,0,0,16,0,0,17,0,0,0,66,1,1,0,0,16,0,0,17,0,0,0,66,1,0,1,1,1,0,0,16,0,0,17,4,4,4,4,0,0,0,0,5,4,0,0,0,0,0,0,5,0,0,17,6,6,6,6,0,0,0,0,0,67,0,0,29,0,0,68,0,0,14,1,0,1,0,0,16,1,0,1,1,0,0,65,1,1,0,0,14,1,0,0,1,1,0,0,63,0,3,0,3,0,24,3,3,2,3,2,8,0,1,0,0,69,0,0,17,0,0,66,1,1,0,0,13,1,0,0,1,0,0,11,0,0,12,0,0,69,0,0,17,9,9,9,9,1,0,1] [] (fun n d f=>aB [d+50])
theorem EO (b c:Bool) (w:Yc) (p:af):aC (B0 (W b c w)) 1 (.call (.ref 86) ⟨[.str "=E9" (p 0 0)],[]⟩) [] (fun a=>(.ret (.str "é" (a 0)),[],[])):=
 aA (orcs:=[]) aq 495 0 [0,0,0,1,0,1,0,0,0,1,0,11,0,0,12,1,0,1,0,0,64,2,2,0,2,0,23,3,0,3,0,3,0,24,3,3,2,3,2,1,0,1,0,0,21,1,0,1,0,11,0,0,12,1,0,0,0,1,0,0,11,0,0,12,1,0,0,1,1,0,0,63,1,1,0,0,17,1,0,1,0,0,20,1,0,0,16,1,0,0,65,1,0,0,16,1,0,0,63,1,1,0,0,16,0,0,17,0,0,0,66,1,1,0,0,16,0,0,17,0,0,0,66,1,0,1,1,1,0,0,16,0,0,17,4,4,4,4,0,0,0,0,5,4,0,0,0,0,0,0,5,0,0,17,6,6,6,6,0,0,0,0,0,67,0,0,29,0,0,68,0,0,14,1,0,1,0,0,16,1,0,1,1,0,0,65,1,1,0,0,14,1,0,0,1,1,0,0,63,0,3,0,3,0,24,3,3,2,3,2,8,0,1,0,0,69,0,0,17,0,0,66,1,1,0,0,13,1,0,0,1,0,0,11,0,0,12,0,0,69,0,0,17,9,9,9,9,1,0,1] [] (fun n d f=>aB [d+50])
theorem EP (b c:Bool) (w:Yc) (p:af):aC (B0 (W b c w)) 1 (.call (.ref 86) ⟨[.str "a=2F" (p 0 0)],[]⟩) [] (fun a=>(.ret (.str "a/" (a 0)),[],[])):=
 aA (orcs:=[]) aq 573 0 [0,0,0,1,0,1,0,0,0,1,0,11,0,0,12,1,0,1,0,0,64,2,2,0,2,0,23,3,0,3,0,3,0,24,3,3,2,3,2,1,0,1,0,0,21,1,0,1,0,11,0,0,12,1,0,0,0,1,0,0,11,0,0,12,1,0,0,1,1,0,0,63,1,1,0,0,17,1,0,1,0,0,20,1,1,0,0,14,1,0,1,0,0,16,1,0,1,1,0,0,65,0,1,1,0,0,63,1,1,0,0,17,1,0,1,0,0,20,1,0,0,16,1,0,0,65,1,0,0,16,1,0,0,63,1,1,0,0,16,0,0,17,0,0,0,66,1,1,0,0,16,0,0,17,0,0,0,66,1,0,1,1,1,0,0,16,0,0,17,4,4,4,4,0,0,0,0,5,4,0,0,0,0,0,0,5,0,0,17,6,6,6,6,0,0,0,0,0,67,0,0,29,0,0,68,0,0,14,1,0,1,0,0,16,1,0,1,1,0,0,65,1,1,0,0,14,1,0,0,1,1,0,0,63,0,3,0,3,0,24,3,3,2,3,2,8,0,1,0,0,69,0,0,17,0,0,66,1,1,0,0,13,1,0,0,1,0,0,11,0,0,12,0,0,69,0,0,17,9,9,9,9,1,0,1] [] (fun n d f=>aB [d+59])
theorem EQ (b c:Bool) (w:Yc) (p:af):aC (B0 (W b c w)) 1 (.call (.ref 86) ⟨[.str "=2F=2E" (p 0 0)],[]⟩) [] (fun a=>(.ret (.str "/." (a 0)),[],[])):=
 aA (orcs:=[]) aq 724 0 [0,0,0,1,0,1,0,0,0,1,0,11,0,0,12,1,0,1,0,0,64,2,2,0,2,0,23,3,0,3,0,3,0,24,3,3,2,3,2,1,0,1,0,0,21,1,0,1,0,11,0,0,12,1,0,0,0,1,0,0,11,0,0,12,1,0,0,1,1,0,0,63,1,1,0,0,17,1,0,1,0,0,20,1,0,0,16,1,0,0,65,1,0,0,16,1,0,0,63,1,1,0,0,16,0,0,17,0,0,0,66,1,1,0,0,16,0,0,17,0,0,0,66,1,0,1,1,1,0,0,16,0,0,17,4,4,4,4,0,0,0,0,5,4,0,0,0,0,0,0,5,0,0,17,6,6,6,6,0,0,0,0,0,67,0,0,29,0,0,68,0,0,14,1,0,1,0,0,16,1,0,1,1,0,0,65,0,1,1,0,0,63,1,1,0,0,17,1,0,1,0,0,20,1,0,0,16,1,0,0,65,1,0,0,16,1,0,0,63,1,1,0,0,16,0,0,17,0,0,0,66,1,1,0,0,16,0,0,17,0,0,0,66,1,0,1,1,1,0,0,16,0,0,17,7,7,7,7,0,0,0,0,8,7,0,0,0,0,0,0,8,0,0,17,9,9,9,9,0,0,0,0,0,67,0,0,29,0,0,68,0,0,14,1,0,1,0,0,16,1,0,1,1,0,0,65,1,1,0,0,14,1,0,0,1,1,0,0,63,0,3,0,3,0,24,3,3,2,3,2,11,0,1,0,0,69,0,0,17,0,0,66,1,1,0,0,13,1,0,0,1,0,0,11,0,0,12,0,0,69,0,0,17,12,12,12,12,1,0,1] [] (fun n d f=>aB [d+79])
theorem ER (b c:Bool) (w:Yc) (p:af):aC (B0 (W b c w)) 1 (.call (.ref 86) ⟨[.str "=2E=3D" (p 0 0)],[]⟩) [] (fun a=>(.ret (.str ".=" (a 0)),[],[])):=
 aA (orcs:=[]) aq 724 0 [0,0,0,1,0,1,0,0,0,1,0,11,0,0,12,1,0,1,0,0,64,2,2,0,2,0,23,3,0,3,0,3,0,24,3,3,2,3,2,1,0,1,0,0,21,1,0,1,0,11,0,0,12,1,0,0,0,1,0,0,11,0,0,12,1,0,0,1,1,0,0,63,1,1,0,0,17,1,0,1,0,0,20,1,0,0,16,1,0,0,65,1,0,0,16,1,0,0,63,1,1,0,0,16,0,0,17,0,0,0,66,1,1,0,0,16,0,0,17,0,0,0,66,1,0,1,1,1,0,0,16,0,0,17,4,4,4,4,0,0,0,0,5,4,0,0,0,0,0,0,5,0,0,17,6,6,6,6,0,0,0,0,0,67,0,0,29,0,0,68,0,0,14,1,0,1,0,0,16,1,0,1,1,0,0,65,0,1,1,0,0,63,1,1,0,0,17,1,0,1,0,0,20,1,0,0,16,1,0,0,65,1,0,0,16,1,0,0,63,1,1,0,0,16,0,0,17,0,0,0,66,1,1,0,0,16,0,0,17,0,0,0,66,1,0,1,1,1,0,0,16,0,0,17,7,7,7,7,0,0,0,0,8,7,0,0,0,0,0,0,8,0,0,17,9,9,9,9,0,0,0,0,0,67,0,0,29,0,0,68,0,0,14,1,0,1,0,0,16,1,0,1,1,0,0,65,1,1,0,0,14,1,0,0,1,1,0,0,63,0,3,0,3,0,24,3,3,2,3,2,11,0,1,0,0,69,0,0,17,0,0,66,1,1,0,0,13,1,0,0,1,0,0,11,0,0,12,0,0,69,0,0,17,12,12,12,12,1,0,1] [] (fun n d f=>aB [d+79])
theorem ES (b c:Bool) (w:Yc) (p:af):aC (B0 (W b c w)) 1 (.call (.ref 86) ⟨[.str "=3D=20" (p 0 0)],[]⟩) [] (fun a=>(.ret (.str "= " (a 0)),[],[])):=
 aA (orcs:=[]) aq 724 0 [0,0,0,1,0,1,0,0,0,1,0,11,0,0,12,1,0,1,0,0,64,2,2,0,2,0,23,3,0,3,0,3,0,24,3,3,2,3,2,1,0,1,0,0,21,1,0,1,0,11,0,0,12,1,0,0,0,1,0,0,11,0,0,12,1,0,0,1,1,0,0,63,1,1,0,0,17,1,0,1,0,0,20,1,0,0,16,1,0,0,65,1,0,0,16,1,0,0,63,1,1,0,0,16,0,0,17,0,0,0,66,1,1,0,0,16,0,0,17,0,0,0,66,1,0,1,1,1,0,0,16,0,0,17,4,4,4,4,0,0,0,0,5,4,0,0,0,0,0,0,5,0,0,17,6,6,6,6,0,0,0,0,0,67,0,0,29,0,0,68,0,0,14,1,0,1,0,0,16,1,0,1,1,0,0,65,0,1,1,0,0,63,1,1,0,0,17,1,0,1,0,0,20,1,0,0,16,1,0,0,65,1,0,0,16,1,0,0,63,1,1,0,0,16,0,0,17,0,0,0,66,1,1,0,0,16,0,0,17,0,0,0,66,1,0,1,1,1,0,0,16,0,0,17,7,7,7,7,0,0,0,0,8,7,0,0,0,0,0,0,8,0,0,17,9,9,9,9,0,0,0,0,0,67,0,0,29,0,0,68,0,0,14,1,0,1,0,0,16,1,0,1,1,0,0,65,1,1,0,0,14,1,0,0,1,1,0,0,63,0,3,0,3,0,24,3,3,2,3,2,11,0,1,0,0,69,0,0,17,0,0,66,1,1,0,0,13,1,0,0,1,0,0,11,0,0,12,0,0,69,0,0,17,12,12,12,12,1,0,1] [] (fun n d f=>aB [d+79])
theorem ET (b c:Bool) (w:Yc) (p:af):aC (B0 (W b c w)) 1 (.call (.ref 86) ⟨[.str "=20=E9" (p 0 0)],[]⟩) [] (fun a=>(.ret (.str " é" (a 0)),[],[])):=
 aA (orcs:=[]) aq 724 0 [0,0,0,1,0,1,0,0,0,1,0,11,0,0,12,1,0,1,0,0,64,2,2,0,2,0,23,3,0,3,0,3,0,24,3,3,2,3,2,1,0,1,0,0,21,1,0,1,0,11,0,0,12,1,0,0,0,1,0,0,11,0,0,12,1,0,0,1,1,0,0,63,1,1,0,0,17,1,0,1,0,0,20,1,0,0,16,1,0,0,65,1,0,0,16,1,0,0,63,1,1,0,0,16,0,0,17,0,0,0,66,1,1,0,0,16,0,0,17,0,0,0,66,1,0,1,1,1,0,0,16,0,0,17,4,4,4,4,0,0,0,0,5,4,0,0,0,0,0,0,5,0,0,17,6,6,6,6,0,0,0,0,0,67,0,0,29,0,0,68,0,0,14,1,0,1,0,0,16,1,0,1,1,0,0,65,0,1,1,0,0,63,1,1,0,0,17,1,0,1,0,0,20,1,0,0,16,1,0,0,65,1,0,0,16,1,0,0,63,1,1,0,0,16,0,0,17,0,0,0,66,1,1,0,0,16,0,0,17,0,0,0,66,1,0,1,1,1,0,0,16,0,0,17,7,7,7,7,0,0,0,0,8,7,0,0,0,0,0,0,8,0,0,17,9,9,9,9,0,0,0,0,0,67,0,0,29,0,0,68,0,0,14,1,0,1,0,0,16,1,0,1,1,0,0,65,1,1,0,0,14,1,0,0,1,1,0,0,63,0,3,0,3,0,24,3,3,2,3,2,11,0,1,0,0,69,0,0,17,0,0,66,1,1,0,0,13,1,0,0,1,0,0,11,0,0,12,0,0,69,0,0,17,12,12,12,12,1,0,1] [] (fun n d f=>aB [d+79])
theorem EU (b c:Bool) (w:Yc) (p:af):aC (B0 (W b c w)) 1 (.call (.ref 86) ⟨[.str "=E9a" (p 0 0)],[]⟩) [] (fun a=>(.ret (.str "éa" (a 0)),[],[])):=
 aA (orcs:=[]) aq 573 0 [0,0,0,1,0,1,0,0,0,1,0,11,0,0,12,1,0,1,0,0,64,2,2,0,2,0,23,3,0,3,0,3,0,24,3,3,2,3,2,1,0,1,0,0,21,1,0,1,0,11,0,0,12,1,0,0,0,1,0,0,11,0,0,12,1,0,0,1,1,0,0,63,1,1,0,0,17,1,0,1,0,0,20,1,0,0,16,1,0,0,65,1,0,0,16,1,0,0,63,1,1,0,0,16,0,0,17,0,0,0,66,1,1,0,0,16,0,0,17,0,0,0,66,1,0,1,1,1,0,0,16,0,0,17,4,4,4,4,0,0,0,0,5,4,0,0,0,0,0,0,5,0,0,17,6,6,6,6,0,0,0,0,0,67,0,0,29,0,0,68,0,0,14,1,0,1,0,0,16,1,0,1,1,0,0,65,0,1,1,0,0,63,1,1,0,0,17,1,0,1,0,0,20,1,1,0,0,14,1,0,1,0,0,16,1,0,1,1,0,0,65,1,1,0,0,14,1,0,0,1,1,0,0,63,0,3,0,3,0,24,3,3,2,3,2,8,0,1,0,0,69,0,0,17,0,0,66,1,1,0,0,13,1,0,0,1,0,0,11,0,0,12,0,0,69,0,0,17,9,9,9,9,1,0,1] [] (fun n d f=>aB [d+59])
theorem fc {α : Type} {P : α→Prop} {x : α} {l:List α} (h:P x) (r:∀a∈l,P a):∀a∈x::l,P a:=List.forall_mem_cons.mpr ⟨h,r⟩
theorem fn {α : Type} {P : α→Prop}:∀a∈([]:List α),P a:=fun _ h=>nomatch h
def sC (a:Str) (p:af):Code:=.call (.ref 86) ⟨[.str a (p 0 0)],[]⟩
def gB (x:Str) (a:Ye):Flow×Yf×Ya:=(.ret (.str x (a 0)),[],[])
theorem gC {B:bf} {x y:Str} {p:af} (e:b4 x=y) (D:aC B 1 (sC x p) [] (gB y)):aC B 1 (sC x p) [] (gB (b4 x)):=by
 rw [e];exact D
theorem EV (b c:Bool) (w:Yc) (p:af):∀a∈aD,aC (B0 (W b c w)) 1 (sC a p) [] (gB (b4 a)):=by
 unfold aD
 refine fc (gC (y:="") (by decide +kernel) (EI b c w p)) ?_
 refine fc (gC (y:="a") (by decide +kernel) (EJ b c w p)) ?_
 refine fc (gC (y:="/") (by decide +kernel) (EK b c w p)) ?_
 refine fc (gC (y:=".") (by decide +kernel) (EL b c w p)) ?_
 refine fc (gC (y:="=") (by decide +kernel) (EM b c w p)) ?_
 refine fc (gC (y:=" ") (by decide +kernel) (EN b c w p)) ?_
 refine fc (gC (y:="é") (by decide +kernel) (EO b c w p)) ?_
 refine fc (gC (y:="a/") (by decide +kernel) (EP b c w p)) ?_
 refine fc (gC (y:="/.") (by decide +kernel) (EQ b c w p)) ?_
 refine fc (gC (y:=".=") (by decide +kernel) (ER b c w p)) ?_
 refine fc (gC (y:="= ") (by decide +kernel) (ES b c w p)) ?_
 refine fc (gC (y:=" é") (by decide +kernel) (ET b c w p)) ?_
 refine fc (gC (y:="éa") (by decide +kernel) (EU b c w p)) ?_
 exact fn
def jm (a:Str):aH:=bA (sC a) [] (fun _=>[]) fun _ b=>gB (b4 a) b
theorem kb {b c:Bool} {w:Yc} {m:Nat} (a:Str) (e:a∈aD) (d:1≤m):(jm a).Sure (B0 (W b c w)) m:=
 (bS (by decide) fun p=>EV b c w p a e).le d
theorem EW (b:Bool) (w:Yc) (p:af):aC (B0 (W b false w)) 1 (.call (.ref 279) ⟨[.str "" (p 0 0)],[]⟩) [] (fun a=>(.ret (.str "=" (a 0)),[],[])):=
 aA (orcs:=[]) aq 23 0 [0,0,1,0,0,0,1,0,0,20] [] (fun n c f=>aB [c+2])
theorem EX (b:Bool) (w:Yc) (p:af):aC (B0 (W b true w)) 1 (.call (.ref 279) ⟨[.str "" (p 0 0)],[]⟩) [] (fun a=>(.ret (.str "=" (a 0)),[],[])):=
 aA (orcs:=[]) aq 23 0 [0,0,1,0,0,0,1,0,0,20] [] (fun n c f=>aB [c+2])
theorem EY (b:Bool) (w:Yc) (p:af):aC (B0 (W b false w)) 1 (.call (.ref 279) ⟨[.str "a" (p 0 0)],[]⟩) [] (fun a=>(.ret (.str "a" (a 0)),[],[])):=
 aA (orcs:=[]) aq 115 0 [0,0,1,0,0,0,1,0,0,20,1,0,0,74,2,0,2,2,0,2,0,86,2,0,2,0,2,0,87,2,2,2,1,4,3,4,0,0,25,4,0,3,0,26,3,2,3,0,2,0,2,0,87,2,2,2,1,6,4,4,3,0,0,27,3,3] [] (fun n c f=>aB [c+3])
theorem EZ (b:Bool) (w:Yc) (p:af):aC (B0 (W b true w)) 1 (.call (.ref 279) ⟨[.str "a" (p 0 0)],[]⟩) [] (fun a=>(.ret (.str "a" (a 0)),[],[])):=
 aA (orcs:=[]) aq 105 0 [0,0,1,0,0,0,1,0,0,20,1,0,0,74,2,0,0,2,0,2,0,87,2,2,2,1,4,3,4,0,0,25,4,0,3,0,26,3,2,3,0,2,0,2,0,87,2,2,2,1,6,4,4,3,0,0,27,3,3] [] (fun n c f=>aB [c+3])
theorem E0 (b:Bool) (w:Yc) (p:af):aC (B0 (W b false w)) 1 (.call (.ref 279) ⟨[.str "/" (p 0 0)],[]⟩) [] (fun a=>(.ret (.str "=2F" (a 0)),[],[])):=
 aA (orcs:=[]) aq 155 0 [0,0,1,0,0,0,1,0,0,20,1,0,0,74,2,0,2,2,0,2,0,86,2,0,2,0,2,0,87,2,2,2,1,4,3,4,0,0,25,0,4,0,0,0,0,5,4,0,0,0,0,0,5,0,0,77,0,0,0,0,0,0,54,0,0,3,0,26,3,2,3,0,2,0,2,0,87,2,2,2,1,7,4,4,3,0,0,27,3,3] [] (fun n c f=>aB [520])
theorem E1 (b:Bool) (w:Yc) (p:af):aC (B0 (W b true w)) 1 (.call (.ref 279) ⟨[.str "/" (p 0 0)],[]⟩) [] (fun a=>(.ret (.str "=2F" (a 0)),[],[])):=
 aA (orcs:=[]) aq 145 0 [0,0,1,0,0,0,1,0,0,20,1,0,0,74,2,0,0,2,0,2,0,87,2,2,2,1,4,3,4,0,0,25,0,4,0,0,0,0,5,4,0,0,0,0,0,5,0,0,77,0,0,0,0,0,0,54,0,0,3,0,26,3,2,3,0,2,0,2,0,87,2,2,2,1,7,4,4,3,0,0,27,3,3] [] (fun n c f=>aB [520])
theorem E2 (b:Bool) (w:Yc) (p:af):aC (B0 (W b false w)) 1 (.call (.ref 279) ⟨[.str "." (p 0 0)],[]⟩) [] (fun a=>(.ret (.str "=2E" (a 0)),[],[])):=
 aA (orcs:=[]) aq 155 0 [0,0,1,0,0,0,1,0,0,20,1,0,0,74,2,0,2,2,0,2,0,86,2,0,2,0,2,0,87,2,2,2,1,4,3,4,0,0,25,0,4,0,0,0,0,5,4,0,0,0,0,0,5,0,0,77,0,0,0,0,0,0,54,0,0,3,0,26,3,2,3,0,2,0,2,0,87,2,2,2,1,7,4,4,3,0,0,27,3,3] [] (fun n c f=>aB [516])
theorem E3 (b:Bool) (w:Yc) (p:af):aC (B0 (W b true w)) 1 (.call (.ref 279) ⟨[.str "." (p 0 0)],[]⟩) [] (fun a=>(.ret (.str "=2E" (a 0)),[],[])):=
 aA (orcs:=[]) aq 145 0 [0,0,1,0,0,0,1,0,0,20,1,0,0,74,2,0,0,2,0,2,0,87,2,2,2,1,4,3,4,0,0,25,0,4,0,0,0,0,5,4,0,0,0,0,0,5,0,0,77,0,0,0,0,0,0,54,0,0,3,0,26,3,2,3,0,2,0,2,0,87,2,2,2,1,7,4,4,3,0,0,27,3,3] [] (fun n c f=>aB [516])
theorem E5 (b:Bool) (w:Yc) (p:af):aC (B0 (W b false w)) 1 (.call (.ref 279) ⟨[.str "=" (p 0 0)],[]⟩) [] (fun a=>(.ret (.str "=3D" (a 0)),[],[])):=
 aA (orcs:=[]) aq 155 0 [0,0,1,0,0,0,1,0,0,20,1,0,0,74,2,0,2,2,0,2,0,86,2,0,2,0,2,0,87,2,2,2,1,4,3,4,0,0,25,0,4,0,0,0,0,5,4,0,0,0,0,0,5,0,0,77,0,0,0,0,0,0,54,0,0,3,0,26,3,2,3,0,2,0,2,0,87,2,2,2,1,7,4,4,3,0,0,27,3,3] [] (fun n c f=>aB [576])
theorem E6 (b:Bool) (w:Yc) (p:af):aC (B0 (W b true w)) 1 (.call (.ref 279) ⟨[.str "=" (p 0 0)],[]⟩) [] (fun a=>(.ret (.str "=3D" (a 0)),[],[])):=
 aA (orcs:=[]) aq 145 0 [0,0,1,0,0,0,1,0,0,20,1,0,0,74,2,0,0,2,0,2,0,87,2,2,2,1,4,3,4,0,0,25,0,4,0,0,0,0,5,4,0,0,0,0,0,5,0,0,77,0,0,0,0,0,0,54,0,0,3,0,26,3,2,3,0,2,0,2,0,87,2,2,2,1,7,4,4,3,0,0,27,3,3] [] (fun n c f=>aB [576])
theorem E7 (b:Bool) (w:Yc) (p:af):aC (B0 (W b false w)) 1 (.call (.ref 279) ⟨[.str " " (p 0 0)],[]⟩) [] (fun a=>(.ret (.str "=20" (a 0)),[],[])):=
 aA (orcs:=[]) aq 155 0 [0,0,1,0,0,0,1,0,0,20,1,0,0,74,2,0,2,2,0,2,0,86,2,0,2,0,2,0,87,2,2,2,1,4,3,4,0,0,25,0,4,0,0,0,0,5,4,0,0,0,0,0,5,0,0,77,0,0,0,0,0,0,54,0,0,3,0,26,3,2,3,0,2,0,2,0,87,2,2,2,1,7,4,4,3,0,0,27,3,3] [] (fun n c f=>aB [460])
theorem E8 (b:Bool) (w:Yc) (p:af):aC (B0 (W b true w)) 1 (.call (.ref 279) ⟨[.str " " (p 0 0)],[]⟩) [] (fun a=>(.ret (.str "=20" (a 0)),[],[])):=
 aA (orcs:=[]) aq 145 0 [0,0,1,0,0,0,1,0,0,20,1,0,0,74,2,0,0,2,0,2,0,87,2,2,2,1,4,3,4,0,0,25,0,4,0,0,0,0,5,4,0,0,0,0,0,5,0,0,77,0,0,0,0,0,0,54,0,0,3,0,26,3,2,3,0,2,0,2,0,87,2,2,2,1,7,4,4,3,0,0,27,3,3] [] (fun n c f=>aB [460])
theorem E9 (b:Bool) (w:Yc) (p:af):aC (B0 (W b false w)) 1 (.call (.ref 279) ⟨[.str "é" (p 0 0)],[]⟩) [] (fun a=>(.ret (.str "=E9" (a 0)),[],[])):=
 aA (orcs:=[]) aq 155 0 [0,0,1,0,0,0,1,0,0,20,1,0,0,74,2,0,2,2,0,2,0,75,2,0,2,0,2,0,76,2,2,2,1,4,3,4,0,0,25,0,4,0,0,0,0,5,4,0,0,0,0,0,5,0,0,77,0,0,0,0,0,0,54,0,0,3,0,26,3,2,3,0,2,0,2,0,76,2,2,2,1,7,4,4,3,0,0,27,3,3] [] (fun n c f=>aB [1264])
theorem Fa (b:Bool) (w:Yc) (p:af):aC (B0 (W b true w)) 1 (.call (.ref 279) ⟨[.str "é" (p 0 0)],[]⟩) [] (fun a=>(.ret (.str "=E9" (a 0)),[],[])):=
 aA (orcs:=[]) aq 145 0 [0,0,1,0,0,0,1,0,0,20,1,0,0,74,2,0,0,2,0,2,0,76,2,2,2,1,4,3,4,0,0,25,0,4,0,0,0,0,5,4,0,0,0,0,0,5,0,0,77,0,0,0,0,0,0,54,0,0,3,0,26,3,2,3,0,2,0,2,0,76,2,2,2,1,7,4,4,3,0,0,27,3,3] [] (fun n c f=>aB [1264])
theorem Fb (b:Bool) (w:Yc) (p:af):aC (B0 (W b false w)) 1 (.call (.ref 279) ⟨[.str "a/" (p 0 0)],[]⟩) [] (fun a=>(.ret (.str "a=2F" (a 0)),[],[])):=
 aA (orcs:=[]) aq 191 0 [0,0,1,0,0,0,1,0,0,20,1,0,0,74,2,0,2,2,0,2,0,86,2,0,2,0,2,0,87,2,2,2,1,4,3,4,0,0,25,4,0,3,0,26,3,2,3,0,2,0,2,0,87,2,2,2,1,4,3,4,0,0,25,0,4,0,0,0,0,5,4,0,0,0,0,0,5,0,0,77,0,0,0,0,0,0,54,0,0,3,0,26,3,2,3,0,2,0,2,0,87,2,2,2,1,7,4,4,3,0,0,27,3,3] [] (fun n c f=>aB [c+11])
theorem Fc (b:Bool) (w:Yc) (p:af):aC (B0 (W b true w)) 1 (.call (.ref 279) ⟨[.str "a/" (p 0 0)],[]⟩) [] (fun a=>(.ret (.str "a=2F" (a 0)),[],[])):=
 aA (orcs:=[]) aq 181 0 [0,0,1,0,0,0,1,0,0,20,1,0,0,74,2,0,0,2,0,2,0,87,2,2,2,1,4,3,4,0,0,25,4,0,3,0,26,3,2,3,0,2,0,2,0,87,2,2,2,1,4,3,4,0,0,25,0,4,0,0,0,0,5,4,0,0,0,0,0,5,0,0,77,0,0,0,0,0,0,54,0,0,3,0,26,3,2,3,0,2,0,2,0,87,2,2,2,1,7,4,4,3,0,0,27,3,3] [] (fun n c f=>aB [c+11])
theorem Fd (b:Bool) (w:Yc) (p:af):aC (B0 (W b false w)) 1 (.call (.ref 279) ⟨[.str "/." (p 0 0)],[]⟩) [] (fun a=>(.ret (.str "=2F=2E" (a 0)),[],[])):=
 aA (orcs:=[]) aq 231 0 [0,0,1,0,0,0,1,0,0,20,1,0,0,74,2,0,2,2,0,2,0,86,2,0,2,0,2,0,87,2,2,2,1,4,3,4,0,0,25,0,4,0,0,0,0,5,4,0,0,0,0,0,5,0,0,77,0,0,0,0,0,0,54,0,0,3,0,26,3,2,3,0,2,0,2,0,87,2,2,2,1,4,3,4,0,0,25,0,4,0,0,0,0,6,5,0,0,0,0,0,6,0,0,77,0,0,0,0,0,0,54,0,0,3,0,26,3,2,3,0,2,0,2,0,87,2,2,2,1,8,4,4,3,0,0,27,3,3] [] (fun n c f=>aB [c+13])
theorem Fe (b:Bool) (w:Yc) (p:af):aC (B0 (W b true w)) 1 (.call (.ref 279) ⟨[.str "/." (p 0 0)],[]⟩) [] (fun a=>(.ret (.str "=2F=2E" (a 0)),[],[])):=
 aA (orcs:=[]) aq 221 0 [0,0,1,0,0,0,1,0,0,20,1,0,0,74,2,0,0,2,0,2,0,87,2,2,2,1,4,3,4,0,0,25,0,4,0,0,0,0,5,4,0,0,0,0,0,5,0,0,77,0,0,0,0,0,0,54,0,0,3,0,26,3,2,3,0,2,0,2,0,87,2,2,2,1,4,3,4,0,0,25,0,4,0,0,0,0,6,5,0,0,0,0,0,6,0,0,77,0,0,0,0,0,0,54,0,0,3,0,26,3,2,3,0,2,0,2,0,87,2,2,2,1,8,4,4,3,0,0,27,3,3] [] (fun n c f=>aB [c+13])
theorem Ff (b:Bool) (w:Yc) (p:af):aC (B0 (W b false w)) 1 (.call (.ref 279) ⟨[.str ".=" (p 0 0)],[]⟩) [] (fun a=>(.ret (.str "=2E=3D" (a 0)),[],[])):=
 aA (orcs:=[]) aq 231 0 [0,0,1,0,0,0,1,0,0,20,1,0,0,74,2,0,2,2,0,2,0,86,2,0,2,0,2,0,87,2,2,2,1,4,3,4,0,0,25,0,4,0,0,0,0,5,4,0,0,0,0,0,5,0,0,77,0,0,0,0,0,0,54,0,0,3,0,26,3,2,3,0,2,0,2,0,87,2,2,2,1,4,3,4,0,0,25,0,4,0,0,0,0,6,5,0,0,0,0,0,6,0,0,77,0,0,0,0,0,0,54,0,0,3,0,26,3,2,3,0,2,0,2,0,87,2,2,2,1,8,4,4,3,0,0,27,3,3] [] (fun n c f=>aB [c+13])
theorem Fg (b:Bool) (w:Yc) (p:af):aC (B0 (W b true w)) 1 (.call (.ref 279) ⟨[.str ".=" (p 0 0)],[]⟩) [] (fun a=>(.ret (.str "=2E=3D" (a 0)),[],[])):=
 aA (orcs:=[]) aq 221 0 [0,0,1,0,0,0,1,0,0,20,1,0,0,74,2,0,0,2,0,2,0,87,2,2,2,1,4,3,4,0,0,25,0,4,0,0,0,0,5,4,0,0,0,0,0,5,0,0,77,0,0,0,0,0,0,54,0,0,3,0,26,3,2,3,0,2,0,2,0,87,2,2,2,1,4,3,4,0,0,25,0,4,0,0,0,0,6,5,0,0,0,0,0,6,0,0,77,0,0,0,0,0,0,54,0,0,3,0,26,3,2,3,0,2,0,2,0,87,2,2,2,1,8,4,4,3,0,0,27,3,3] [] (fun n c f=>aB [c+13])
theorem Fh (b:Bool) (w:Yc) (p:af):aC (B0 (W b false w)) 1 (.call (.ref 279) ⟨[.str "= " (p 0 0)],[]⟩) [] (fun a=>(.ret (.str "=3D=20" (a 0)),[],[])):=
 aA (orcs:=[]) aq 231 0 [0,0,1,0,0,0,1,0,0,20,1,0,0,74,2,0,2,2,0,2,0,86,2,0,2,0,2,0,87,2,2,2,1,4,3,4,0,0,25,0,4,0,0,0,0,5,4,0,0,0,0,0,5,0,0,77,0,0,0,0,0,0,54,0,0,3,0,26,3,2,3,0,2,0,2,0,87,2,2,2,1,4,3,4,0,0,25,0,4,0,0,0,0,6,5,0,0,0,0,0,6,0,0,77,0,0,0,0,0,0,54,0,0,3,0,26,3,2,3,0,2,0,2,0,87,2,2,2,1,8,4,4,3,0,0,27,3,3] [] (fun n c f=>aB [c+13])
theorem Fi (b:Bool) (w:Yc) (p:af):aC (B0 (W b true w)) 1 (.call (.ref 279) ⟨[.str "= " (p 0 0)],[]⟩) [] (fun a=>(.ret (.str "=3D=20" (a 0)),[],[])):=
 aA (orcs:=[]) aq 221 0 [0,0,1,0,0,0,1,0,0,20,1,0,0,74,2,0,0,2,0,2,0,87,2,2,2,1,4,3,4,0,0,25,0,4,0,0,0,0,5,4,0,0,0,0,0,5,0,0,77,0,0,0,0,0,0,54,0,0,3,0,26,3,2,3,0,2,0,2,0,87,2,2,2,1,4,3,4,0,0,25,0,4,0,0,0,0,6,5,0,0,0,0,0,6,0,0,77,0,0,0,0,0,0,54,0,0,3,0,26,3,2,3,0,2,0,2,0,87,2,2,2,1,8,4,4,3,0,0,27,3,3] [] (fun n c f=>aB [c+13])
theorem Fj (b:Bool) (w:Yc) (p:af):aC (B0 (W b false w)) 1 (.call (.ref 279) ⟨[.str " é" (p 0 0)],[]⟩) [] (fun a=>(.ret (.str "=20=E9" (a 0)),[],[])):=
 aA (orcs:=[]) aq 231 0 [0,0,1,0,0,0,1,0,0,20,1,0,0,74,2,0,2,2,0,2,0,75,2,0,2,0,2,0,76,2,2,2,1,4,3,4,0,0,25,0,4,0,0,0,0,5,4,0,0,0,0,0,5,0,0,77,0,0,0,0,0,0,54,0,0,3,0,26,3,2,3,0,2,0,2,0,76,2,2,2,1,4,3,4,0,0,25,0,4,0,0,0,0,6,5,0,0,0,0,0,6,0,0,77,0,0,0,0,0,0,54,0,0,3,0,26,3,2,3,0,2,0,2,0,76,2,2,2,1,8,4,4,3,0,0,27,3,3] [] (fun n c f=>aB [c+13])
theorem Fk (b:Bool) (w:Yc) (p:af):aC (B0 (W b true w)) 1 (.call (.ref 279) ⟨[.str " é" (p 0 0)],[]⟩) [] (fun a=>(.ret (.str "=20=E9" (a 0)),[],[])):=
 aA (orcs:=[]) aq 221 0 [0,0,1,0,0,0,1,0,0,20,1,0,0,74,2,0,0,2,0,2,0,76,2,2,2,1,4,3,4,0,0,25,0,4,0,0,0,0,5,4,0,0,0,0,0,5,0,0,77,0,0,0,0,0,0,54,0,0,3,0,26,3,2,3,0,2,0,2,0,76,2,2,2,1,4,3,4,0,0,25,0,4,0,0,0,0,6,5,0,0,0,0,0,6,0,0,77,0,0,0,0,0,0,54,0,0,3,0,26,3,2,3,0,2,0,2,0,76,2,2,2,1,8,4,4,3,0,0,27,3,3] [] (fun n c f=>aB [c+13])
theorem Fl (b:Bool) (w:Yc) (p:af):aC (B0 (W b false w)) 1 (.call (.ref 279) ⟨[.str "éa" (p 0 0)],[]⟩) [] (fun a=>(.ret (.str "=E9a" (a 0)),[],[])):=
 aA (orcs:=[]) aq 191 0 [0,0,1,0,0,0,1,0,0,20,1,0,0,74,2,0,2,2,0,2,0,75,2,0,2,0,2,0,76,2,2,2,1,4,3,4,0,0,25,0,4,0,0,0,0,5,4,0,0,0,0,0,5,0,0,77,0,0,0,0,0,0,54,0,0,3,0,26,3,2,3,0,2,0,2,0,76,2,2,2,1,4,3,4,0,0,25,4,0,3,0,26,3,2,3,0,2,0,2,0,76,2,2,2,1,7,4,4,3,0,0,27,3,3] [] (fun n c f=>aB [c+11])
theorem Fm (b:Bool) (w:Yc) (p:af):aC (B0 (W b true w)) 1 (.call (.ref 279) ⟨[.str "éa" (p 0 0)],[]⟩) [] (fun a=>(.ret (.str "=E9a" (a 0)),[],[])):=
 aA (orcs:=[]) aq 181 0 [0,0,1,0,0,0,1,0,0,20,1,0,0,74,2,0,0,2,0,2,0,76,2,2,2,1,4,3,4,0,0,25,0,4,0,0,0,0,5,4,0,0,0,0,0,5,0,0,77,0,0,0,0,0,0,54,0,0,3,0,26,3,2,3,0,2,0,2,0,76,2,2,2,1,4,3,4,0,0,25,4,0,3,0,26,3,2,3,0,2,0,2,0,76,2,2,2,1,7,4,4,3,0,0,27,3,3] [] (fun n c f=>aB [c+11])
def ao (x:Str):Str:=uS (b1.zip aD) x
def pg (a:Str) (p:af):Code:=.call (.ref 279) ⟨[.str a (p 0 0)],[]⟩
theorem gD {b c:Bool} {w:Yc} {x y:Str} {p:af} (e:ao x=y) (D:aC (B0 (W b false w)) 1 (pg x p) [] (gB y)) (a:aC (B0 (W b true w)) 1 (pg x p) [] (gB y)):aC (B0 (W b c w)) 1 (pg x p) [] (gB (ao x)):=by
 rw [e]
 cases c with
 | false=>exact D
 | true=>exact a
theorem Fn (b c:Bool) (w:Yc) (p:af):∀a∈b1,aC (B0 (W b c w)) 1 (pg a p) [] (gB (ao a)):=by
 unfold b1
 refine fc (gD (y:="=") (by decide +kernel) (EW b w p) (EX b w p)) ?_
 refine fc (gD (y:="a") (by decide +kernel) (EY b w p) (EZ b w p)) ?_
 refine fc (gD (y:="=2F") (by decide +kernel) (E0 b w p) (E1 b w p)) ?_
 refine fc (gD (y:="=2E") (by decide +kernel) (E2 b w p) (E3 b w p)) ?_
 refine fc (gD (y:="=3D") (by decide +kernel) (E5 b w p) (E6 b w p)) ?_
 refine fc (gD (y:="=20") (by decide +kernel) (E7 b w p) (E8 b w p)) ?_
 refine fc (gD (y:="=E9") (by decide +kernel) (E9 b w p) (Fa b w p)) ?_
 refine fc (gD (y:="a=2F") (by decide +kernel) (Fb b w p) (Fc b w p)) ?_
 refine fc (gD (y:="=2F=2E") (by decide +kernel) (Fd b w p) (Fe b w p)) ?_
 refine fc (gD (y:="=2E=3D") (by decide +kernel) (Ff b w p) (Fg b w p)) ?_
 refine fc (gD (y:="=3D=20") (by decide +kernel) (Fh b w p) (Fi b w p)) ?_
 refine fc (gD (y:="=20=E9") (by decide +kernel) (Fj b w p) (Fk b w p)) ?_
 refine fc (gD (y:="=E9a") (by decide +kernel) (Fl b w p) (Fm b w p)) ?_
 exact fn
def li (a:Str):aH:=bA (pg a) [] (fun _=>[]) fun _ b=>gB (ao a) b
theorem mZ {b c:Bool} {w:Yc} {m:Nat} (a:Str) (e:a∈b1) (d:1≤m):(li a).Sure (B0 (W b c w)) m:=
 (bS (by decide) fun p=>Fn b c w p a e).le d
section
open PySem.Builtin PySem.Builtin.Str
def uT:Yg:=["","a","a/","","/","/.","",".",".=","","=","= ",""," "," é","","é","éa"]
def ch (g:Int):Str:=(bW uT g.toNat).getD ""
def jn (g:Int):Prop:=g.fmod 3=0∧ch g=""
def jo (g:Int):Prop:=∃h b a,g.fmod 3=1∧g.fdiv 3=h∧(h+0).fmod 6=b∧bL b a∧Txt.join "" [a]=ch g∧JoinOk "" [a]=true
def jp (g:Int):Prop:=∃h d a c b,g.fmod 3=2∧g.fdiv 3=h∧(h+0).fmod 6=d∧bL d a∧(h+1).fmod 6=c∧bL c b∧Txt.join "" [a,b]=ch g∧JoinOk "" [a,b]=true
theorem uU:bL 0 "a" := ⟨97,by decide +kernel,by decide +kernel,by decide +kernel⟩
theorem uV:bL 1 "/" := ⟨47,by decide +kernel,by decide +kernel,by decide +kernel⟩
theorem uW:bL 2 "." := ⟨46,by decide +kernel,by decide +kernel,by decide +kernel⟩
theorem uX:bL 3 "=" := ⟨61,by decide +kernel,by decide +kernel,by decide +kernel⟩
theorem uY:bL 4 " " := ⟨32,by decide +kernel,by decide +kernel,by decide +kernel⟩
theorem uZ:bL 5 "é" := ⟨233,by decide +kernel,by decide +kernel,by decide +kernel⟩
theorem Fo:jn 0:=⟨by decide +kernel,by decide +kernel⟩
theorem Fp:jo 1:=⟨0,0,"a",by decide +kernel,by decide +kernel,by decide +kernel,uU,by decide +kernel,by decide +kernel⟩
theorem Fq:jp 2:=⟨0,0,"a",1,"/",by decide +kernel,by decide +kernel,by decide +kernel,uU,by decide +kernel,uV,by decide +kernel,by decide +kernel⟩
theorem Fr:jn 3:=⟨by decide +kernel,by decide +kernel⟩
theorem Fs:jo 4:=⟨1,1,"/",by decide +kernel,by decide +kernel,by decide +kernel,uV,by decide +kernel,by decide +kernel⟩
theorem Ft:jp 5:=⟨1,1,"/",2,".",by decide +kernel,by decide +kernel,by decide +kernel,uV,by decide +kernel,uW,by decide +kernel,by decide +kernel⟩
theorem Fu:jn 6:=⟨by decide +kernel,by decide +kernel⟩
theorem Fv:jo 7:=⟨2,2,".",by decide +kernel,by decide +kernel,by decide +kernel,uW,by decide +kernel,by decide +kernel⟩
theorem Fw:jp 8:=⟨2,2,".",3,"=",by decide +kernel,by decide +kernel,by decide +kernel,uW,by decide +kernel,uX,by decide +kernel,by decide +kernel⟩
theorem Fx:jn 9:=⟨by decide +kernel,by decide +kernel⟩
theorem Fy:jo 10:=⟨3,3,"=",by decide +kernel,by decide +kernel,by decide +kernel,uX,by decide +kernel,by decide +kernel⟩
theorem Fz:jp 11:=⟨3,3,"=",4," ",by decide +kernel,by decide +kernel,by decide +kernel,uX,by decide +kernel,uY,by decide +kernel,by decide +kernel⟩
theorem FA:jn 12:=⟨by decide +kernel,by decide +kernel⟩
theorem FB:jo 13:=⟨4,4," ",by decide +kernel,by decide +kernel,by decide +kernel,uY,by decide +kernel,by decide +kernel⟩
theorem FC:jp 14:=⟨4,4," ",5,"é",by decide +kernel,by decide +kernel,by decide +kernel,uY,by decide +kernel,uZ,by decide +kernel,by decide +kernel⟩
theorem FD:jn 15:=⟨by decide +kernel,by decide +kernel⟩
theorem FE:jo 16:=⟨5,5,"é",by decide +kernel,by decide +kernel,by decide +kernel,uZ,by decide +kernel,by decide +kernel⟩
theorem FF:jp 17:=⟨5,5,"é",0,"a",by decide +kernel,by decide +kernel,by decide +kernel,uZ,by decide +kernel,uU,by decide +kernel,by decide +kernel⟩
theorem zs (g:Int) (a:0≤g) (b:g<18):jn g∨jo g∨jp g:=by
 have:g=0∨g=1∨g=2∨g=3∨g=4∨g=5∨g=6∨g=7∨g=8∨g=9∨g=10∨g=11∨g=12∨g=13∨g=14∨g=15∨g=16∨g=17:=by lia
 rcases this with rfl | rfl | rfl | rfl | rfl | rfl | rfl | rfl | rfl | rfl | rfl | rfl | rfl | rfl | rfl | rfl | rfl | rfl
 ·exact .inl Fo
 ·exact .inr (.inl Fp)
 ·exact .inr (.inr Fq)
 ·exact .inl Fr
 ·exact .inr (.inl Fs)
 ·exact .inr (.inr Ft)
 ·exact .inl Fu
 ·exact .inr (.inl Fv)
 ·exact .inr (.inr Fw)
 ·exact .inl Fx
 ·exact .inr (.inl Fy)
 ·exact .inr (.inr Fz)
 ·exact .inl FA
 ·exact .inr (.inl FB)
 ·exact .inr (.inr FC)
 ·exact .inl FD
 ·exact .inr (.inl FE)
 ·exact .inr (.inr FF)
theorem u0 (g:Int):ch g∈b1:=by
 have:∀x∈uT,x∈b1:=by decide +kernel
 unfold ch
 cases e:bW uT g.toNat with
 | none=>decide +kernel
 | some y=>exact this y (dj e)
def b2 (x:Int):Int:=((x.fdiv 2).fdiv 1).fmod 18
def cq (x:Int):Int:=((x.fdiv 2).fdiv 18).fmod 18
theorem FG (x:Int):jn (b2 x)∨jo (b2 x)∨jp (b2 x):=zs _ (Int.fmod_nonneg_of_pos _ (by decide)) (Int.fmod_lt_of_pos _ (by decide))
theorem FH (x:Int):jn (cq x)∨jo (cq x)∨jp (cq x):=zs _ (Int.fmod_nonneg_of_pos _ (by decide)) (Int.fmod_lt_of_pos _ (by decide))
def fK (x:Int):Yg:=if x.fmod 2=0 then [ch (b2 x)] else [ch (b2 x),ch (cq x)]
def u1 (x:Int) (p:af):Code:=.call (.ref 274) ⟨[.int x (p 0 0)],[]⟩
def u2 (l:Yg) (a:Ye):Flow×Yf×Ya:=(.ret (.ref (a 0)),[],[(a 0,ab (cO l a 1) l.length)])
theorem FI (b c:Bool) (w:Yc) (x:Int) (p:af):aC (B0 (W b c w)) 1 (u1 x p) [] (u2 (fK x)):=by
 unfold fK
 have L:=FG x
 have K:=FH x
 rcases (show x.fmod 2=0∨x.fmod 2=1 by have:=Int.fmod_nonneg_of_pos x (b:=2) (by decide);have:=Int.fmod_lt_of_pos x (b:=2) (by decide);lia) with e | e
 ·rw [if_pos e]
  rcases L with ⟨u,n⟩ | ⟨h,q,m,u,v,k,s,j,o⟩ | ⟨h,q,m,G,H,u,v,k,s,F,I,j,o⟩
  ·rw [n];cases c;exact Eb b w x (x.fdiv 2) ((x.fdiv 2).fdiv 1) (b2 x) e rfl rfl rfl u p;exact Ec b w x (x.fdiv 2) ((x.fdiv 2).fdiv 1) (b2 x) e rfl rfl rfl u p
  ·cases c;exact Ed b w x (x.fdiv 2) ((x.fdiv 2).fdiv 1) (b2 x) h q m (ch (b2 x)) e rfl rfl rfl u v k s j o p;exact Ee b w x (x.fdiv 2) ((x.fdiv 2).fdiv 1) (b2 x) h q m (ch (b2 x)) e rfl rfl rfl u v k s j o p
  ·cases c;exact Ef b w x (x.fdiv 2) ((x.fdiv 2).fdiv 1) (b2 x) h q m G H (ch (b2 x)) e rfl rfl rfl u v k s F I j o p;exact Eg b w x (x.fdiv 2) ((x.fdiv 2).fdiv 1) (b2 x) h q m G H (ch (b2 x)) e rfl rfl rfl u v k s F I j o p
 ·rw [if_neg (by lia)]
  rcases L with ⟨u,n⟩ | ⟨h,q,m,u,v,k,s,j,o⟩ | ⟨h,q,m,G,H,u,v,k,s,F,I,j,o⟩
  ·rcases K with ⟨i,J⟩ | ⟨z,d,g,i,y,f,a,C,E⟩ | ⟨z,d,g,D,A,i,y,f,a,t,B,C,E⟩
   ·rw [n,J];cases c;exact Eh b w x (x.fdiv 2) ((x.fdiv 2).fdiv 1) (b2 x) ((x.fdiv 2).fdiv 18) (cq x) e rfl rfl rfl u rfl rfl i p;exact Ei b w x (x.fdiv 2) ((x.fdiv 2).fdiv 1) (b2 x) ((x.fdiv 2).fdiv 18) (cq x) e rfl rfl rfl u rfl rfl i p
   ·rw [n];cases c;exact Ej b w x (x.fdiv 2) ((x.fdiv 2).fdiv 1) (b2 x) ((x.fdiv 2).fdiv 18) (cq x) z d g (ch (cq x)) e rfl rfl rfl u rfl rfl i y f a C E p;exact Ek b w x (x.fdiv 2) ((x.fdiv 2).fdiv 1) (b2 x) ((x.fdiv 2).fdiv 18) (cq x) z d g (ch (cq x)) e rfl rfl rfl u rfl rfl i y f a C E p
   ·rw [n];cases c;exact El b w x (x.fdiv 2) ((x.fdiv 2).fdiv 1) (b2 x) ((x.fdiv 2).fdiv 18) (cq x) z d g D A (ch (cq x)) e rfl rfl rfl u rfl rfl i y f a t B C E p;exact Em b w x (x.fdiv 2) ((x.fdiv 2).fdiv 1) (b2 x) ((x.fdiv 2).fdiv 18) (cq x) z d g D A (ch (cq x)) e rfl rfl rfl u rfl rfl i y f a t B C E p
  ·rcases K with ⟨i,J⟩ | ⟨z,d,g,i,y,f,a,C,E⟩ | ⟨z,d,g,D,A,i,y,f,a,t,B,C,E⟩
   ·rw [J];cases c;exact Eo b w x (x.fdiv 2) ((x.fdiv 2).fdiv 1) (b2 x) h q m (ch (b2 x)) ((x.fdiv 2).fdiv 18) (cq x) e rfl rfl rfl u v k s j o rfl rfl i p;exact Ep b w x (x.fdiv 2) ((x.fdiv 2).fdiv 1) (b2 x) h q m (ch (b2 x)) ((x.fdiv 2).fdiv 18) (cq x) e rfl rfl rfl u v k s j o rfl rfl i p
   ·cases c;exact Eq b w x (x.fdiv 2) ((x.fdiv 2).fdiv 1) (b2 x) h q m (ch (b2 x)) ((x.fdiv 2).fdiv 18) (cq x) z d g (ch (cq x)) e rfl rfl rfl u v k s j o rfl rfl i y f a C E p;exact Es b w x (x.fdiv 2) ((x.fdiv 2).fdiv 1) (b2 x) h q m (ch (b2 x)) ((x.fdiv 2).fdiv 18) (cq x) z d g (ch (cq x)) e rfl rfl rfl u v k s j o rfl rfl i y f a C E p
   ·cases c;exact Et b w x (x.fdiv 2) ((x.fdiv 2).fdiv 1) (b2 x) h q m (ch (b2 x)) ((x.fdiv 2).fdiv 18) (cq x) z d g D A (ch (cq x)) e rfl rfl rfl u v k s j o rfl rfl i y f a t B C E p;exact Eu b w x (x.fdiv 2) ((x.fdiv 2).fdiv 1) (b2 x) h q m (ch (b2 x)) ((x.fdiv 2).fdiv 18) (cq x) z d g D A (ch (cq x)) e rfl rfl rfl u v k s j o rfl rfl i y f a t B C E p
  ·rcases K with ⟨i,J⟩ | ⟨z,d,g,i,y,f,a,C,E⟩ | ⟨z,d,g,D,A,i,y,f,a,t,B,C,E⟩
   ·rw [J];cases c;exact Ev b w x (x.fdiv 2) ((x.fdiv 2).fdiv 1) (b2 x) h q m G H (ch (b2 x)) ((x.fdiv 2).fdiv 18) (cq x) e rfl rfl rfl u v k s F I j o rfl rfl i p;exact Ew b w x (x.fdiv 2) ((x.fdiv 2).fdiv 1) (b2 x) h q m G H (ch (b2 x)) ((x.fdiv 2).fdiv 18) (cq x) e rfl rfl rfl u v k s F I j o rfl rfl i p
   ·cases c;exact Ex b w x (x.fdiv 2) ((x.fdiv 2).fdiv 1) (b2 x) h q m G H (ch (b2 x)) ((x.fdiv 2).fdiv 18) (cq x) z d g (ch (cq x)) e rfl rfl rfl u v k s F I j o rfl rfl i y f a C E p;exact Ey b w x (x.fdiv 2) ((x.fdiv 2).fdiv 1) (b2 x) h q m G H (ch (b2 x)) ((x.fdiv 2).fdiv 18) (cq x) z d g (ch (cq x)) e rfl rfl rfl u v k s F I j o rfl rfl i y f a C E p
   ·cases c;exact Ez b w x (x.fdiv 2) ((x.fdiv 2).fdiv 1) (b2 x) h q m G H (ch (b2 x)) ((x.fdiv 2).fdiv 18) (cq x) z d g D A (ch (cq x)) e rfl rfl rfl u v k s F I j o rfl rfl i y f a t B C E p;exact EA b w x (x.fdiv 2) ((x.fdiv 2).fdiv 1) (b2 x) h q m G H (ch (b2 x)) ((x.fdiv 2).fdiv 18) (cq x) z d g D A (ch (cq x)) e rfl rfl rfl u v k s F I j o rfl rfl i y f a t B C E p
def FJ (x:Int):aH:=bA (u1 x) [] (fun _=>[]) fun _ a=>u2 (fK x) a
theorem FK {b c:Bool} {w:Yc} {m:Nat} (x:Int) (a:1≤m):(FJ x).Sure (B0 (W b c w)) m:=
 (bS (by decide) fun p=>FI b c w x p).le a
end
section
variable {B:bf} {m:Nat}
def lj (j:Nat) (a:Yb):aH:=iK "list.append" j a (fun p=>[.ref (p 0 1)]) (fun _ _=>.none) fun p=>a++[.ref (p 0 1)]
theorem m0 {j:Nat} {a:Yb} (c:a.length≤1000):(lj j a).Sure B m:=by
 refine lf fun p A s Q E b h => ?_
 have e:IsL s.heap (p 1 0) a.toArray (p 1 1):=b
 refine call_meets F.slot_list_append ⟨_,b,rfl⟩ F.entry_list_append (F.args_list_append_2 _ _) (list_append (p 1 0) a.toArray (p 1 1) (.ref (p 0 1)) (by rw [List.size_toArray];exact Nat.le_trans c (by decide))) ⟨b,?_⟩
 have d:Heap.SameBut (p 1 0) s.heap (s.heap.update (p 1 0) (Obj.mapSeq fun y=>y.push (.ref (p 0 1)))):=Heap.SameBut.update ..
 refine h _ (fun _=>p 1 1+1) s.toks d ?_
 refine (Heap.get?_update_self _ b rfl).trans ?_
 show some (Obj.mapSeq _ (ab a (p 1 1)))=some (ab (a++[.ref (p 0 1)]) (p 1 1+1))
 unfold Obj.mapSeq ab
 simp
end
noncomputable def aE (l:Yg) (a:Ye):Addr×Obj:=(a 0,ab (cO l (fun i=>a (i+1)) 0) l.length)
theorem zt (a:Ye):∀(l:Yg) (i:Nat),cO l a (i+1)=cO l (fun j=>a (j+1)) i
 | [],_=>rfl
 | x::l,i=>by
  show Value.str x (a (i+1))::cO l a (i+1+1)=Value.str x (a (i+1))::cO l (fun j=>a (j+1)) (i+1)
  rw [zt a l (i+1)]
def sD (x:Int):aH:=bA (u1 x) [] (fun _=>[]) fun _ a=>(.ret (.ref (a 0)),[],[aE (fK x) a])
theorem zu {b c:Bool} {w:Yc} {m:Nat} (x:Int) (d:1≤m):(sD x).Sure (B0 (W b c w)) m:=by
 have e:(fun a:Nat→Nat=>(Flow.ret (.ref (a 0)),([]:Yf),[aE (fK x) a]))=u2 (fK x):=by
  funext a
  show _=(Flow.ret (.ref (a 0)),([]:Yf),[(a 0,ab (cO (fK x) a (0+1)) (fK x).length)])
  rw [zt]
  rfl
 unfold sD
 rw [e]
 exact FK x d
def ph:List (Str×Addr)→Yh→List (Str×Addr)
 | e::l,a::r=>(e.1,a)::ph l r
 | _,_=>[]
section
def u3:Code:=.call (.ref 291) ⟨[.ref 900],[]⟩
def u4:Kn:=[(900,ab [.int 3 77] 0)]
noncomputable def aw (w:Yc) (a:List (Str×Nat×Yd)) (n:Nat):Obj:={cls:=.type "dict",data:=.dict (a.map fun e=>⟨reduceHash (w.params.strHash e.1.cps),.str e.1 e.2.1,e.2.2⟩).toArray n}
def fL (w:Yc):Code:=o8 (gv false false w [] 80 [0,0,2,1,0,0,2,1,1,1,0,1,0,54,5,5,5,5,5,1,6,7,6,0,6,0,85,7,6,7,8,8,0,8,0,23,9,1] 0 (fun _=>(0,0,id)) u3 u4 1000 0)
theorem u5 (w:Yc) (c b a d:Nat):hY (dZ (fL w) c b a d)=false:=by kernel_rfl
def fM (w:Yc):Code:=o8 (gv false false w [D9 .next] 120 [0,0,2,1,0,0,2,1,1,1,0,1,0,54,5,5,5,5,5,1,6,7,6,0,6,0,85,7,6,7,8,8,0,8,0,23,9,2,2,1,11,2,10,10,0,10,0,23,12,1] 1 (fun _=>(2000,0,id)) u3 u4 1000 0)
def m1 (w:Yc):Code:=o8 (gv false false w [] 60 [1,0,1,0,24,1,1,2,1,0,4,3,4,5,5,0,5,0,23,6,1] 0 (fun _=>(2000,0,id)) (dZ (fM w) 901 903 904 905) [(901,am (.ref 902) 0),(902,ab [.ref 906] 0),(903,ab [] 0),(904,aw w [] 0),(906,ab [.str "" 0] 1)] 1000 0)
theorem u6 (w:Yc) (c b a d:Nat):hY (dZ (fM w) c b a d)=false:=by kernel_rfl
theorem zv (w:Yc) (c b a d:Nat):hY (fd (fM w) c b a d)=false:=by kernel_rfl
theorem sE (w:Yc) (c b a d:Nat):hY (fd (m1 w) c b a d)=false:=by kernel_rfl
theorem zw (w:Yc) (c b a d:Nat):hY (fd (fL w) c b a d)=false:=by kernel_rfl
end
section
theorem FL (b c:Bool) (w:Yc) (x:Int) (g i:Nat) (d e:Yb) (h:d[i]? = some (.int x g)) (k:e.length≤1000) (p:af):aL (B0 (W b c w)) 2 (dZ (fL w) (p 1 0) (p 3 0) (p 4 0) (p 5 0)) [(p 1 0,am (.ref (p 2 0)) i),(p 2 0,ab d (p 2 1)),(p 3 0,ab e (p 3 1)),(p 4 0,aw w [] (0))] (fun a=>(.error (dZ (fL w) (p 1 0) (p 3 0) (p 4 0) (p 5 0)),[am (.ref (p 2 0)) (i+1),ab d (p 2 1),ab (e++[.ref (a 2)]) (a 0),aw w [("x",a 1,.int x g)] (1)],[aE (fK x) fun i=>a (i+2)])):=
 aA (orcs:=[cA 0 1 d i (.int x g),sD x,lj 2 e]) (aa (cP (by decide) h) (aa (zu x (by decide)) (aa (m0 k) aq))) 22 3 [1,2,4,3,0,4,0,3,4,1] [0,1,2,3,4] (fun n m f i=>match i with | 0=>(f 2).2.2 1 | 1=>(f 0).2.1+0 | j+2=>(f 1).2.2 j) (hc:=aS (u5 w _ _ _ _))
theorem FM (b c:Bool) (w:Yc) (k:Yd) (x:Int) (g i:Nat) (a d:Yb) (h:a[i]? = some (.int x g)) (m:d.length≤1000) (p:af):aL (B0 (W b c w)) 2 (dZ (fL w) (p 1 0) (p 3 0) (p 4 0) (p 5 0)) [(p 1 0,am (.ref (p 2 0)) i),(p 2 0,ab a (p 2 1)),(p 3 0,ab d (p 3 1)),(p 4 0,aw w [("x",p 4 2,k)] (p 4 1))] (fun e=>(.error (dZ (fL w) (p 1 0) (p 3 0) (p 4 0) (p 5 0)),[am (.ref (p 2 0)) (i+1),ab a (p 2 1),ab (d++[.ref (e 2)]) (e 0),aw w [("x",p 4 2,.int x g)] (p 4 1)],[aE (fK x) fun i=>e (i+2)])):=
 aA (orcs:=[cA 0 1 a i (.int x g),sD x,lj 2 d]) (aa (cP (by decide) h) (aa (zu x (by decide)) (aa (m0 m) aq))) 22 3 [1,2,4,3,0,4,0,3,4,1] [0,1,2,3,4] (fun n o f i=>match i with | 0=>(f 2).2.2 1 | 1=>(f 0).2.1+0 | j+2=>(f 1).2.2 j) (hc:=aS (u5 w _ _ _ _))
theorem FN (b c:Bool) (w:Yc) (e:Yd) (i:Nat) (a d:Yb) (f:a.length≤i) (p:af):aC (B0 (W b c w)) 2 (dZ (fL w) (p 1 0) (p 3 0) (p 4 0) (p 5 0)) [(p 1 0,am (.ref (p 2 0)) i),(p 2 0,ab a (p 2 1)),(p 3 0,ab d (p 3 1)),(p 4 0,aw w [("x",p 4 2,e)] (p 4 1))] (fun g=>(.next,[am .none i,ab a (p 2 1),ab d (p 3 1),aw w [("x",p 4 2,e)] (p 4 1)],[])):=
 aA (orcs:=[fJ 0 1 a i]) (aa (iJ (by decide) f) aq) 7 1 [1,2,5] [0,1,2,3] (fun _ _ _ _=>0) (hc:=aS (u5 w _ _ _ _))
theorem FO (b:Bool) (w:Yc) (a c:Yb) (p:af):aL (B0 (W b false w)) 2 (fd (fL w) (p 1 0) (p 3 0) (p 4 0) (p 5 0)) [(p 1 0,am (.ref (p 2 0)) 0),(p 2 0,ab a (p 2 1)),(p 3 0,ab c (p 3 1)),(p 4 0,aw w [] (0))] (fun d=>(.error (dZ (fL w) (p 1 0) (p 3 0) (p 4 0) (p 5 0)),[am (.ref (p 2 0)) 0,ab a (p 2 1),ab c (p 3 1),aw w [] (0)],[])):=
 aA (orcs:=[]) aq 14 0 [1,1,0,1,0,43,1,1] [0,1,2,3] (fun _ _ _ _=>0) (hc:=aS (zw w _ _ _ _))
theorem FP (b:Bool) (w:Yc) (a c:Yb) (p:af):aL (B0 (W b true w)) 2 (fd (fL w) (p 1 0) (p 3 0) (p 4 0) (p 5 0)) [(p 1 0,am (.ref (p 2 0)) 0),(p 2 0,ab a (p 2 1)),(p 3 0,ab c (p 3 1)),(p 4 0,aw w [] (0))] (fun d=>(.error (dZ (fL w) (p 1 0) (p 3 0) (p 4 0) (p 5 0)),[am (.ref (p 2 0)) 0,ab a (p 2 1),ab c (p 3 1),aw w [] (0)],[])):=
 aA (orcs:=[]) aq 4 0 [1] [0,1,2,3] (fun _ _ _ _=>0) (hc:=aS (zw w _ _ _ _))
end
def ev (f:Ye):Nat→Nat:=fun i=>f (2*i)
def od (f:Ye):Nat→Nat:=fun i=>f (2*i+1)
def lk (f g:Ye):Nat→Nat:=fun i=>if i % 2=0 then f (i / 2) else g (i / 2)
theorem u7 (f g:Ye):ev (lk f g)=f:=by
 funext i
 show (if 2*i % 2=0 then f (2*i / 2) else g (2*i / 2))=f i
 rw [if_pos (by lia),show 2*i / 2=i by lia]
theorem u8 (f g:Ye):od (lk f g)=g:=by
 funext i
 show (if (2*i+1) % 2=0 then f ((2*i+1) / 2) else g ((2*i+1) / 2))=g i
 rw [if_neg (by lia),show (2*i+1) / 2=i by lia]
def aT:Yi→Ye→Yb
 | [],_=>[]
 | _::r,ax=>.ref (ev ax 2)::aT r (od ax)
def be:Yi→Ye→Ya
 | [],_=>[]
 | l::r,ax=>aE l (fun i=>ev ax (i+2))::be r (od ax)
def pi:Yb→Yd→Yd
 | [],v=>v
 | u::r,_=>pi r u
section
end
section
variable {σ δ : Type}
def b5 (step : δ→σ→Ye→σ):List δ→σ→Ye→σ
 | [],s,_=>s
 | d::r,s,ax=>b5 step r (step d s (ev ax)) (od ax)
def fN (ads : δ→Ye→Ya):List δ→Ye→Ya
 | [],_=>[]
 | d::r,ax=>ads d (ev ax)++fN ads r (od ax)
theorem sG (l:Ya):(bH l).length=l.length:=by rw [uR,List.length_map]
theorem u9 {a S:Ya} {o:Yf} (h:o.length=a.length):((a++S).map (·.1)).zip (o++bH S)=(a.map (·.1)).zip o++S:=by
 rw [List.map_append,iL (by rw [List.length_map,h]),sy]
theorem sH {B:bf} (O:B.Ok) {m:Nat} {code:Code} (S:Ya) (St:Nat→σ→Ya) (g : σ→Yf) (step : δ→σ→Ye→σ) (src : δ→Ya) (ads : δ→Ye→Ya) (ok:Nat→δ→σ→Prop) (f:Nat→σ→Prop) (n:Nat)
  (q:∀i s H x,(St i s).map (·.1)=(St H x).map (·.1))
  (w:∀i d s,i<n→f i s→ok i d s→(∀p∈src d,p∈S)∧((src d).map (·.1)).Nodup∧(∀a,f (i+1) (step d s a))∧aL B m code (St i s++src d) fun a=>(.error code,bH (St (i+1) (step d s a))++bH (src d),ads d a))
  (t:∀s,f n s→aL B m code (St n s) fun _=>(.ok .next,g s,[]))
  (u:∀i s,(g s).length=(St i s).length) :
  ∀(c:List δ) (i:Nat) (s : σ),i+c.length=n→f i s→(∀k d,c[k]? = some d→∀s,ok (i+k) d s)→aL B m code (St i s++S) fun a=>(.ok .next,g (b5 step c s a)++bH S,fN ads c a):=by
 intro c
 induction c with
 | nil=>
  intro i s y A _
  have:i=n:=by simpa using y
  subst this
  have L:=t s A
  have G:aL B m code (St i s++[]) fun a=>(.ok .next,g s++bH [],[]):=by
   rw [List.append_nil]
   show aL B m code (St i s) fun a=>(.ok .next,g s++[],[])
   rw [List.append_nil]
   exact L
  exact aL.lift S (src:=[]) (k:=fun _=>.ok .next) (o:=fun _=>g s) (ads:=fun _=>[]) G (fun _=>u i s) (fun _ h=>nomatch h) List.nodup_nil
 | cons d c E=>
  intro i s y A C
  rw [List.length_cons] at y
  obtain ⟨I,F,t3,J⟩:=w i d s (by lia) A (C 0 d rfl s)
  have z:∀j x,(bH (St j x)).length=(St i s).length:=fun j x=>by
   have:=congrArg List.length (q j x i s)
   rw [List.length_map,List.length_map] at this
   rw [sG,this]
  have T:=aL.lift S (k:=fun _=>.error code) (o:=fun a=>bH (St (i+1) (step d s a))) (ads:=fun a=>ads d a) J (fun a=>z _ _) I F
  refine aL.andThen O T (fun _=>rfl) (fun a => ?_) (out2:=fun a b=>(.ok .next,g (b5 step c (step d s a) b)++bH S,fN ads c b)) (fun a => ?_) (fun a b=>⟨lk a b,?_⟩)
  ·show (bH _++bH S).length=(St i s++S).length
   rw [List.length_append,List.length_append,z,sG]
  ·show aL B m code (((St i s++S).map (·.1)).zip (bH (St (i+1) (step d s a))++bH S)) _
   rw [u9 (z _ _),q i s (i+1) (step d s a),sy]
   exact E (i+1) (step d s a) (by lia) (t3 a) (fun k D e=>by
    rw [show i+1+k=i+(k+1) by lia]
    exact C (k+1) D e)
  ·show (_,g (b5 step (d::c) s (lk a b))++bH S,fN ads (d::c) (lk a b))=_
   simp only [b5,fN,u7,u8]
end
structure ic where
 as:Yb
 t:Nat
 v:Option (Nat×Nat×Yd)
def eP (w:Yc) (a:Str):Option (Nat×Nat×Yd)→Obj
 | none=>aw w [] 0
 | some (k,n,v)=>aw w [(a,k,v)] n
def ll:Option (Nat×Nat×Yd)→Yd→Nat→Option (Nat×Nat×Yd)
 | none,x,k=>some (k,1,x)
 | some (k,n,_),x,_=>some (k,n,x)
section
variable {δ : Type}
def d0 (c : δ→Yd) (b : δ→Ye→Yd) (d : δ) (s:ic) (a:Ye):ic:=⟨s.as++[b d a],a 0,ll s.v (c d) (a 1)⟩
def c0 (a : δ→Ye→Yd):List δ→Ye→Yb
 | [],_=>[]
 | d::r,ax=>a d (ev ax)::c0 a r (od ax)
theorem zx (b : δ→Yd) (a : δ→Ye→Yd):∀(e:List δ) (s:ic) (c:Ye),(b5 (d0 b a) e s c).as=s.as++c0 a e c
 | [],s,_=>(List.append_nil _).symm
 | d::r,s,c=>by
  show (b5 (d0 b a) r (d0 b a d s (ev c)) (od c)).as=s.as++(a d (ev c)::c0 a r (od c))
  rw [zx b a r]
  show s.as++[a d (ev c)]++_=_
  rw [←List.append_cons]
theorem pj {B:bf} (O:B.Ok) {m:Nat} {st lp:Code} (w:Yc) (z:Str) (A l q C j u:Nat) (b:Yb) (S:Ya) (a : δ→Yd) (src : δ→Ya) (g : δ→Ye→Yd) (ads : δ→Ye→Ya) (c:List δ) (F:b=c.map a) (N:0<c.length) (T:c.length≤500)
  (start:aL B m st [(A,am (.ref l) 0),(l,ab b j),(q,ab [] u),(C,aw w [] 0)] fun _=>(.error lp,[am (.ref l) 0,ab b j,ab [] u,aw w [] 0],[]))
  (J:∀i d y t,d∈c→b[i]? = some (a d)→y.length≤1000→aL B m lp ([(A,am (.ref l) i),(l,ab b j),(q,ab y t),(C,aw w [] 0)]++src d) fun f=>(.error lp,[am (.ref l) (i+1),ab b j,ab (y++[g d f]) (f 0),aw w [(z,f 1,a d)] 1]++bH (src d),ads d f))
  (I:∀i d y t k n v,d∈c→b[i]? = some (a d)→y.length≤1000→aL B m lp ([(A,am (.ref l) i),(l,ab b j),(q,ab y t),(C,aw w [(z,k,v)] n)]++src d) fun f=>(.error lp,[am (.ref l) (i+1),ab b j,ab (y++[g d f]) (f 0),aw w [(z,k,a d)] n]++bH (src d),ads d f))
  (E:∀i y t k n v,b.length≤i→aL B m lp [(A,am (.ref l) i),(l,ab b j),(q,ab y t),(C,aw w [(z,k,v)] n)] fun _=>(.ok .next,[am .none i,ab b j,ab y t,aw w [(z,k,v)] n],[]))
  (sub:∀d∈c,(∀p∈src d,p∈S)∧((src d).map (·.1)).Nodup) :
  aL B m st ([(A,am (.ref l) 0),(l,ab b j),(q,ab [] u),(C,aw w [] 0)]++S) fun f=>
   (.ok .next,[am .none c.length,ab b j,ab (c0 g c f) (b5 (d0 a g) c ⟨[],u,none⟩ f).t,eP w z (b5 (d0 a g) c ⟨[],u,none⟩ f).v]++bH S,fN ads c f):=by
 have R:b.length=c.length:=by rw [F,List.length_map]
 let St:Nat→ic→Ya:=fun i s=>[(A,am (.ref l) i),(l,ab b j),(q,ab s.as s.t),(C,eP w z s.v)]
 have L:=sH O (m:=m) (code:=lp) S St (fun s=>[am .none c.length,ab b j,ab s.as s.t,eP w z s.v]) (d0 a g) src ads (fun i d _=>d∈c∧b[i]? = some (a d)) (fun i s=>s.as.length=i∧(0<i→s.v.isSome=true)) c.length (fun _ _ _ _=>rfl)
  (fun i d s Q D P=>by
   obtain ⟨G,hx⟩:=P
   refine ⟨(sub d G).1,(sub d G).2,fun f=>⟨?_,fun _ => ?_⟩,?_⟩
   ·show (s.as++[g d f]).length=i+1
    rw [List.length_append,D.1];rfl
   ·show (ll s.v (a d) (f 1)).isSome=true
    cases s.v <;> rfl
   ·obtain ⟨y,t,v⟩:=s
    cases v with
    | none=>exact J i d y t G hx (by have:=D.1;simp only at this;lia)
    | some x=>
     obtain ⟨k,n,v⟩:=x
     exact I i d y t k n v G hx (by have:=D.1;simp only at this;lia))
  (fun s D=>by
   obtain ⟨y,t,v⟩:=s
   cases v with
   | none=>have:=D.2 N;cases this
   | some x=>
    obtain ⟨k,n,v⟩:=x
    exact E c.length y t k n v (by lia))
  (fun _ _=>rfl) c 0 ⟨[],u,none⟩ (by lia) ⟨rfl,fun h=>absurd h (Nat.lt_irrefl _)⟩ (fun k d e _=>⟨List.mem_of_getElem? e,by rw [F,Nat.zero_add,List.getElem?_map,e];rfl⟩)
 have K:aL B m st ([(A,am (.ref l) 0),(l,ab b j),(q,ab [] u),(C,aw w [] 0)]++S) fun f=>(.error lp,[am (.ref l) 0,ab b j,ab [] u,aw w [] 0]++bH S,[]):=
  aL.lift S (src:=[]) (k:=fun _=>.error lp) (o:=fun _=>[am (.ref l) 0,ab b j,ab [] u,aw w [] 0]) (ads:=fun _=>[]) start (fun _=>rfl) (fun _ h=>nomatch h) List.nodup_nil
 refine aL.andThen O K (fun _=>rfl) (fun _ => ?_) (out2:=fun _ f=>(.ok .next,[am .none c.length,ab b j,ab (b5 (d0 a g) c ⟨[],u,none⟩ f).as (b5 (d0 a g) c ⟨[],u,none⟩ f).t,eP w z (b5 (d0 a g) c ⟨[],u,none⟩ f).v]++bH S,fN ads c f)) (fun _ => ?_) (fun _ H=>⟨H,?_⟩)
 ·show ([am (.ref l) 0,ab b j,ab [] u,aw w [] 0]++bH S).length=([(A,am (.ref l) 0),(l,ab b j),(q,ab [] u),(C,aw w [] 0)]++S).length
  rw [List.length_append,List.length_append,sG];rfl
 ·show aL B m lp ((([(A,am (.ref l) 0),(l,ab b j),(q,ab [] u),(C,aw w [] 0)]++S).map (·.1)).zip ([am (.ref l) 0,ab b j,ab [] u,aw w [] 0]++bH S)) _
  rw [u9 rfl]
  exact L
 ·rw [zx];rfl
end
section
theorem FQ (b:Bool) (w:Yc) (a:Str) (e:a∈b1) (p:af):aC (B0 (W b false w)) 2 (fd (m1 w) (p 1 0) (p 3 0) (p 4 0) (p 5 0)) [(p 1 0,am (.ref (p 2 0)) 0),(p 2 0,ab [.str a (p 2 2)] 1),(p 3 0,ab [] 0),(p 4 0,aw w [] (0))] (fun c=>(.next,[am .none 1,ab [.str a (p 2 2)] 1,ab [.str (ao a) (c 1)] 1,aw w [("name",c 0,.str a (p 2 2))] (1)],[])):=
 aA (orcs:=[li a]) (aa (mZ a e (by decide)) aq) 65 1 [1,1,0,1,0,43,1,0,1,0,1,0,24,1,1,2,1,0,4,3,0,4,0,2,0,3,0,26,3,2,3,0,1,0,1,0,24,1,1,2,1,0,6] [0,1,2,3] (fun n d f=>aB [d+0,(f 0).2.2 0]) (hc:=aS (sE w _ _ _ _))
theorem FR (b:Bool) (w:Yc) (a d:Str) (h:a∈b1) (e:d∈b1) (p:af):aC (B0 (W b false w)) 2 (fd (m1 w) (p 1 0) (p 3 0) (p 4 0) (p 5 0)) [(p 1 0,am (.ref (p 2 0)) 0),(p 2 0,ab [.str a (p 2 2),.str d (p 2 3)] 2),(p 3 0,ab [] 0),(p 4 0,aw w [] (0))] (fun c=>(.next,[am .none 2,ab [.str a (p 2 2),.str d (p 2 3)] 2,ab [.str (ao a) (c 1),.str (ao d) (c 2)] 2,aw w [("name",c 0,.str d (p 2 3))] (1)],[])):=
 aA (orcs:=[li a,li d]) (aa (mZ a h (by decide)) (aa (mZ d e (by decide)) aq)) 99 2 [1,1,0,1,0,43,1,0,1,0,1,0,24,1,1,2,1,0,4,3,0,4,0,2,0,3,0,26,3,2,3,0,1,0,1,0,24,1,1,2,1,0,4,3,0,4,0,3,0,3,0,26,3,2,3,0,1,0,1,0,24,1,1,2,1,0,6] [0,1,2,3] (fun n g f=>aB [g+0,(f 0).2.2 0,(f 1).2.2 0]) (hc:=aS (sE w _ _ _ _))
theorem FS (b:Bool) (w:Yc) (a:Str) (e:a∈b1) (p:af):aC (B0 (W b true w)) 2 (fd (m1 w) (p 1 0) (p 3 0) (p 4 0) (p 5 0)) [(p 1 0,am (.ref (p 2 0)) 0),(p 2 0,ab [.str a (p 2 2)] 1),(p 3 0,ab [] 0),(p 4 0,aw w [] (0))] (fun c=>(.next,[am .none 1,ab [.str a (p 2 2)] 1,ab [.str (ao a) (c 1)] 1,aw w [("name",c 0,.str a (p 2 2))] (1)],[])):=
 aA (orcs:=[li a]) (aa (mZ a e (by decide)) aq) 55 1 [0,1,0,1,0,24,1,1,2,1,0,4,3,0,4,0,2,0,3,0,26,3,2,3,0,1,0,1,0,24,1,1,2,1,0,6] [0,1,2,3] (fun n d f=>aB [d+0,(f 0).2.2 0]) (hc:=aS (sE w _ _ _ _))
theorem FT (b:Bool) (w:Yc) (a d:Str) (h:a∈b1) (e:d∈b1) (p:af):aC (B0 (W b true w)) 2 (fd (m1 w) (p 1 0) (p 3 0) (p 4 0) (p 5 0)) [(p 1 0,am (.ref (p 2 0)) 0),(p 2 0,ab [.str a (p 2 2),.str d (p 2 3)] 2),(p 3 0,ab [] 0),(p 4 0,aw w [] (0))] (fun c=>(.next,[am .none 2,ab [.str a (p 2 2),.str d (p 2 3)] 2,ab [.str (ao a) (c 1),.str (ao d) (c 2)] 2,aw w [("name",c 0,.str d (p 2 3))] (1)],[])):=
 aA (orcs:=[li a,li d]) (aa (mZ a h (by decide)) (aa (mZ d e (by decide)) aq)) 89 2 [0,1,0,1,0,24,1,1,2,1,0,4,3,0,4,0,2,0,3,0,26,3,2,3,0,1,0,1,0,24,1,1,2,1,0,4,3,0,4,0,3,0,3,0,26,3,2,3,0,1,0,1,0,24,1,1,2,1,0,6] [0,1,2,3] (fun n g f=>aB [g+0,(f 0).2.2 0,(f 1).2.2 0]) (hc:=aS (sE w _ _ _ _))
end
def b7 (r:Yg):Prop:=(∃a∈b1,r=[a])∨∃a∈b1,∃d∈b1,r=[a,d]
def FU (b:af→Code) (w:Yc) (c:Yh) (r:Yg) (g:Ye):aH:=bA b c
 (fun p=>[(p 1 0,am (.ref (p 2 0)) 0),(p 2 0,(aE r g).2),(p 3 0,ab [] 0),(p 4 0,aw w [] 0)])
 (fun p a=>(.next,[am .none r.length,(aE r g).2,ab (cO (r.map ao) (fun i=>a (i+1)) 0) (r.map ao).length,aw w [("name",a 0,pi (cO r (fun i=>g (i+1)) 0) .none)] 1],[]))
section
def va (w:Yc) (a:Yh) (r:Yg) (g:Ye):aH:=FU (fun p=>fd (m1 w) (p 1 0) (p 3 0) (p 4 0) (p 0 3)) w a r g
theorem zy {b c:Bool} {w:Yc} {m:Nat} {h:Yh} {r:Yg} {g:Nat→Nat} (o:h.Nodup) (n:b7 r) (k:2≤m):(va w h r g).Sure (B0 (W b c w)) m:=by
 refine (bS o fun p => ?_:aH.Sure (B0 (W b c w)) 2 _).le k
 rcases n with ⟨a,e,rfl⟩ | ⟨a,e,d,f,rfl⟩
 ·cases c
  ·exact FQ b w a e (fun j i=>match j,i with | 2,2=>g 1 | 5,_=>p 0 3 | j,i=>p j i)
  ·exact FS b w a e (fun j i=>match j,i with | 2,2=>g 1 | 5,_=>p 0 3 | j,i=>p j i)
 ·cases c
  ·exact FR b w a d e f (fun j i=>match j,i with | 2,2=>g 1 | 2,3=>g 2 | 5,_=>p 0 3 | j,i=>p j i)
  ·exact FT b w a d e f (fun j i=>match j,i with | 2,2=>g 1 | 2,3=>g 2 | 5,_=>p 0 3 | j,i=>p j i)
end
section
theorem FV (b c:Bool) (w:Yc) (r:Yg) (i:Nat) (a e:Yb) (p:af) (h:a[i]? = some (.ref (p 5 0))) (k:e.length≤1000) (g:b7 r):aL (B0 (W b c w)) 3 (dZ (fM w) (p 1 0) (p 3 0) (p 4 0) (p 6 0)) [(p 1 0,am (.ref (p 2 0)) i),(p 2 0,ab a (p 2 1)),(p 3 0,ab e (p 3 1)),(p 4 0,aw w [] (0)),aE r (p 5)] (fun d=>(.error (dZ (fM w) (p 1 0) (p 3 0) (p 4 0) (p 6 0)),[am (.ref (p 2 0)) (i+1),ab a (p 2 1),ab (e++[.ref (d 2)]) (d 0),aw w [("row",d 1,.ref (p 5 0))] (1),(aE r (p 5)).2],[aE (r.map ao) fun i=>d (i+2)])):=
 aA (orcs:=[cA 0 1 a i (.ref (p 5 0)),va w [5,4,6,7] r (p 5),lj 2 e]) (aa (cP (by decide) h) (aa (zy (by decide) g (by decide)) (aa (m0 k) aq))) 34 3 [1,2,4,3,4,5,5,0,5,0,23,6,3,8,8,7,4,1] [0,1,2,3,4,6] (fun n m f i=>match i with | 0=>(f 2).2.2 1 | 1=>(f 0).2.1+0 | 2=>(f 0).1+1 | j+3=>(f 1).2.2 (j+1)) (hc:=aS (u6 w _ _ _ _))
theorem FW (b c:Bool) (w:Yc) (k:Yd) (r:Yg) (i:Nat) (a d:Yb) (p:af) (h:a[i]? = some (.ref (p 5 0))) (m:d.length≤1000) (g:b7 r):aL (B0 (W b c w)) 3 (dZ (fM w) (p 1 0) (p 3 0) (p 4 0) (p 6 0)) [(p 1 0,am (.ref (p 2 0)) i),(p 2 0,ab a (p 2 1)),(p 3 0,ab d (p 3 1)),(p 4 0,aw w [("row",p 4 2,k)] (p 4 1)),aE r (p 5)] (fun e=>(.error (dZ (fM w) (p 1 0) (p 3 0) (p 4 0) (p 6 0)),[am (.ref (p 2 0)) (i+1),ab a (p 2 1),ab (d++[.ref (e 2)]) (e 0),aw w [("row",p 4 2,.ref (p 5 0))] (p 4 1),(aE r (p 5)).2],[aE (r.map ao) fun i=>e (i+2)])):=
 aA (orcs:=[cA 0 1 a i (.ref (p 5 0)),va w [5,4,6,7] r (p 5),lj 2 d]) (aa (cP (by decide) h) (aa (zy (by decide) g (by decide)) (aa (m0 m) aq))) 34 3 [1,2,4,3,4,5,5,0,5,0,23,6,3,8,8,7,4,1] [0,1,2,3,4,6] (fun n o f i=>match i with | 0=>(f 2).2.2 1 | 1=>(f 0).2.1+0 | 2=>(f 0).1+1 | j+3=>(f 1).2.2 (j+1)) (hc:=aS (u6 w _ _ _ _))
theorem FX (b c:Bool) (w:Yc) (e:Yd) (i:Nat) (a d:Yb) (f:a.length≤i) (p:af):aC (B0 (W b c w)) 3 (dZ (fM w) (p 1 0) (p 3 0) (p 4 0) (p 6 0)) [(p 1 0,am (.ref (p 2 0)) i),(p 2 0,ab a (p 2 1)),(p 3 0,ab d (p 3 1)),(p 4 0,aw w [("row",p 4 2,e)] (p 4 1))] (fun g=>(.next,[am .none i,ab a (p 2 1),ab d (p 3 1),aw w [("row",p 4 2,e)] (p 4 1)],[])):=
 aA (orcs:=[fJ 0 1 a i]) (aa (iJ (by decide) f) aq) 7 1 [1,2,5] [0,1,2,3] (fun _ _ _ _=>0) (hc:=aS (u6 w _ _ _ _))
theorem FY (b:Bool) (w:Yc) (a c:Yb) (p:af):aL (B0 (W b false w)) 3 (fd (fM w) (p 1 0) (p 3 0) (p 4 0) (p 6 0)) [(p 1 0,am (.ref (p 2 0)) 0),(p 2 0,ab a (p 2 1)),(p 3 0,ab c (p 3 1)),(p 4 0,aw w [] (0))] (fun d=>(.error (dZ (fM w) (p 1 0) (p 3 0) (p 4 0) (p 6 0)),[am (.ref (p 2 0)) 0,ab a (p 2 1),ab c (p 3 1),aw w [] (0)],[])):=
 aA (orcs:=[]) aq 14 0 [1,1,0,1,0,43,1,1] [0,1,2,3] (fun _ _ _ _=>0) (hc:=aS (zv w _ _ _ _))
theorem FZ (b:Bool) (w:Yc) (a c:Yb) (p:af):aL (B0 (W b true w)) 3 (fd (fM w) (p 1 0) (p 3 0) (p 4 0) (p 6 0)) [(p 1 0,am (.ref (p 2 0)) 0),(p 2 0,ab a (p 2 1)),(p 3 0,ab c (p 3 1)),(p 4 0,aw w [] (0))] (fun d=>(.error (dZ (fM w) (p 1 0) (p 3 0) (p 4 0) (p 6 0)),[am (.ref (p 2 0)) 0,ab a (p 2 1),ab c (p 3 1),aw w [] (0)],[])):=
 aA (orcs:=[]) aq 4 0 [1] [0,1,2,3] (fun _ _ _ _=>0) (hc:=aS (zv w _ _ _ _))
end
def cx (d:Int×Nat):Yd:=.int d.1 d.2
def eQ {δ : Type} (_ : δ) (a:Ye):Yd:=.ref (a 2)
def sI (f : δ→Yg) (d : δ) (a:Ye):Ya:=[aE (f d) fun i=>a (i+2)]
theorem vb {δ : Type} (f : δ→Yg):∀(b:List δ) (a:Ye),c0 eQ b a=aT (b.map f) a
 | [],_=>rfl
 | d::r,a=>by
  show Value.ref (ev a 2)::c0 eQ r (od a)=Value.ref (ev a 2)::aT (r.map f) (od a)
  rw [vb f r]
theorem vc {δ : Type} (f : δ→Yg):∀(b:List δ) (a:Ye),fN (sI f) b a=be (b.map f) a
 | [],_=>rfl
 | d::r,a=>by
  show aE (f d) (fun i=>ev a (i+2))::fN (sI f) r (od a)=aE (f d) (fun i=>ev a (i+2))::be (r.map f) (od a)
  rw [vc f r]
abbrev RD:=Yg×(Nat→Nat)
def b9:Yi→Ye→List RD
 | [],_=>[]
 | r::l,g=>(r,fun i=>ev g (i+2))::b9 l (od g)
def f3 (d:RD):Yd:=.ref (d.2 0)
def m2 (d:RD):Ya:=[aE d.1 d.2]
theorem f4:∀(R:Yi) (g:Ye),(b9 R g).length=R.length
 | [],_=>rfl
 | _::l,g=>by show (b9 l (od g)).length+1=_;rw [f4 l];rfl
theorem sJ:∀(R:Yi) (g:Ye),(b9 R g).map f3=aT R g
 | [],_=>rfl
 | r::l,g=>by show Value.ref (ev g 2)::(b9 l (od g)).map f3=Value.ref (ev g 2)::aT l (od g);rw [sJ l]
theorem iN:∀(R:Yi) (g:Ye) (d:RD),d∈b9 R g→aE d.1 d.2∈be R g∧d.1∈R
 | [],_,_,h=>by cases h
 | r::l,g,d,h=>by
  rcases List.mem_cons.mp h with rfl | h
  ·exact ⟨.head _,.head _⟩
  ·exact ⟨.tail _ (iN l (od g) d h).1,.tail _ (iN l (od g) d h).2⟩
theorem zz (f:Yg→Yg):∀(R:Yi) (g:Ye),(b9 R g).map (fun d=>f d.1)=R.map f
 | [],_=>rfl
 | r::l,g=>by show f r::(b9 l (od g)).map _=f r::l.map f;rw [zz f l]
section
end
def sK (l:Yb):Obj:={cls:=.type "tuple",data:=.seq l.toArray}
def m3 (a:Str):Str:=⟨(List.replicate ((a.length+2:Nat):Int).toNat ("/" : Str).cps).foldl (· ++ ·) #[]⟩
theorem q1:∀a∈aD,Txt.rfind ("/" ++ a) "/" = 0∧d8 ("/" ++ a) (some 1) none=a∧a.length≤1000∧d8 ("/" ++ a) none (some 1)="/" := by decide +kernel
theorem q2:∀a∈aD,∀d∈aD,Txt.rfind ("/" ++ a++("/" ++ d)) "/" = ((a.length+1:Nat):Int)∧d8 ("/" ++ a++("/" ++ d)) (some (((a.length+1:Nat):Int)+1)) none=d∧d8 ("/" ++ a++("/" ++ d)) none (some (((a.length+1:Nat):Int)+1))="/" ++ a++"/" := by decide +kernel
theorem q3:∀a∈aD,(("/" ++ a++"/").length:Int)=((a.length+2:Nat):Int)∧("/" ++ a++"/").length≤1000∧1<((a.length+2:Nat):Int)∧((a.length+2:Nat):Int)≤100∧(m3 a).length≤1000∧(("/" ++ a++"/").cps.toList != (m3 a).cps.toList)=true∧Txt.rstripChars ("/" ++ a++"/") "/" = "/" ++ a:=by decide +kernel
theorem F0 (b c:Bool) (w:Yc) (a:Str) (e:a∈aD) (p:af):aC (B0 (W b c w)) 2 (.call (.ref 250) ⟨[.str ("/" ++ a) (p 0 0)],[]⟩) [] (fun d=>(.ret (.str a (d 0)),[],[])):=
 aA (orcs:=[eb [] ("/" ++ a),jl [] ("/" ++ a),o2 "str.rfind" ("/" ++ a) "/" fun d=>.int 0 (d 0),ee 1 ("/" ++ a) (some 1) none a]) (aa (eO [] (by decide) ("/" ++ a) (by decide)) (aa (ka [] (by decide) ("/" ++ a) (by decide)) (aa (lO ((q1 a e).1)) (aa (fY (q1 a e).2.1 (q1 a e).2.2.1) aq)))) 76 4 [0,0,1,0,0,0,0,1,0,2,1,0,0,1,0,3,1,0,1,1,4,0,0,16,1,0,1,1,5] [] (fun n g f=>aB [(f 3).2.2 0])
theorem F1 (b c:Bool) (w:Yc) (a d:Str) (h:a∈aD) (g:d∈aD) (p:af):aC (B0 (W b c w)) 2 (.call (.ref 250) ⟨[.str ("/" ++ a++("/" ++ d)) (p 0 0)],[]⟩) [] (fun e=>(.ret (.str d (e 0)),[],[])):=
 aA (orcs:=[eb [] ("/" ++ a++("/" ++ d)),jl [] ("/" ++ a++("/" ++ d)),o2 "str.rfind" ("/" ++ a++("/" ++ d)) "/" fun e=>.int ((a.length+1:Nat):Int) (e 0),ee 1 ("/" ++ a++("/" ++ d)) (some (((a.length+1:Nat):Int)+1)) none d]) (aa (eO [] (by decide) ("/" ++ a++("/" ++ d)) (by decide)) (aa (ka [] (by decide) ("/" ++ a++("/" ++ d)) (by decide)) (aa (lO ((q2 a h d g).1)) (aa (fY (q2 a h d g).2.1 (q1 d g).2.2.1) aq)))) 76 4 [0,0,1,0,0,0,0,1,0,2,1,0,0,1,0,3,1,0,1,1,4,0,0,16,1,0,1,1,5] [] (fun n i f=>aB [(f 3).2.2 0])
theorem F2 (b c:Bool) (w:Yc) (a:Str) (e:a∈aD) (p:af):aC (B0 (W b c w)) 2 (.call (.ref 257) ⟨[.str ("/" ++ a) (p 0 0)],[]⟩) [] (fun d=>(.ret (.str "/" (d 0)),[],[])):=
 aA (orcs:=[eb [] ("/" ++ a),jl [] ("/" ++ a),o2 "str.rfind" ("/" ++ a) "/" fun d=>.int 0 (d 0),ee 1 ("/" ++ a) none (some 1) "/"]) (aa (eO [] (by decide) ("/" ++ a) (by decide)) (aa (ka [] (by decide) ("/" ++ a) (by decide)) (aa (lO ((q1 a e).1)) (aa (fY (q1 a e).2.2.2 (by decide +kernel)) aq)))) 133 4 [0,0,1,0,0,0,0,1,0,2,1,0,0,1,0,3,1,0,1,1,4,0,0,16,1,0,1,1,5,1,0,1,0,11,0,0,12,1,1,0,0,1,0,0,11,0,0,12,0,0,18,0,0,19,0,0,20,1] [] (fun n g f=>aB [(f 3).2.2 0])
theorem F3 (b c:Bool) (w:Yc) (a d:Str) (e:a∈aD) (h:d∈aD) (p:af):aC (B0 (W b c w)) 2 (.call (.ref 257) ⟨[.str ("/" ++ a++("/" ++ d)) (p 0 0)],[]⟩) [] (fun g=>(.ret (.str ("/" ++ a) (g 0)),[],[])):=
 aA (orcs:=[eb [] ("/" ++ a++("/" ++ d)),jl [] ("/" ++ a++("/" ++ d)),o2 "str.rfind" ("/" ++ a++("/" ++ d)) "/" fun g=>.int ((a.length+1:Nat):Int) (g 0),ee 1 ("/" ++ a++("/" ++ d)) none (some (((a.length+1:Nat):Int)+1)) ("/" ++ a++"/"),a9 ("/" ++ a++"/") ((a.length+2:Nat):Int),tP ("/" ++ a++"/") ((a.length+2:Nat):Int),tS "/" ((a.length+2:Nat):Int) (m3 a),o2 "str.__ne__" ("/" ++ a++"/") (m3 a) fun _=>.bool true,o2 "str.rstrip" ("/" ++ a++"/") "/" fun g=>.str ("/" ++ a) (g 0)]) (aa (eO [] (by decide) ("/" ++ a++("/" ++ d)) (by decide)) (aa (ka [] (by decide) ("/" ++ a++("/" ++ d)) (by decide)) (aa (lO ((q2 a e d h).1)) (aa (fY (q2 a e d h).2.2 (q3 a e).2.1) (aa (bb (q3 a e).1 (q3 a e).2.1) (aa (wZ (q3 a e).1 (q3 a e).2.1) (aa (w3 (q3 a e).2.2.1 (q3 a e).2.2.2.1 rfl (q3 a e).2.2.2.2.1) (aa (aQ ((q3 a e).2.2.2.2.2.1)) (aa (wY (q3 a e).2.2.2.2.2.2 (q3 a e).2.1) aq))))))))) 130 9 [0,0,1,0,0,0,0,1,0,2,1,0,0,1,0,3,1,0,1,1,4,0,0,16,1,0,1,1,5,1,0,1,6,1,1,0,0,1,7,0,0,18,8,9,1,1,10,1,0,1] [] (fun n i f=>aB [(f 8).2.2 0])
theorem F4 (b c:Bool) (w:Yc) (a:Str) (e:a∈aD) (p:af):aC (B0 (W b c w)) 2 (.call (.ref 236) ⟨[.str ("/" ++ a) (p 0 0)],[]⟩) [] (fun d=>(.ret (.ref (d 0)),[],[(d 0,sK [.str "/" (d 1),.str a (d 2)])])):=
 aA (orcs:=[eb [] ("/" ++ a),jl [] ("/" ++ a),o2 "str.rfind" ("/" ++ a) "/" fun d=>.int 0 (d 0),ee 1 ("/" ++ a) none (some 1) "/",ee 2 ("/" ++ a) (some 1) none a]) (aa (eO [] (by decide) ("/" ++ a) (by decide)) (aa (ka [] (by decide) ("/" ++ a) (by decide)) (aa (lO ((q1 a e).1)) (aa (fY (q1 a e).2.2.2 (by decide +kernel)) (aa (fY (q1 a e).2.1 (q1 a e).2.2.1) aq))))) 197 5 [0,0,1,0,0,0,0,1,0,2,1,0,0,1,0,3,1,0,1,1,4,0,0,16,1,0,1,1,5,1,1,6,4,4,4,0,4,0,8,5,5,0,5,0,9,5,5,4,5,4,5,0,5,0,9,5,5,4,5,4,5,0,5,0,9,5,5,4,5,4,7,1,0,1,0,1,0,11,0,0,12,1,1,0,0,1,0,0,11,0,0,12,0,0,18,0,0,19,0,0,20,1,1] [7] (fun n g f=>aB [(f 4).1+4,(f 3).2.2 0,(f 4).2.2 0])
theorem F5 (b c:Bool) (w:Yc) (a d:Str) (e:a∈aD) (h:d∈aD) (p:af):aC (B0 (W b c w)) 2 (.call (.ref 236) ⟨[.str ("/" ++ a++("/" ++ d)) (p 0 0)],[]⟩) [] (fun g=>(.ret (.ref (g 0)),[],[(g 0,sK [.str ("/" ++ a) (g 1),.str d (g 2)])])):=
 aA (orcs:=[eb [] ("/" ++ a++("/" ++ d)),jl [] ("/" ++ a++("/" ++ d)),o2 "str.rfind" ("/" ++ a++("/" ++ d)) "/" fun g=>.int ((a.length+1:Nat):Int) (g 0),ee 1 ("/" ++ a++("/" ++ d)) none (some (((a.length+1:Nat):Int)+1)) ("/" ++ a++"/"),ee 2 ("/" ++ a++("/" ++ d)) (some (((a.length+1:Nat):Int)+1)) none d,a9 ("/" ++ a++"/") ((a.length+2:Nat):Int),tP ("/" ++ a++"/") ((a.length+2:Nat):Int),tS "/" ((a.length+2:Nat):Int) (m3 a),o2 "str.__ne__" ("/" ++ a++"/") (m3 a) fun _=>.bool true,o2 "str.rstrip" ("/" ++ a++"/") "/" fun g=>.str ("/" ++ a) (g 0)]) (aa (eO [] (by decide) ("/" ++ a++("/" ++ d)) (by decide)) (aa (ka [] (by decide) ("/" ++ a++("/" ++ d)) (by decide)) (aa (lO ((q2 a e d h).1)) (aa (fY (q2 a e d h).2.2 (q3 a e).2.1) (aa (fY (q2 a e d h).2.1 (q1 d h).2.2.1) (aa (bb (q3 a e).1 (q3 a e).2.1) (aa (wZ (q3 a e).1 (q3 a e).2.1) (aa (w3 (q3 a e).2.2.1 (q3 a e).2.2.2.1 rfl (q3 a e).2.2.2.2.1) (aa (aQ ((q3 a e).2.2.2.2.2.1)) (aa (wY (q3 a e).2.2.2.2.2.2 (q3 a e).2.1) aq)))))))))) 194 10 [0,0,1,0,0,0,0,1,0,2,1,0,0,1,0,3,1,0,1,1,4,0,0,16,1,0,1,1,5,1,1,6,4,4,4,0,4,0,8,5,5,0,5,0,9,5,5,4,5,4,5,0,5,0,9,5,5,4,5,4,5,0,5,0,9,5,5,4,5,4,7,1,0,1,0,1,7,1,1,0,0,1,8,0,0,18,9,10,1,1,11,1,0,1,1] [7] (fun n i f=>aB [(f 9).1+0,(f 9).2.2 0,(f 4).2.2 0])
section
open PySem PySem.W PySem.W.X PyProof.Rows PySem.Builtin PySem.Builtin.Str
theorem n1:∀a∈aD,d8 ("/" ++ a) (some 1) (some 2)=d8 ("/" ++ a) (some 1) (some 2)∧(d8 ("/" ++ a) (some 1) (some 2)).length≤1000∧((d8 ("/" ++ a) (some 1) (some 2)).cps.toList != ("/" : Str).cps.toList)=true:=by decide +kernel
theorem n2:∀a∈aD,∀d∈aD,d8 ("/" ++ a++("/" ++ d)) none (some 1)="/"∧(d8 ("/" ++ a++("/" ++ d)) (some 1) (some 2)).length≤1000∧((d8 ("/" ++ a++("/" ++ d)) (some 1) (some 2)).cps.toList != ("/" : Str).cps.toList)=true∧d8 ("/" ++ a++("/" ++ d)) (some 1) none=a++("/" ++ d)∧(a++("/" ++ d)).length≤1000:=by decide +kernel
theorem n3:∀a∈aD,(a.length:Int)=((a.length-1+1:Nat):Int)∧(a.cps.toList==("." : Str).cps.toList)=false∧(a.cps.toList != (".." : Str).cps.toList)=true∧Txt.split a "/" = [a]∧(partsBetween a (occurrences a "/" 0 a.length (a.length+1)) ("/" : Str).length).length≤1000∧Txt.join "/" [a]=a∧JoinOk "/" [a]=true:=by decide +kernel
theorem n4:∀a∈aD,∀d∈aD,Txt.split (a++("/" ++ d)) "/" = [a,d]∧(partsBetween (a++("/" ++ d)) (occurrences (a++("/" ++ d)) "/" 0 (a++("/" ++ d)).length ((a++("/" ++ d)).length+1)) ("/" : Str).length).length≤1000∧Txt.join "/" [a,d]=a++("/" ++ d)∧JoinOk "/" [a,d]=true∧(("/" ++ a++("/" ++ d)).length:Int)=((a.length+d.length+1+1:Nat):Int):=by decide +kernel
theorem n5:∀a∈aD,∀d∈aD,"/" ++ (a++("/" ++ d))="/" ++ a++("/" ++ d)∧((a++("/" ++ d)).length==0)=false:=by decide +kernel
end
def zA (a:Str) (p:af):Code:=.call (.ref 243) ⟨[.str ("/" ++ a) (p 0 0)],[]⟩
def zB (a:Str) (p:af):Ya:=[]
def zC (a:Str) (p:af) (b:Ye):Flow×Yf×Ya:=(.ret (.ref (b 0)),[],[(b 0,sK [.str "" (b 1),.str "/" (b 2),.str a (b 3)])])
theorem F6 (b c:Bool) (w:Yc) (a:Str) (d:a∈aD) (p:af):aC (B0 (W b c w)) 2 (zA a p) (zB a p) (zC a p):=
 aA (orcs:=[eb [] ("/" ++ a),ee 1 ("/" ++ a) none (some 1) "/",ee 2 ("/" ++ a) (some 1) (some 2) (d8 ("/" ++ a) (some 1) (some 2)),o2 "str.__ne__" (d8 ("/" ++ a) (some 1) (some 2)) "/" fun _=>.bool true,ee 3 ("/" ++ a) (some 1) none a]) (aa (eO [] (by decide) ("/" ++ a) (by decide)) (aa (fY (q1 a d).2.2.2 (by decide +kernel)) (aa (fY rfl (n1 a d).2.1) (aa (aQ ((n1 a d).2.2)) (aa (fY (q1 a d).2.1 (q1 a d).2.2.1) aq))))) 113 5 [0,0,1,0,0,0,0,1,0,2,1,0,0,0,1,0,0,0,0,3,0,4,0,0,5,0,0,6,0,7,1,0,1,0,1,3,1,0,0,20,1,4,1,5,1,1,1,6] [4] (fun n e f=>aB [(f 4).1+0,(f 0).2.1+4,(f 0).2.1+2,(f 4).2.2 0])
def zD (b:Yh) (a:Str):aH:=bA (zA a) b (zB a) (zC a)
theorem F8 {b c:Bool} {w:Yc} {m:Nat} (d:Yh) (e:d.Nodup) (a:Str) (g:a∈aD) (f:2≤m):(zD d a).Sure (B0 (W b c w)) m:=
 (bS e fun p=>F6 b c w a g p).le f
def zE (a d:Str) (p:af):Code:=.call (.ref 243) ⟨[.str ("/" ++ a++("/" ++ d)) (p 0 0)],[]⟩
def zF (a d:Str) (p:af):Ya:=[]
def zG (a d:Str) (p:af) (b:Ye):Flow×Yf×Ya:=(.ret (.ref (b 0)),[],[(b 0,sK [.str "" (b 1),.str "/" (b 2),.str (a++("/" ++ d)) (b 3)])])
theorem F9 (b c:Bool) (w:Yc) (a d:Str) (g:a∈aD) (e:d∈aD) (p:af):aC (B0 (W b c w)) 2 (zE a d p) (zF a d p) (zG a d p):=
 aA (orcs:=[eb [] ("/" ++ a++("/" ++ d)),ee 1 ("/" ++ a++("/" ++ d)) none (some 1) "/",ee 2 ("/" ++ a++("/" ++ d)) (some 1) (some 2) (d8 ("/" ++ a++("/" ++ d)) (some 1) (some 2)),o2 "str.__ne__" (d8 ("/" ++ a++("/" ++ d)) (some 1) (some 2)) "/" fun _=>.bool true,ee 3 ("/" ++ a++("/" ++ d)) (some 1) none (a++("/" ++ d))]) (aa (eO [] (by decide) ("/" ++ a++("/" ++ d)) (by decide)) (aa (fY (n2 a g d e).1 (by decide +kernel)) (aa (fY rfl (n2 a g d e).2.1) (aa (aQ ((n2 a g d e).2.2.1)) (aa (fY (n2 a g d e).2.2.2.1 (n2 a g d e).2.2.2.2) aq))))) 113 5 [0,0,1,0,0,0,0,1,0,2,1,0,0,0,1,0,0,0,0,3,0,4,0,0,5,0,0,6,0,7,1,0,1,0,1,3,1,0,0,20,1,4,1,5,1,1,1,6] [4] (fun n h f=>aB [(f 4).1+0,(f 0).2.1+4,(f 0).2.1+2,(f 4).2.2 0])
def zH (b:Yh) (a d:Str):aH:=bA (zE a d) b (zF a d) (zG a d)
theorem Ga {b c:Bool} {w:Yc} {m:Nat} (e:Yh) (f:e.Nodup) (a d:Str) (i:a∈aD) (g:d∈aD) (h:2≤m):(zH e a d).Sure (B0 (W b c w)) m:=
 (bS f fun p=>F9 b c w a d i g p).le h
theorem Gb (b c:Bool) (w:Yc) (a:Str) (d:a∈aD) (p:af):aC (B0 (W b c w)) 3 (.call (.ref 264) ⟨[.str ("/" ++ a) (p 0 0)],[]⟩) [] (fun e=>(.ret (.str ("/" ++ a) (e 0)),[],[])):=
 aA (orcs:=[eb [] ("/" ++ a),a9 ("/" ++ a) ((a.length+1:Nat):Int),zD [] a,cb a "/" [a],a9 a ((a.length-1+1:Nat):Int),o2 "str.__eq__" a "." fun _=>.bool false,o2 "str.__ne__" a ".." fun _=>.bool true,bx 6 "/" [a] a,o2 "str.__add__" "/" a fun e=>.str ("/" ++ a) (e 0)]) (aa (eO [] (by decide) ("/" ++ a) (by decide)) (aa (bb (zj a d) (da a d).2.2) (aa (F8 [] (by decide) a d (by decide)) (aa (tR (n3 a d).2.2.2.1 (by decide +kernel) (q1 a d).2.2.1 (n3 a d).2.2.2.2.1) (aa (bb (n3 a d).1 (q1 a d).2.2.1) (aa (cv ((n3 a d).2.1)) (aa (aQ ((n3 a d).2.2.1)) (aa (bB (n3 a d).2.2.2.2.2.1 (n3 a d).2.2.2.2.2.2) (aa (fX rfl (by decide +kernel) (da a d).2.1 (da a d).2.2) aq))))))))) 328 10 [0,0,1,0,0,0,0,1,0,2,1,0,0,0,1,0,0,0,0,3,0,4,0,0,5,0,0,6,0,7,1,0,1,0,1,0,1,3,0,1,0,4,2,2,2,0,2,0,8,3,3,0,3,0,9,3,3,2,3,2,3,0,3,0,9,3,3,2,3,2,3,0,3,0,9,3,3,2,3,2,3,0,3,0,9,3,3,2,3,2,5,1,0,1,0,1,0,1,1,5,1,0,1,0,1,6,6,0,6,0,23,8,0,8,0,8,0,24,8,8,6,8,7,1,0,1,6,1,1,7,1,1,8,1,7,7,7,7,1,0,7,0,26,7,6,7,0,8,0,8,0,24,8,8,6,8,7,10,0,1,1,0,1,1,1,9,10,1,0,1,3] [] (fun n g f=>aB [(f 8).2.2 0])
theorem Gc (b c:Bool) (w:Yc) (a d:Str) (g:a∈aD) (e:d∈aD) (p:af):aC (B0 (W b c w)) 3 (.call (.ref 264) ⟨[.str ("/" ++ a++("/" ++ d)) (p 0 0)],[]⟩) [] (fun h=>(.ret (.str ("/" ++ a++("/" ++ d)) (h 0)),[],[])):=
 aA (orcs:=[eb [] ("/" ++ a++("/" ++ d)),a9 ("/" ++ a++("/" ++ d)) ((a.length+d.length+1+1:Nat):Int),zH [] a d,cb (a++("/" ++ d)) "/" [a,d],a9 a ((a.length-1+1:Nat):Int),o2 "str.__eq__" a "." fun _=>.bool false,o2 "str.__ne__" a ".." fun _=>.bool true,a9 d ((d.length-1+1:Nat):Int),o2 "str.__eq__" d "." fun _=>.bool false,o2 "str.__ne__" d ".." fun _=>.bool true,bx 6 "/" [a,d] (a++("/" ++ d)),o2 "str.__add__" "/" (a++("/" ++ d)) fun h=>.str ("/" ++ a++("/" ++ d)) (h 0)]) (aa (eO [] (by decide) ("/" ++ a++("/" ++ d)) (by decide)) (aa (bb (n4 a g d e).2.2.2.2 (pe a g d e)) (aa (Ga [] (by decide) a d g e (by decide)) (aa (tR (n4 a g d e).1 (by decide +kernel) (n2 a g d e).2.2.2.2 (n4 a g d e).2.1) (aa (bb (n3 a g).1 (q1 a g).2.2.1) (aa (cv ((n3 a g).2.1)) (aa (aQ ((n3 a g).2.2.1)) (aa (bb (n3 d e).1 (q1 d e).2.2.1) (aa (cv ((n3 d e).2.1)) (aa (aQ ((n3 d e).2.2.1)) (aa (bB (n4 a g d e).2.2.1 (n4 a g d e).2.2.2.1) (aa (fX (n5 a g d e).1 (by decide +kernel) (n5 a g d e).2 (pe a g d e)) aq)))))))))))) 387 13 [0,0,1,0,0,0,0,1,0,2,1,0,0,0,1,0,0,0,0,3,0,4,0,0,5,0,0,6,0,7,1,0,1,0,1,0,1,3,0,1,0,4,2,2,2,0,2,0,8,3,3,0,3,0,9,3,3,2,3,2,3,0,3,0,9,3,3,2,3,2,3,0,3,0,9,3,3,2,3,2,3,0,3,0,9,3,3,2,3,2,5,1,0,1,0,1,0,1,1,5,1,0,1,0,1,6,6,0,6,0,23,8,0,8,0,8,0,24,8,8,6,8,7,1,0,1,6,1,1,7,1,1,8,1,7,7,7,7,1,0,7,0,26,7,6,7,0,8,0,8,0,24,8,8,6,8,7,1,0,1,9,1,1,10,1,1,11,1,7,7,7,7,1,0,7,0,26,7,6,7,0,8,0,8,0,24,8,8,6,8,7,10,0,1,1,0,1,1,1,12,13,1,0,1,3] [] (fun n i f=>aB [(f 11).2.2 0])
section
variable {B:bf} {m:Nat}
def zI (l:Yb):Obj:=Obj.mapSeq (· ++ l.toArray) {cls:=.type "list",data:=.seq #[] 0}
def kd (j:Nat) (a:Yg):aH:=
 {code:=fun p=>.builtin "proto.collect" ⟨[.ref (p 1 0)],[]⟩,pl:=[j],objs:=fun p=>[(p 1 0,ab (dq p a 2) (p 1 1))],strm:=true,out:=fun p b=>(.ret (.ref (b 0)),[ab (dq p a 2) (p 1 1)],[(b 0,zI (dq p a 2))])}
theorem zJ (p:af):∀(l:Yg) (i:Nat),(dq p l i).length=l.length
 | [],_=>rfl
 | _::r,i=>by show (dq p r (i+1)).length+1=_;rw [zJ p r];rfl
theorem vd {j:Nat} {a:Yg} (hx:a.length≤1000):(kd j a).Sure B m:=by
 refine ⟨by simp [kd],fun p A _ h i y d D g I k Q E _ G _ H => ?_⟩
 have t:=(G _ (.head _)).1
 refine x_call (hd:=none) ?_ (by intro e;cases e)
 refine codeAny_builtin F.entry_proto_collect ?_
 rw [Around.under_plainId F.plain_proto_collect _]
 show wpAny _ A.in1 (newList [] >>= fun l=>again (.builtin "list.__iadd__" ⟨[l,.ref (p 1 0)],[]⟩)) _ _ _
 refine wpAny_bind (wpAny_newObj_type ?_)
 refine wpAny_pure ⟨plainId_quiet F.plain_list_iadd _,codeAny_builtin F.entry_list_iadd ?_⟩
 rw [Around.under_plainId F.plain_list_iadd _]
 show wpAny _ A.in1 (Builtin.List.listExtendWith (.ref h.objs.size) (.ref (p 1 0)) (.ref h.objs.size)) _ _ _
 have hS:(h.push {cls:=.type "list",data:=.seq ([]:Yb).toArray}).get? h.objs.size=some {cls:=.type "list",data:=.seq #[] 0}:=Heap.get?_push_size _ rfl
 have c:=Heap.get?_update_self (Obj.mapSeq (· ++ (dq p a 2).toArray)) hS rfl
 have hsz:(dq p a 2).toArray.size≤sizeLine:=by rw [List.size_toArray,zJ];exact Nat.le_trans hx (by decide)
 refine wpAny_extend_seq (hsz:=hsz) (A:=A) (R:=fun r z=>wpAny B.M A (k r) Q E z) (s:=⟨h.push {cls:=.type "list",data:=.seq ([]:Yb).toArray},y,d,i,D⟩) _ (p 1 0) _ 0 (.inl rfl) hS (o:=ab (dq p a 2) (p 1 1)) (n:=p 1 1) (Heap.get?_push_of_some _ t) rfl rfl ?_
 have u:∀b f,h.get? b=some f→((h.push {cls:=.type "list",data:=.seq ([]:Yb).toArray}).update h.objs.size (Obj.mapSeq (· ++ (dq p a 2).toArray))).get? b=some f:=fun b f q=>
  (Heap.get?_update_other _ _ (Nat.ne_of_gt (Heap.lt_size q))).trans (Heap.get?_push_of_some _ q)
 refine H _ i (fun _=>h.objs.size) (fun e=>by cases e) ?_ (fun b w e _=>u b w e) (fun x hx => ?_) (fun x hx => ?_) (by simp [kd])
 ·have C:=(Heap.SameBut.update (h.push {cls:=.type "list",data:=.seq ([]:Yb).toArray}) h.objs.size (Obj.mapSeq (· ++ (dq p a 2).toArray))).1
  rw [C,Heap.size_push];exact Nat.le_succ _
 ·have:x=(p 1 0,ab (dq p a 2) (p 1 1)):=by simpa [kd] using hx
  subst this
  exact u _ _ t
 ·have:x=(h.objs.size,zI (dq p a 2)):=by simpa [kd] using hx
  subst this
  exact ⟨c,Nat.le_refl _⟩
end

def zK (a:Str) (p:af):Code:=.call (.ref 286) ⟨[.ref (p 1 0)],[]⟩
def zL (a:Str) (p:af):Ya:=[(p 1 0,ab (dq p [a] 2) (p 1 1))]
def zM (a:Str) (p:af) (b:Ye):Flow×Yf×Ya:=(.ret (.str ("/" ++ a) (b 0)),[ab (dq p [a] 2) (p 1 1)],[])
theorem zN (b c:Bool) (w:Yc) (a:Str) (d:a∈aD) (p:af):aC (B0 (W b c w)) 3 (zK a p) (zL a p) (zM a p):=
 aA (orcs:=[kd 0 [a],zn [] a]) (aa (vd (by show 1≤1000;decide)) (aa (EF [] (by decide) a d (by decide)) aq)) 27 2 [0,0,2,1,0,0,0,2,1,2,3,0,3] [0] (fun n e f=>aB [(f 1).2.2 0])
def dy (b:Yh) (a:Str):aH:=bA (zK a) b (zL a) (zM a)
theorem dI {b c:Bool} {w:Yc} {m:Nat} (d:Yh) (e:d.Nodup) (a:Str) (g:a∈aD) (f:3≤m):(dy d a).Sure (B0 (W b c w)) m:=
 (bS e fun p=>zN b c w a g p).le f
def zO (a d:Str) (p:af):Code:=.call (.ref 286) ⟨[.ref (p 1 0)],[]⟩
def zP (a d:Str) (p:af):Ya:=[(p 1 0,ab (dq p [a,d] 2) (p 1 1))]
def zQ (a d:Str) (p:af) (b:Ye):Flow×Yf×Ya:=(.ret (.str ("/" ++ a++("/" ++ d)) (b 0)),[ab (dq p [a,d] 2) (p 1 1)],[])
theorem zR (b c:Bool) (w:Yc) (a d:Str) (g:a∈aD) (e:d∈aD) (p:af):aC (B0 (W b c w)) 3 (zO a d p) (zP a d p) (zQ a d p):=
 aA (orcs:=[kd 0 [a,d],zr [] a d]) (aa (vd (by show 2≤1000;decide)) (aa (EH [] (by decide) a d g e (by decide)) aq)) 27 2 [0,0,2,1,0,0,0,2,1,2,3,0,3] [0] (fun n h f=>aB [(f 1).2.2 0])
def dz (b:Yh) (a d:Str):aH:=bA (zO a d) b (zP a d) (zQ a d)
theorem dJ {b c:Bool} {w:Yc} {m:Nat} (e:Yh) (f:e.Nodup) (a d:Str) (i:a∈aD) (g:d∈aD) (h:3≤m):(dz e a d).Sure (B0 (W b c w)) m:=
 (bS f fun p=>zR b c w a d i g p).le h
def cB (r:Yg):Prop:=(∃a∈aD,r=[a])∨∃a∈aD,∃d∈aD,r=[a,d]
theorem ke:∀a∈b1,ao a∈aD:=by decide +kernel
theorem gF {r:Yg} (h:b7 r):cB (r.map ao):=by
 rcases h with ⟨a,b,rfl⟩ | ⟨a,b,d,c,rfl⟩
 ·exact .inl ⟨ao a,ke a b,rfl⟩
 ·exact .inr ⟨ao a,ke a b,ao d,ke d c,rfl⟩
def aU:Yg→Str
 | []=>"/"
 | [a]=>"/" ++ a
 | a::d::_=>"/" ++ a++("/" ++ d)
def m4:Yg→Str
 | a::_::_=>"/" ++ a
 | _=>"/"
def m7:Yg→Str
 | []=>""
 | [a]=>a
 | _::d::_=>d
def pn (r:Yg) (g:Ye) (j:Nat):aH:=bA (fun _=>.call (.ref 286) ⟨[.ref (g 0)],[]⟩) [j] (fun _=>[aE r g]) (fun _ a=>(.ret (.str (aU r) (a 0)),[(aE r g).2],[]))
theorem sM {b c:Bool} {w:Yc} {m:Nat} {r:Yg} {g:Nat→Nat} {j:Nat} (f:cB r) (k:3≤m):(pn r g j).Sure (B0 (W b c w)) m:=by
 refine (bS (by simp) fun p => ?_:aH.Sure (B0 (W b c w)) 3 _).le k
 rcases f with ⟨a,e,rfl⟩ | ⟨a,e,d,h,rfl⟩
 ·exact zN b c w a e fun j i=>match j,i with | 1,0=>g 0 | 1,1=>1 | 1,i+2=>g (i+1) | j,i=>p j i
 ·exact zR b c w a d e h fun j i=>match j,i with | 1,0=>g 0 | 1,1=>2 | 1,i+2=>g (i+1) | j,i=>p j i
def zS (r:Yg):aH:=bA (fun p=>.call (.ref 264) ⟨[.str (aU r) (p 0 0)],[]⟩) [] (fun _=>[]) (fun _ a=>(.ret (.str (aU r) (a 0)),[],[]))
theorem Gd {b c:Bool} {w:Yc} {m:Nat} {r:Yg} (f:cB r) (h:3≤m):(zS r).Sure (B0 (W b c w)) m:=by
 refine (bS (by simp) fun p => ?_:aH.Sure (B0 (W b c w)) 3 _).le h
 rcases f with ⟨a,e,rfl⟩ | ⟨a,e,d,g,rfl⟩
 ·exact Gb b c w a e p
 ·exact Gc b c w a d e g p
def ve (r:Yg):aH:=bA (fun p=>.call (.ref 257) ⟨[.str (aU r) (p 0 0)],[]⟩) [] (fun _=>[]) (fun _ a=>(.ret (.str (m4 r) (a 0)),[],[]))
theorem zT {b c:Bool} {w:Yc} {m:Nat} {r:Yg} (f:cB r) (h:2≤m):(ve r).Sure (B0 (W b c w)) m:=by
 refine (bS (by simp) fun p => ?_:aH.Sure (B0 (W b c w)) 2 _).le h
 rcases f with ⟨a,e,rfl⟩ | ⟨a,e,d,g,rfl⟩
 ·exact F2 b c w a e p
 ·exact F3 b c w a d e g p
def vf (r:Yg):aH:=bA (fun p=>.call (.ref 250) ⟨[.str (aU r) (p 0 0)],[]⟩) [] (fun _=>[]) (fun _ a=>(.ret (.str (m7 r) (a 0)),[],[]))
theorem zU {b c:Bool} {w:Yc} {m:Nat} {r:Yg} (f:cB r) (h:2≤m):(vf r).Sure (B0 (W b c w)) m:=by
 refine (bS (by simp) fun p => ?_:aH.Sure (B0 (W b c w)) 2 _).le h
 rcases f with ⟨a,e,rfl⟩ | ⟨a,e,d,g,rfl⟩
 ·exact F0 b c w a e p
 ·exact F1 b c w a d e g p
def zV (r:Yg):aH:=bA (fun p=>.call (.ref 236) ⟨[.str (aU r) (p 0 0)],[]⟩) [] (fun _=>[]) (fun _ a=>(.ret (.ref (a 0)),[],[(a 0,az [.str (m4 r) (a 1),.str (m7 r) (a 2)] 0)]))
theorem Ge {b c:Bool} {w:Yc} {m:Nat} {r:Yg} (f:cB r) (h:2≤m):(zV r).Sure (B0 (W b c w)) m:=by
 refine (bS (by simp) fun p => ?_:aH.Sure (B0 (W b c w)) 2 _).le h
 rcases f with ⟨a,e,rfl⟩ | ⟨a,e,d,g,rfl⟩
 ·exact F4 b c w a e p
 ·exact F5 b c w a d e g p
theorem Gf (b c:Bool) (w:Yc) (p:af):aC (B0 (W b c w)) 1 (.call (.ref 100) ⟨[.str "a" (p 0 0)],[]⟩) [] (fun a=>(.ret (.str "a" (a 0)),[],[])):=
 aA (orcs:=[]) aq 72 0 [0,0,1,0,0,0,1,0,0,70,1,0,0,0,0,0,0,0,1,0,0,0,71,0,0,0,0,72,0,0,2,1,2,2,0,0,27,2,2] [] (fun n d f=>aB [d+4])
theorem Gg (b c:Bool) (w:Yc) (p:af):aC (B0 (W b c w)) 1 (.call (.ref 100) ⟨[.str "=2F" (p 0 0)],[]⟩) [] (fun a=>(.ret (.str "/" (a 0)),[],[])):=
 aA (orcs:=[]) aq 181 0 [0,0,1,0,0,0,1,0,0,70,1,0,0,0,0,0,0,0,1,0,0,0,71,0,0,0,0,72,0,0,0,0,0,5,4,0,0,5,4,4,4,4,0,4,0,73,4,3,5,4,0,5,0,0,0,0,6,5,0,0,0,0,0,0,6,0,0,17,7,7,7,7,0,0,0,0,0,67,0,0,29,0,0,68,2,1,2,0,72,0,0,2,0,0,27,2,2] [] (fun n d f=>aB [d+14])
theorem Gh (b c:Bool) (w:Yc) (p:af):aC (B0 (W b c w)) 1 (.call (.ref 100) ⟨[.str "=2E" (p 0 0)],[]⟩) [] (fun a=>(.ret (.str "." (a 0)),[],[])):=
 aA (orcs:=[]) aq 181 0 [0,0,1,0,0,0,1,0,0,70,1,0,0,0,0,0,0,0,1,0,0,0,71,0,0,0,0,72,0,0,0,0,0,5,4,0,0,5,4,4,4,4,0,4,0,73,4,3,5,4,0,5,0,0,0,0,6,5,0,0,0,0,0,0,6,0,0,17,7,7,7,7,0,0,0,0,0,67,0,0,29,0,0,68,2,1,2,0,72,0,0,2,0,0,27,2,2] [] (fun n d f=>aB [d+14])
theorem Gi (b c:Bool) (w:Yc) (p:af):aC (B0 (W b c w)) 1 (.call (.ref 100) ⟨[.str "=3D" (p 0 0)],[]⟩) [] (fun a=>(.ret (.str "=" (a 0)),[],[])):=
 aA (orcs:=[]) aq 181 0 [0,0,1,0,0,0,1,0,0,70,1,0,0,0,0,0,0,0,1,0,0,0,71,0,0,0,0,72,0,0,0,0,0,5,4,0,0,5,4,4,4,4,0,4,0,73,4,3,5,4,0,5,0,0,0,0,6,5,0,0,0,0,0,0,6,0,0,17,7,7,7,7,0,0,0,0,0,67,0,0,29,0,0,68,2,1,2,0,72,0,0,2,0,0,27,2,2] [] (fun n d f=>aB [d+14])
theorem Gj (b c:Bool) (w:Yc) (p:af):aC (B0 (W b c w)) 1 (.call (.ref 100) ⟨[.str "=20" (p 0 0)],[]⟩) [] (fun a=>(.ret (.str " " (a 0)),[],[])):=
 aA (orcs:=[]) aq 181 0 [0,0,1,0,0,0,1,0,0,70,1,0,0,0,0,0,0,0,1,0,0,0,71,0,0,0,0,72,0,0,0,0,0,5,4,0,0,5,4,4,4,4,0,4,0,73,4,3,5,4,0,5,0,0,0,0,6,5,0,0,0,0,0,0,6,0,0,17,7,7,7,7,0,0,0,0,0,67,0,0,29,0,0,68,2,1,2,0,72,0,0,2,0,0,27,2,2] [] (fun n d f=>aB [d+14])
theorem Gk (b c:Bool) (w:Yc) (p:af):aC (B0 (W b c w)) 1 (.call (.ref 100) ⟨[.str "=E9" (p 0 0)],[]⟩) [] (fun a=>(.ret (.str "é" (a 0)),[],[])):=
 aA (orcs:=[]) aq 181 0 [0,0,1,0,0,0,1,0,0,70,1,0,0,0,0,0,0,0,1,0,0,0,71,0,0,0,0,72,0,0,0,0,0,5,4,0,0,5,4,4,4,4,0,4,0,73,4,3,5,4,0,5,0,0,0,0,6,5,0,0,0,0,0,0,6,0,0,17,7,7,7,7,0,0,0,0,0,67,0,0,29,0,0,68,2,1,2,0,72,0,0,2,0,0,27,2,2] [] (fun n d f=>aB [d+14])
theorem Gl (b c:Bool) (w:Yc) (p:af):aC (B0 (W b c w)) 1 (.call (.ref 100) ⟨[.str "a=2F" (p 0 0)],[]⟩) [] (fun a=>(.ret (.str "a/" (a 0)),[],[])):=
 aA (orcs:=[]) aq 185 0 [0,0,1,0,0,0,1,0,0,70,1,0,0,0,0,0,0,0,1,0,0,0,71,0,0,0,0,72,0,0,2,1,2,0,0,0,5,4,0,0,5,4,4,4,4,0,4,0,73,4,3,5,4,0,5,0,0,0,0,6,5,0,0,0,0,0,0,6,0,0,17,7,7,7,7,0,0,0,0,0,67,0,0,29,0,0,68,2,1,2,0,72,0,0,2,0,0,27,2,2] [] (fun n d f=>aB [d+17])
theorem Gm (b c:Bool) (w:Yc) (p:af):aC (B0 (W b c w)) 1 (.call (.ref 100) ⟨[.str "=2F=2E" (p 0 0)],[]⟩) [] (fun a=>(.ret (.str "/." (a 0)),[],[])):=
 aA (orcs:=[]) aq 294 0 [0,0,1,0,0,0,1,0,0,70,1,0,0,0,0,0,0,0,1,0,0,0,71,0,0,0,0,72,0,0,0,0,0,5,4,0,0,5,4,4,4,4,0,4,0,73,4,3,5,4,0,5,0,0,0,0,6,5,0,0,0,0,0,0,6,0,0,17,7,7,7,7,0,0,0,0,0,67,0,0,29,0,0,68,2,1,2,0,72,0,0,0,0,0,10,9,0,0,10,9,9,9,9,0,9,0,73,9,8,10,9,0,10,0,0,0,0,11,10,0,0,0,0,0,0,11,0,0,17,12,12,12,12,0,0,0,0,0,67,0,0,29,0,0,68,2,1,2,0,72,0,0,2,0,0,27,2,2] [] (fun n d f=>aB [d+27])
theorem Gn (b c:Bool) (w:Yc) (p:af):aC (B0 (W b c w)) 1 (.call (.ref 100) ⟨[.str "=2E=3D" (p 0 0)],[]⟩) [] (fun a=>(.ret (.str ".=" (a 0)),[],[])):=
 aA (orcs:=[]) aq 294 0 [0,0,1,0,0,0,1,0,0,70,1,0,0,0,0,0,0,0,1,0,0,0,71,0,0,0,0,72,0,0,0,0,0,5,4,0,0,5,4,4,4,4,0,4,0,73,4,3,5,4,0,5,0,0,0,0,6,5,0,0,0,0,0,0,6,0,0,17,7,7,7,7,0,0,0,0,0,67,0,0,29,0,0,68,2,1,2,0,72,0,0,0,0,0,10,9,0,0,10,9,9,9,9,0,9,0,73,9,8,10,9,0,10,0,0,0,0,11,10,0,0,0,0,0,0,11,0,0,17,12,12,12,12,0,0,0,0,0,67,0,0,29,0,0,68,2,1,2,0,72,0,0,2,0,0,27,2,2] [] (fun n d f=>aB [d+27])
theorem Go (b c:Bool) (w:Yc) (p:af):aC (B0 (W b c w)) 1 (.call (.ref 100) ⟨[.str "=3D=20" (p 0 0)],[]⟩) [] (fun a=>(.ret (.str "= " (a 0)),[],[])):=
 aA (orcs:=[]) aq 294 0 [0,0,1,0,0,0,1,0,0,70,1,0,0,0,0,0,0,0,1,0,0,0,71,0,0,0,0,72,0,0,0,0,0,5,4,0,0,5,4,4,4,4,0,4,0,73,4,3,5,4,0,5,0,0,0,0,6,5,0,0,0,0,0,0,6,0,0,17,7,7,7,7,0,0,0,0,0,67,0,0,29,0,0,68,2,1,2,0,72,0,0,0,0,0,10,9,0,0,10,9,9,9,9,0,9,0,73,9,8,10,9,0,10,0,0,0,0,11,10,0,0,0,0,0,0,11,0,0,17,12,12,12,12,0,0,0,0,0,67,0,0,29,0,0,68,2,1,2,0,72,0,0,2,0,0,27,2,2] [] (fun n d f=>aB [d+27])
theorem Gp (b c:Bool) (w:Yc) (p:af):aC (B0 (W b c w)) 1 (.call (.ref 100) ⟨[.str "=20=E9" (p 0 0)],[]⟩) [] (fun a=>(.ret (.str " é" (a 0)),[],[])):=
 aA (orcs:=[]) aq 294 0 [0,0,1,0,0,0,1,0,0,70,1,0,0,0,0,0,0,0,1,0,0,0,71,0,0,0,0,72,0,0,0,0,0,5,4,0,0,5,4,4,4,4,0,4,0,73,4,3,5,4,0,5,0,0,0,0,6,5,0,0,0,0,0,0,6,0,0,17,7,7,7,7,0,0,0,0,0,67,0,0,29,0,0,68,2,1,2,0,72,0,0,0,0,0,10,9,0,0,10,9,9,9,9,0,9,0,73,9,8,10,9,0,10,0,0,0,0,11,10,0,0,0,0,0,0,11,0,0,17,12,12,12,12,0,0,0,0,0,67,0,0,29,0,0,68,2,1,2,0,72,0,0,2,0,0,27,2,2] [] (fun n d f=>aB [d+27])
theorem Gq (b c:Bool) (w:Yc) (p:af):aC (B0 (W b c w)) 1 (.call (.ref 100) ⟨[.str "=E9a" (p 0 0)],[]⟩) [] (fun a=>(.ret (.str "éa" (a 0)),[],[])):=
 aA (orcs:=[]) aq 185 0 [0,0,1,0,0,0,1,0,0,70,1,0,0,0,0,0,0,0,1,0,0,0,71,0,0,0,0,72,0,0,0,0,0,5,4,0,0,5,4,4,4,4,0,4,0,73,4,3,5,4,0,5,0,0,0,0,6,5,0,0,0,0,0,0,6,0,0,17,7,7,7,7,0,0,0,0,0,67,0,0,29,0,0,68,2,1,2,0,72,0,0,2,1,2,2,0,0,27,2,2] [] (fun n d f=>aB [d+17])
def sN (a:Str) (p:af):Code:=.call (.ref 100) ⟨[.str a (p 0 0)],[]⟩
theorem g0 {B:bf} {x y:Str} {p:af} (e:b4 x=y) (D:aC B 1 (sN x p) [] (gB y)):aC B 1 (sN x p) [] (gB (b4 x)):=by
 rw [e];exact D
theorem Gr (b c:Bool) (w:Yc) (p:af):∀a∈aD.tail,aC (B0 (W b c w)) 1 (sN a p) [] (gB (b4 a)):=by
 unfold aD
 rw [List.tail_cons]
 refine fc (g0 (y:="a") (by decide +kernel) (Gf b c w p)) ?_
 refine fc (g0 (y:="/") (by decide +kernel) (Gg b c w p)) ?_
 refine fc (g0 (y:=".") (by decide +kernel) (Gh b c w p)) ?_
 refine fc (g0 (y:="=") (by decide +kernel) (Gi b c w p)) ?_
 refine fc (g0 (y:=" ") (by decide +kernel) (Gj b c w p)) ?_
 refine fc (g0 (y:="é") (by decide +kernel) (Gk b c w p)) ?_
 refine fc (g0 (y:="a/") (by decide +kernel) (Gl b c w p)) ?_
 refine fc (g0 (y:="/.") (by decide +kernel) (Gm b c w p)) ?_
 refine fc (g0 (y:=".=") (by decide +kernel) (Gn b c w p)) ?_
 refine fc (g0 (y:="= ") (by decide +kernel) (Go b c w p)) ?_
 refine fc (g0 (y:=" é") (by decide +kernel) (Gp b c w p)) ?_
 refine fc (g0 (y:="éa") (by decide +kernel) (Gq b c w p)) ?_
 exact fn
def ie (a:Str):aH:=bA (sN a) [] (fun _=>[]) fun _ b=>gB (b4 a) b
theorem iO {b c:Bool} {w:Yc} {m:Nat} (a:Str) (e:a∈aD.tail) (d:1≤m):(ie a).Sure (B0 (W b c w)) m:=
 (bS (by decide) fun p=>Gr b c w p a e).le d
noncomputable def aJ (v:Yd):Obj:={cls:=.type "cell",data:=.cell (some v)}
noncomputable def ba (a b:Nat):Obj:={cls:=.type "zip",data:=.fields #[.none,.bool false,.bool false,.ref a,.ref b]}
def bj (c:Code) (g f b h:Nat) (i:Yh):Code:=match c with
 | .compStart e d _ _ a=>.compStart e d (.ref g) (.ref f) {a with locals:=b,frame:=some h,cells:=ph a.cells i}
 | _=>.call .none ⟨[],[]⟩
def bI (c:Code) (g f b h:Nat) (i:Yh):Code:=match c with
 | .compStart e d _ _ a=>.compLoop e d (.ref g) (.ref f) {a with locals:=b,frame:=some h,cells:=ph a.cells i}
 | _=>.call .none ⟨[],[]⟩
def jr (c:Code) (e a:Nat) (f:Yh):Code:=match c with
 | .forLoop t _ b o d=>.forLoop t (.ref e) b o {d with locals:=a,frame:=some a,cells:=ph d.cells f}
 | _=>.call .none ⟨[],[]⟩
theorem bv (c:Code) (d b a e:Nat) (f:Yh):hY (bj c d b a e f)=false:=by cases c <;> rfl
theorem dK (c:Code) (d b a e:Nat) (f:Yh):hY (bI c d b a e f)=false:=by cases c <;> rfl
theorem sO (c:Code) (b a:Nat) (d:Yh):hY (jr c b a d)=false:=by cases c <;> rfl
def js:Pos:=⟨0,0,0,0⟩
def fT:Code→Expr
 | .forLoop t _ _ _ _=>t
 | _=>.Tuple [] 0 js
def fB:Code→List Stmt
 | .forLoop _ _ b _ _=>b
 | _=>[]
def fO:Code→List Stmt
 | .forLoop _ _ _ o _=>o
 | _=>[]
def fE:Code→Env
 | .forLoop _ _ _ _ e=>e
 | _=>default
def sQ:Code→Bool
 | .forLoop _ _ _ _ _=>true
 | _=>false
def m9 (c:Code) (a:Nat) (b:Yh):Env:={fE c with locals:=a,frame:=some a,cells:=ph (fE c).cells b}
theorem vg {c:Code} (h:sQ c=true) (b a:Nat) (d:Yh):jr c b a d = .forLoop (fT c) (.ref b) (fB c) (fO c) (m9 c a d):=by
 cases c <;> first | rfl | cases h
def gG:List Stmt→Nat→Stmt
 | [],_=>.Pass js
 | s::l,i=>match i with
  | 0=>s
  | j+1=>gG l j
def cW:List Expr→Nat→Expr
 | [],_=>.Tuple [] 0 js
 | s::l,i=>match i with
  | 0=>s
  | j+1=>cW l j
def bN:Stmt→Expr
 | .If t _ _ _=>t
 | _=>.Tuple [] 0 js
def po:Stmt→List Stmt
 | .If _ b _ _=>b
 | _=>[]
def pp:Stmt→Pos
 | .If _ _ _ p=>p
 | _=>js
def c1:Expr→List Expr
 | .BoolOp _ l _=>l
 | _=>[]
def vh:Expr→Pos
 | .BoolOp _ _ p=>p
 | _=>js
def d1:Expr→Expr
 | .Compare l _ _ _=>l
 | e=>e
def db:Expr→Expr
 | .Compare _ _ [r] _=>r
 | e=>e
def na:Expr→Pos
 | .Compare _ _ _ p=>p
 | _=>js
def nb:Expr→List Expr
 | .Tuple l _ _=>l
 | _=>[]
def zX:Option cZ→Code
 | some o=>match o.r with
  | .again c=>c
  | _=>.call .none ⟨[],[]⟩
 | none=>.call .none ⟨[],[]⟩
def iP:Code→List Stmt
 | .func b _=>b
 | _=>[]
def vj:Code→Env
 | .func _ e=>e
 | _=>default
def vk (s:Stmt) (e:Env):Code:=match s with
 | .For t _ b o _=>.forLoop t .none b o e
 | _=>.call .none ⟨[],[]⟩
def Gs:Stmt→Expr
 | .Assign _ v _=>v
 | _=>.Tuple [] 0 js
def vl:Expr→Expr
 | .ListComp e _ _ _=>e
 | e=>e
def Gu:Expr→Expr
 | .IfExp _ _ o _=>o
 | e=>e
def Gv:Expr→Expr
 | .Call _ (a::_) _ _=>a
 | e=>e
def zY:Yg→List (Str×Addr)
 | []=>[]
 | n::l=>(n,0)::zY l
def zZ (n:Str):Yg→Bool
 | []=>false
 | m::l=>n==m||zZ n l
def z0 (a:Yg):List (Str×NameKind)→List (Str×NameKind)
 | []=>[]
 | (n,k)::l=>(match k==NameKind.free&&zZ n a with | true=>(n,.cell) | false=>(n,k))::z0 a l
def Gw (b:Yg):Expr→Scope
 | .ListComp _ _ s _=>{s with names:=z0 b s.names}
 | _=>default
def Gx:Code→Env
 | .compStart _ _ _ _ e=>e
 | _=>default
section
def ig (w:Yc):Code:=zX (gv false false w [] 14 [0,0,2,1,0,1] 0 (fun _=>(0,0,id)) u3 u4 1000 0)
def kf (w:Yc) (e:Expr) (b:Yg):Code:=.compStart e 0 .none .none {Gx (fL w) with scope:=Gw b e,cells:=zY b}
def vm (w:Yc):Expr:=db (bN (gG (iP (ig w)) 3))
def de (w:Yc):Code:=vk (gG (iP (ig w)) 5) (vj (ig w))
def g3 (w:Yc):Code:=kf w (vm w) ["signs"]
def cC (w:Yc):Code:=kf w (vl (vm w)) ["signs"]
def c2 (w:Yc):Code:=kf w (Gv (Gu (vl (vl (vm w))))) ["signs"]
def pq (w:Yc):Code:=kf w (d1 (cW (c1 (bN (gG (fB (de w)) 1))) 1)) []
def gH (w:Yc):Code:=kf w (d1 (bN (gG (fB (de w)) 3))) []
def gI (w:Yc):Code:=kf w (db (bN (gG (fB (de w)) 3))) []
def g4 (w:Yc):Code:=kf w (Gs (gG (iP (ig w)) 6)) []
def gJ (w:Yc):Code:=kf w (d1 (cW (c1 (bN (gG (iP (ig w)) 7))) 1)) ["heap"]
def cn (w:Yc):Code:=vk (gG (iP (ig w)) 8) (vj (ig w))
end
section
theorem Gy (b:Bool) (w:Yc) (a:Str) (e:a∈aD) (p:af):aC (B0 (W b false w)) 2 (bj (pq w) (p 1 0) (p 3 0) (p 4 0) (p 5 0) []) [(p 1 0,am (.ref (p 2 0)) 0),(p 2 0,ab [.str a (p 2 2)] (p 2 1)),(p 3 0,ab [] 0),(p 4 0,aw w [] (0))] (fun c=>(.next,[am .none 1,ab [.str a (p 2 2)] (p 2 1),ab [.str (b4 a) (c 1)] 1,aw w [("part",c 0,.str a (p 2 2))] (1)],[])):=
 aA (orcs:=[jm a]) (aa (kb a e (by decide)) aq) 65 1 [1,1,0,1,0,43,1,0,1,0,1,0,24,1,1,2,1,0,4,3,0,4,0,2,0,3,0,26,3,2,3,0,1,0,1,0,24,1,1,2,1,0,6] [0,1,2,3] (fun n d f=>aB [d+0,(f 0).2.2 0]) (hc:=aS (bv _ _ _ _ _ _))
theorem Gz (b:Bool) (w:Yc) (a d:Str) (h:a∈aD) (e:d∈aD) (p:af):aC (B0 (W b false w)) 2 (bj (pq w) (p 1 0) (p 3 0) (p 4 0) (p 5 0) []) [(p 1 0,am (.ref (p 2 0)) 0),(p 2 0,ab [.str a (p 2 2),.str d (p 2 3)] (p 2 1)),(p 3 0,ab [] 0),(p 4 0,aw w [] (0))] (fun c=>(.next,[am .none 2,ab [.str a (p 2 2),.str d (p 2 3)] (p 2 1),ab [.str (b4 a) (c 1),.str (b4 d) (c 2)] 2,aw w [("part",c 0,.str d (p 2 3))] (1)],[])):=
 aA (orcs:=[jm a,jm d]) (aa (kb a h (by decide)) (aa (kb d e (by decide)) aq)) 99 2 [1,1,0,1,0,43,1,0,1,0,1,0,24,1,1,2,1,0,4,3,0,4,0,2,0,3,0,26,3,2,3,0,1,0,1,0,24,1,1,2,1,0,4,3,0,4,0,3,0,3,0,26,3,2,3,0,1,0,1,0,24,1,1,2,1,0,6] [0,1,2,3] (fun n g f=>aB [g+0,(f 0).2.2 0,(f 1).2.2 0]) (hc:=aS (bv _ _ _ _ _ _))
theorem GA (b:Bool) (w:Yc) (a:Str) (e:(a.cps.toList != ("=" : Str).cps.toList)=false) (p:af):aC (B0 (W b false w)) 2 (bj (gH w) (p 1 0) (p 3 0) (p 4 0) (p 5 0) []) [(p 1 0,am (.ref (p 2 0)) 0),(p 2 0,ab [.str a (p 2 2)] (p 2 1)),(p 3 0,ab [] 0),(p 4 0,aw w [] (0))] (fun c=>(.next,[am .none 1,ab [.str a (p 2 2)] (p 2 1),ab [] 0,aw w [("part",c 0,.str a (p 2 2))] (1)],[])):=
 aA (orcs:=[o2 "str.__ne__" a "=" fun _=>.bool false]) (aa (aQ e) aq) 56 1 [1,1,0,1,0,43,1,0,1,0,1,0,24,1,1,2,1,0,4,3,4,2,0,1,0,1,0,24,1,1,2,1,0,6] [0,1,2,3] (fun n d f=>aB [d+0]) (hc:=aS (bv _ _ _ _ _ _))
theorem GB (b:Bool) (w:Yc) (a:Str) (e:(a.cps.toList != ("" : Str).cps.toList)=false) (p:af):aC (B0 (W b false w)) 2 (bj (gI w) (p 1 0) (p 3 0) (p 4 0) (p 5 0) []) [(p 1 0,am (.ref (p 2 0)) 0),(p 2 0,ab [.str a (p 2 2)] (p 2 1)),(p 3 0,ab [] 0),(p 4 0,aw w [] (0))] (fun c=>(.next,[am .none 1,ab [.str a (p 2 2)] (p 2 1),ab [] 0,aw w [("name",c 0,.str a (p 2 2))] (1)],[])):=
 aA (orcs:=[o2 "str.__ne__" a "" fun _=>.bool false]) (aa (aQ e) aq) 56 1 [1,1,0,1,0,43,1,0,1,0,1,0,24,1,1,2,1,0,4,3,4,2,0,1,0,1,0,24,1,1,2,1,0,6] [0,1,2,3] (fun n d f=>aB [d+0]) (hc:=aS (bv _ _ _ _ _ _))
theorem GC (b:Bool) (w:Yc) (a d:Str) (g:(a.cps.toList != ("=" : Str).cps.toList)=false) (nd:(d.cps.toList != ("=" : Str).cps.toList)=false) (p:af):aC (B0 (W b false w)) 2 (bj (gH w) (p 1 0) (p 3 0) (p 4 0) (p 5 0) []) [(p 1 0,am (.ref (p 2 0)) 0),(p 2 0,ab [.str a (p 2 2),.str d (p 2 3)] (p 2 1)),(p 3 0,ab [] 0),(p 4 0,aw w [] (0))] (fun c=>(.next,[am .none 2,ab [.str a (p 2 2),.str d (p 2 3)] (p 2 1),ab [] 0,aw w [("part",c 0,.str d (p 2 3))] (1)],[])):=
 aA (orcs:=[o2 "str.__ne__" a "=" fun _=>.bool false,o2 "str.__ne__" d "=" fun _=>.bool false]) (aa (aQ g) (aa (aQ nd) aq)) 81 2 [1,1,0,1,0,43,1,0,1,0,1,0,24,1,1,2,1,0,4,3,4,2,0,1,0,1,0,24,1,1,2,1,0,4,3,4,3,0,1,0,1,0,24,1,1,2,1,0,6] [0,1,2,3] (fun n e f=>aB [e+0]) (hc:=aS (bv _ _ _ _ _ _))
theorem GD (b:Bool) (w:Yc) (a d:Str) (g:(a.cps.toList != ("" : Str).cps.toList)=false) (nd:(d.cps.toList != ("" : Str).cps.toList)=false) (p:af):aC (B0 (W b false w)) 2 (bj (gI w) (p 1 0) (p 3 0) (p 4 0) (p 5 0) []) [(p 1 0,am (.ref (p 2 0)) 0),(p 2 0,ab [.str a (p 2 2),.str d (p 2 3)] (p 2 1)),(p 3 0,ab [] 0),(p 4 0,aw w [] (0))] (fun c=>(.next,[am .none 2,ab [.str a (p 2 2),.str d (p 2 3)] (p 2 1),ab [] 0,aw w [("name",c 0,.str d (p 2 3))] (1)],[])):=
 aA (orcs:=[o2 "str.__ne__" a "" fun _=>.bool false,o2 "str.__ne__" d "" fun _=>.bool false]) (aa (aQ g) (aa (aQ nd) aq)) 81 2 [1,1,0,1,0,43,1,0,1,0,1,0,24,1,1,2,1,0,4,3,4,2,0,1,0,1,0,24,1,1,2,1,0,4,3,4,3,0,1,0,1,0,24,1,1,2,1,0,6] [0,1,2,3] (fun n e f=>aB [e+0]) (hc:=aS (bv _ _ _ _ _ _))
theorem GE (b:Bool) (w:Yc) (a d:Str) (h:(a.cps.toList != ("=" : Str).cps.toList)=false) (nd:(d.cps.toList != ("=" : Str).cps.toList)=true) (e:d∈aD.tail) (p:af):aC (B0 (W b false w)) 2 (bj (gH w) (p 1 0) (p 3 0) (p 4 0) (p 5 0) []) [(p 1 0,am (.ref (p 2 0)) 0),(p 2 0,ab [.str a (p 2 2),.str d (p 2 3)] (p 2 1)),(p 3 0,ab [] 0),(p 4 0,aw w [] (0))] (fun c=>(.next,[am .none 2,ab [.str a (p 2 2),.str d (p 2 3)] (p 2 1),ab [.str (b4 d) (c 1)] 1,aw w [("part",c 0,.str d (p 2 3))] (1)],[])):=
 aA (orcs:=[o2 "str.__ne__" a "=" fun _=>.bool false,o2 "str.__ne__" d "=" fun _=>.bool true,ie d]) (aa (aQ h) (aa (aQ nd) (aa (iO d e (by decide)) aq))) 96 3 [1,1,0,1,0,43,1,0,1,0,1,0,24,1,1,2,1,0,4,3,4,2,0,1,0,1,0,24,1,1,2,1,0,4,3,4,3,0,4,0,4,0,3,0,26,3,2,3,0,1,0,1,0,24,1,1,2,1,0,6] [0,1,2,3] (fun n g f=>aB [g+0,(f 2).2.2 0]) (hc:=aS (bv _ _ _ _ _ _))
theorem GF (b:Bool) (w:Yc) (a d:Str) (g:(a.cps.toList != ("" : Str).cps.toList)=false) (nd:(d.cps.toList != ("" : Str).cps.toList)=true) (p:af):aC (B0 (W b false w)) 2 (bj (gI w) (p 1 0) (p 3 0) (p 4 0) (p 5 0) []) [(p 1 0,am (.ref (p 2 0)) 0),(p 2 0,ab [.str a (p 2 2),.str d (p 2 3)] (p 2 1)),(p 3 0,ab [] 0),(p 4 0,aw w [] (0))] (fun c=>(.next,[am .none 2,ab [.str a (p 2 2),.str d (p 2 3)] (p 2 1),ab [.str d (p 2 3)] 1,aw w [("name",c 0,.str d (p 2 3))] (1)],[])):=
 aA (orcs:=[o2 "str.__ne__" a "" fun _=>.bool false,o2 "str.__ne__" d "" fun _=>.bool true]) (aa (aQ g) (aa (aQ nd) aq)) 90 2 [1,1,0,1,0,43,1,0,1,0,1,0,24,1,1,2,1,0,4,3,4,2,0,1,0,1,0,24,1,1,2,1,0,4,3,4,3,4,0,3,0,26,3,2,3,0,1,0,1,0,24,1,1,2,1,0,6] [0,1,2,3] (fun n e f=>aB [e+0]) (hc:=aS (bv _ _ _ _ _ _))
theorem GG (b:Bool) (w:Yc) (a:Str) (e:(a.cps.toList != ("=" : Str).cps.toList)=true) (g:a∈aD.tail) (p:af):aC (B0 (W b false w)) 2 (bj (gH w) (p 1 0) (p 3 0) (p 4 0) (p 5 0) []) [(p 1 0,am (.ref (p 2 0)) 0),(p 2 0,ab [.str a (p 2 2)] (p 2 1)),(p 3 0,ab [] 0),(p 4 0,aw w [] (0))] (fun c=>(.next,[am .none 1,ab [.str a (p 2 2)] (p 2 1),ab [.str (b4 a) (c 1)] 1,aw w [("part",c 0,.str a (p 2 2))] (1)],[])):=
 aA (orcs:=[o2 "str.__ne__" a "=" fun _=>.bool true,ie a]) (aa (aQ e) (aa (iO a g (by decide)) aq)) 71 2 [1,1,0,1,0,43,1,0,1,0,1,0,24,1,1,2,1,0,4,3,4,2,0,4,0,3,0,3,0,26,3,2,3,0,1,0,1,0,24,1,1,2,1,0,6] [0,1,2,3] (fun n d f=>aB [d+0,(f 1).2.2 0]) (hc:=aS (bv _ _ _ _ _ _))
theorem GH (b:Bool) (w:Yc) (a:Str) (e:(a.cps.toList != ("" : Str).cps.toList)=true) (p:af):aC (B0 (W b false w)) 2 (bj (gI w) (p 1 0) (p 3 0) (p 4 0) (p 5 0) []) [(p 1 0,am (.ref (p 2 0)) 0),(p 2 0,ab [.str a (p 2 2)] (p 2 1)),(p 3 0,ab [] 0),(p 4 0,aw w [] (0))] (fun c=>(.next,[am .none 1,ab [.str a (p 2 2)] (p 2 1),ab [.str a (p 2 2)] 1,aw w [("name",c 0,.str a (p 2 2))] (1)],[])):=
 aA (orcs:=[o2 "str.__ne__" a "" fun _=>.bool true]) (aa (aQ e) aq) 65 1 [1,1,0,1,0,43,1,0,1,0,1,0,24,1,1,2,1,0,4,3,4,2,4,0,3,0,26,3,2,3,0,1,0,1,0,24,1,1,2,1,0,6] [0,1,2,3] (fun n d f=>aB [d+0]) (hc:=aS (bv _ _ _ _ _ _))
theorem GI (b:Bool) (w:Yc) (a d:Str) (g:(a.cps.toList != ("=" : Str).cps.toList)=true) (h:a∈aD.tail) (nd:(d.cps.toList != ("=" : Str).cps.toList)=false) (p:af):aC (B0 (W b false w)) 2 (bj (gH w) (p 1 0) (p 3 0) (p 4 0) (p 5 0) []) [(p 1 0,am (.ref (p 2 0)) 0),(p 2 0,ab [.str a (p 2 2),.str d (p 2 3)] (p 2 1)),(p 3 0,ab [] 0),(p 4 0,aw w [] (0))] (fun c=>(.next,[am .none 2,ab [.str a (p 2 2),.str d (p 2 3)] (p 2 1),ab [.str (b4 a) (c 1)] 1,aw w [("part",c 0,.str d (p 2 3))] (1)],[])):=
 aA (orcs:=[o2 "str.__ne__" a "=" fun _=>.bool true,ie a,o2 "str.__ne__" d "=" fun _=>.bool false]) (aa (aQ g) (aa (iO a h (by decide)) (aa (aQ nd) aq))) 96 3 [1,1,0,1,0,43,1,0,1,0,1,0,24,1,1,2,1,0,4,3,4,2,0,4,0,3,0,3,0,26,3,2,3,0,1,0,1,0,24,1,1,2,1,0,4,3,4,4,0,1,0,1,0,24,1,1,2,1,0,6] [0,1,2,3] (fun n e f=>aB [e+0,(f 1).2.2 0]) (hc:=aS (bv _ _ _ _ _ _))
theorem GJ (b:Bool) (w:Yc) (a d:Str) (g:(a.cps.toList != ("" : Str).cps.toList)=true) (nd:(d.cps.toList != ("" : Str).cps.toList)=false) (p:af):aC (B0 (W b false w)) 2 (bj (gI w) (p 1 0) (p 3 0) (p 4 0) (p 5 0) []) [(p 1 0,am (.ref (p 2 0)) 0),(p 2 0,ab [.str a (p 2 2),.str d (p 2 3)] (p 2 1)),(p 3 0,ab [] 0),(p 4 0,aw w [] (0))] (fun c=>(.next,[am .none 2,ab [.str a (p 2 2),.str d (p 2 3)] (p 2 1),ab [.str a (p 2 2)] 1,aw w [("name",c 0,.str d (p 2 3))] (1)],[])):=
 aA (orcs:=[o2 "str.__ne__" a "" fun _=>.bool true,o2 "str.__ne__" d "" fun _=>.bool false]) (aa (aQ g) (aa (aQ nd) aq)) 90 2 [1,1,0,1,0,43,1,0,1,0,1,0,24,1,1,2,1,0,4,3,4,2,4,0,3,0,26,3,2,3,0,1,0,1,0,24,1,1,2,1,0,4,3,4,3,0,1,0,1,0,24,1,1,2,1,0,6] [0,1,2,3] (fun n e f=>aB [e+0]) (hc:=aS (bv _ _ _ _ _ _))
theorem GK (b:Bool) (w:Yc) (a d:Str) (h:(a.cps.toList != ("=" : Str).cps.toList)=true) (i:a∈aD.tail) (nd:(d.cps.toList != ("=" : Str).cps.toList)=true) (e:d∈aD.tail) (p:af):aC (B0 (W b false w)) 2 (bj (gH w) (p 1 0) (p 3 0) (p 4 0) (p 5 0) []) [(p 1 0,am (.ref (p 2 0)) 0),(p 2 0,ab [.str a (p 2 2),.str d (p 2 3)] (p 2 1)),(p 3 0,ab [] 0),(p 4 0,aw w [] (0))] (fun c=>(.next,[am .none 2,ab [.str a (p 2 2),.str d (p 2 3)] (p 2 1),ab [.str (b4 a) (c 1),.str (b4 d) (c 2)] 2,aw w [("part",c 0,.str d (p 2 3))] (1)],[])):=
 aA (orcs:=[o2 "str.__ne__" a "=" fun _=>.bool true,ie a,o2 "str.__ne__" d "=" fun _=>.bool true,ie d]) (aa (aQ h) (aa (iO a i (by decide)) (aa (aQ nd) (aa (iO d e (by decide)) aq)))) 111 4 [1,1,0,1,0,43,1,0,1,0,1,0,24,1,1,2,1,0,4,3,4,2,0,4,0,3,0,3,0,26,3,2,3,0,1,0,1,0,24,1,1,2,1,0,4,3,4,4,0,4,0,5,0,3,0,26,3,2,3,0,1,0,1,0,24,1,1,2,1,0,6] [0,1,2,3] (fun n g f=>aB [g+0,(f 1).2.2 0,(f 3).2.2 0]) (hc:=aS (bv _ _ _ _ _ _))
theorem GL (b:Bool) (w:Yc) (a d:Str) (g:(a.cps.toList != ("" : Str).cps.toList)=true) (nd:(d.cps.toList != ("" : Str).cps.toList)=true) (p:af):aC (B0 (W b false w)) 2 (bj (gI w) (p 1 0) (p 3 0) (p 4 0) (p 5 0) []) [(p 1 0,am (.ref (p 2 0)) 0),(p 2 0,ab [.str a (p 2 2),.str d (p 2 3)] (p 2 1)),(p 3 0,ab [] 0),(p 4 0,aw w [] (0))] (fun c=>(.next,[am .none 2,ab [.str a (p 2 2),.str d (p 2 3)] (p 2 1),ab [.str a (p 2 2),.str d (p 2 3)] 2,aw w [("name",c 0,.str d (p 2 3))] (1)],[])):=
 aA (orcs:=[o2 "str.__ne__" a "" fun _=>.bool true,o2 "str.__ne__" d "" fun _=>.bool true]) (aa (aQ g) (aa (aQ nd) aq)) 99 2 [1,1,0,1,0,43,1,0,1,0,1,0,24,1,1,2,1,0,4,3,4,2,4,0,3,0,26,3,2,3,0,1,0,1,0,24,1,1,2,1,0,4,3,4,3,4,0,3,0,26,3,2,3,0,1,0,1,0,24,1,1,2,1,0,6] [0,1,2,3] (fun n e f=>aB [e+0]) (hc:=aS (bv _ _ _ _ _ _))
theorem GM (b:Bool) (w:Yc) (a:Str) (e:a∈aD) (p:af):aC (B0 (W b true w)) 2 (bj (pq w) (p 1 0) (p 3 0) (p 4 0) (p 5 0) []) [(p 1 0,am (.ref (p 2 0)) 0),(p 2 0,ab [.str a (p 2 2)] (p 2 1)),(p 3 0,ab [] 0),(p 4 0,aw w [] (0))] (fun c=>(.next,[am .none 1,ab [.str a (p 2 2)] (p 2 1),ab [.str (b4 a) (c 1)] 1,aw w [("part",c 0,.str a (p 2 2))] (1)],[])):=
 aA (orcs:=[jm a]) (aa (kb a e (by decide)) aq) 55 1 [0,1,0,1,0,24,1,1,2,1,0,4,3,0,4,0,2,0,3,0,26,3,2,3,0,1,0,1,0,24,1,1,2,1,0,6] [0,1,2,3] (fun n d f=>aB [d+0,(f 0).2.2 0]) (hc:=aS (bv _ _ _ _ _ _))
theorem GN (b:Bool) (w:Yc) (a d:Str) (h:a∈aD) (e:d∈aD) (p:af):aC (B0 (W b true w)) 2 (bj (pq w) (p 1 0) (p 3 0) (p 4 0) (p 5 0) []) [(p 1 0,am (.ref (p 2 0)) 0),(p 2 0,ab [.str a (p 2 2),.str d (p 2 3)] (p 2 1)),(p 3 0,ab [] 0),(p 4 0,aw w [] (0))] (fun c=>(.next,[am .none 2,ab [.str a (p 2 2),.str d (p 2 3)] (p 2 1),ab [.str (b4 a) (c 1),.str (b4 d) (c 2)] 2,aw w [("part",c 0,.str d (p 2 3))] (1)],[])):=
 aA (orcs:=[jm a,jm d]) (aa (kb a h (by decide)) (aa (kb d e (by decide)) aq)) 89 2 [0,1,0,1,0,24,1,1,2,1,0,4,3,0,4,0,2,0,3,0,26,3,2,3,0,1,0,1,0,24,1,1,2,1,0,4,3,0,4,0,3,0,3,0,26,3,2,3,0,1,0,1,0,24,1,1,2,1,0,6] [0,1,2,3] (fun n g f=>aB [g+0,(f 0).2.2 0,(f 1).2.2 0]) (hc:=aS (bv _ _ _ _ _ _))
theorem GO (b:Bool) (w:Yc) (a:Str) (e:(a.cps.toList != ("=" : Str).cps.toList)=false) (p:af):aC (B0 (W b true w)) 2 (bj (gH w) (p 1 0) (p 3 0) (p 4 0) (p 5 0) []) [(p 1 0,am (.ref (p 2 0)) 0),(p 2 0,ab [.str a (p 2 2)] (p 2 1)),(p 3 0,ab [] 0),(p 4 0,aw w [] (0))] (fun c=>(.next,[am .none 1,ab [.str a (p 2 2)] (p 2 1),ab [] 0,aw w [("part",c 0,.str a (p 2 2))] (1)],[])):=
 aA (orcs:=[o2 "str.__ne__" a "=" fun _=>.bool false]) (aa (aQ e) aq) 46 1 [0,1,0,1,0,24,1,1,2,1,0,4,3,4,2,0,1,0,1,0,24,1,1,2,1,0,6] [0,1,2,3] (fun n d f=>aB [d+0]) (hc:=aS (bv _ _ _ _ _ _))
theorem GP (b:Bool) (w:Yc) (a:Str) (e:(a.cps.toList != ("" : Str).cps.toList)=false) (p:af):aC (B0 (W b true w)) 2 (bj (gI w) (p 1 0) (p 3 0) (p 4 0) (p 5 0) []) [(p 1 0,am (.ref (p 2 0)) 0),(p 2 0,ab [.str a (p 2 2)] (p 2 1)),(p 3 0,ab [] 0),(p 4 0,aw w [] (0))] (fun c=>(.next,[am .none 1,ab [.str a (p 2 2)] (p 2 1),ab [] 0,aw w [("name",c 0,.str a (p 2 2))] (1)],[])):=
 aA (orcs:=[o2 "str.__ne__" a "" fun _=>.bool false]) (aa (aQ e) aq) 46 1 [0,1,0,1,0,24,1,1,2,1,0,4,3,4,2,0,1,0,1,0,24,1,1,2,1,0,6] [0,1,2,3] (fun n d f=>aB [d+0]) (hc:=aS (bv _ _ _ _ _ _))
theorem GQ (b:Bool) (w:Yc) (a d:Str) (g:(a.cps.toList != ("=" : Str).cps.toList)=false) (nd:(d.cps.toList != ("=" : Str).cps.toList)=false) (p:af):aC (B0 (W b true w)) 2 (bj (gH w) (p 1 0) (p 3 0) (p 4 0) (p 5 0) []) [(p 1 0,am (.ref (p 2 0)) 0),(p 2 0,ab [.str a (p 2 2),.str d (p 2 3)] (p 2 1)),(p 3 0,ab [] 0),(p 4 0,aw w [] (0))] (fun c=>(.next,[am .none 2,ab [.str a (p 2 2),.str d (p 2 3)] (p 2 1),ab [] 0,aw w [("part",c 0,.str d (p 2 3))] (1)],[])):=
 aA (orcs:=[o2 "str.__ne__" a "=" fun _=>.bool false,o2 "str.__ne__" d "=" fun _=>.bool false]) (aa (aQ g) (aa (aQ nd) aq)) 71 2 [0,1,0,1,0,24,1,1,2,1,0,4,3,4,2,0,1,0,1,0,24,1,1,2,1,0,4,3,4,3,0,1,0,1,0,24,1,1,2,1,0,6] [0,1,2,3] (fun n e f=>aB [e+0]) (hc:=aS (bv _ _ _ _ _ _))
theorem GR (b:Bool) (w:Yc) (a d:Str) (g:(a.cps.toList != ("" : Str).cps.toList)=false) (nd:(d.cps.toList != ("" : Str).cps.toList)=false) (p:af):aC (B0 (W b true w)) 2 (bj (gI w) (p 1 0) (p 3 0) (p 4 0) (p 5 0) []) [(p 1 0,am (.ref (p 2 0)) 0),(p 2 0,ab [.str a (p 2 2),.str d (p 2 3)] (p 2 1)),(p 3 0,ab [] 0),(p 4 0,aw w [] (0))] (fun c=>(.next,[am .none 2,ab [.str a (p 2 2),.str d (p 2 3)] (p 2 1),ab [] 0,aw w [("name",c 0,.str d (p 2 3))] (1)],[])):=
 aA (orcs:=[o2 "str.__ne__" a "" fun _=>.bool false,o2 "str.__ne__" d "" fun _=>.bool false]) (aa (aQ g) (aa (aQ nd) aq)) 71 2 [0,1,0,1,0,24,1,1,2,1,0,4,3,4,2,0,1,0,1,0,24,1,1,2,1,0,4,3,4,3,0,1,0,1,0,24,1,1,2,1,0,6] [0,1,2,3] (fun n e f=>aB [e+0]) (hc:=aS (bv _ _ _ _ _ _))
theorem GS (b:Bool) (w:Yc) (a d:Str) (h:(a.cps.toList != ("=" : Str).cps.toList)=false) (nd:(d.cps.toList != ("=" : Str).cps.toList)=true) (e:d∈aD.tail) (p:af):aC (B0 (W b true w)) 2 (bj (gH w) (p 1 0) (p 3 0) (p 4 0) (p 5 0) []) [(p 1 0,am (.ref (p 2 0)) 0),(p 2 0,ab [.str a (p 2 2),.str d (p 2 3)] (p 2 1)),(p 3 0,ab [] 0),(p 4 0,aw w [] (0))] (fun c=>(.next,[am .none 2,ab [.str a (p 2 2),.str d (p 2 3)] (p 2 1),ab [.str (b4 d) (c 1)] 1,aw w [("part",c 0,.str d (p 2 3))] (1)],[])):=
 aA (orcs:=[o2 "str.__ne__" a "=" fun _=>.bool false,o2 "str.__ne__" d "=" fun _=>.bool true,ie d]) (aa (aQ h) (aa (aQ nd) (aa (iO d e (by decide)) aq))) 86 3 [0,1,0,1,0,24,1,1,2,1,0,4,3,4,2,0,1,0,1,0,24,1,1,2,1,0,4,3,4,3,0,4,0,4,0,3,0,26,3,2,3,0,1,0,1,0,24,1,1,2,1,0,6] [0,1,2,3] (fun n g f=>aB [g+0,(f 2).2.2 0]) (hc:=aS (bv _ _ _ _ _ _))
theorem GT (b:Bool) (w:Yc) (a d:Str) (g:(a.cps.toList != ("" : Str).cps.toList)=false) (nd:(d.cps.toList != ("" : Str).cps.toList)=true) (p:af):aC (B0 (W b true w)) 2 (bj (gI w) (p 1 0) (p 3 0) (p 4 0) (p 5 0) []) [(p 1 0,am (.ref (p 2 0)) 0),(p 2 0,ab [.str a (p 2 2),.str d (p 2 3)] (p 2 1)),(p 3 0,ab [] 0),(p 4 0,aw w [] (0))] (fun c=>(.next,[am .none 2,ab [.str a (p 2 2),.str d (p 2 3)] (p 2 1),ab [.str d (p 2 3)] 1,aw w [("name",c 0,.str d (p 2 3))] (1)],[])):=
 aA (orcs:=[o2 "str.__ne__" a "" fun _=>.bool false,o2 "str.__ne__" d "" fun _=>.bool true]) (aa (aQ g) (aa (aQ nd) aq)) 80 2 [0,1,0,1,0,24,1,1,2,1,0,4,3,4,2,0,1,0,1,0,24,1,1,2,1,0,4,3,4,3,4,0,3,0,26,3,2,3,0,1,0,1,0,24,1,1,2,1,0,6] [0,1,2,3] (fun n e f=>aB [e+0]) (hc:=aS (bv _ _ _ _ _ _))
theorem GU (b:Bool) (w:Yc) (a:Str) (e:(a.cps.toList != ("=" : Str).cps.toList)=true) (g:a∈aD.tail) (p:af):aC (B0 (W b true w)) 2 (bj (gH w) (p 1 0) (p 3 0) (p 4 0) (p 5 0) []) [(p 1 0,am (.ref (p 2 0)) 0),(p 2 0,ab [.str a (p 2 2)] (p 2 1)),(p 3 0,ab [] 0),(p 4 0,aw w [] (0))] (fun c=>(.next,[am .none 1,ab [.str a (p 2 2)] (p 2 1),ab [.str (b4 a) (c 1)] 1,aw w [("part",c 0,.str a (p 2 2))] (1)],[])):=
 aA (orcs:=[o2 "str.__ne__" a "=" fun _=>.bool true,ie a]) (aa (aQ e) (aa (iO a g (by decide)) aq)) 61 2 [0,1,0,1,0,24,1,1,2,1,0,4,3,4,2,0,4,0,3,0,3,0,26,3,2,3,0,1,0,1,0,24,1,1,2,1,0,6] [0,1,2,3] (fun n d f=>aB [d+0,(f 1).2.2 0]) (hc:=aS (bv _ _ _ _ _ _))
theorem GV (b:Bool) (w:Yc) (a:Str) (e:(a.cps.toList != ("" : Str).cps.toList)=true) (p:af):aC (B0 (W b true w)) 2 (bj (gI w) (p 1 0) (p 3 0) (p 4 0) (p 5 0) []) [(p 1 0,am (.ref (p 2 0)) 0),(p 2 0,ab [.str a (p 2 2)] (p 2 1)),(p 3 0,ab [] 0),(p 4 0,aw w [] (0))] (fun c=>(.next,[am .none 1,ab [.str a (p 2 2)] (p 2 1),ab [.str a (p 2 2)] 1,aw w [("name",c 0,.str a (p 2 2))] (1)],[])):=
 aA (orcs:=[o2 "str.__ne__" a "" fun _=>.bool true]) (aa (aQ e) aq) 55 1 [0,1,0,1,0,24,1,1,2,1,0,4,3,4,2,4,0,3,0,26,3,2,3,0,1,0,1,0,24,1,1,2,1,0,6] [0,1,2,3] (fun n d f=>aB [d+0]) (hc:=aS (bv _ _ _ _ _ _))
theorem GW (b:Bool) (w:Yc) (a d:Str) (g:(a.cps.toList != ("=" : Str).cps.toList)=true) (h:a∈aD.tail) (nd:(d.cps.toList != ("=" : Str).cps.toList)=false) (p:af):aC (B0 (W b true w)) 2 (bj (gH w) (p 1 0) (p 3 0) (p 4 0) (p 5 0) []) [(p 1 0,am (.ref (p 2 0)) 0),(p 2 0,ab [.str a (p 2 2),.str d (p 2 3)] (p 2 1)),(p 3 0,ab [] 0),(p 4 0,aw w [] (0))] (fun c=>(.next,[am .none 2,ab [.str a (p 2 2),.str d (p 2 3)] (p 2 1),ab [.str (b4 a) (c 1)] 1,aw w [("part",c 0,.str d (p 2 3))] (1)],[])):=
 aA (orcs:=[o2 "str.__ne__" a "=" fun _=>.bool true,ie a,o2 "str.__ne__" d "=" fun _=>.bool false]) (aa (aQ g) (aa (iO a h (by decide)) (aa (aQ nd) aq))) 86 3 [0,1,0,1,0,24,1,1,2,1,0,4,3,4,2,0,4,0,3,0,3,0,26,3,2,3,0,1,0,1,0,24,1,1,2,1,0,4,3,4,4,0,1,0,1,0,24,1,1,2,1,0,6] [0,1,2,3] (fun n e f=>aB [e+0,(f 1).2.2 0]) (hc:=aS (bv _ _ _ _ _ _))
theorem GX (b:Bool) (w:Yc) (a d:Str) (g:(a.cps.toList != ("" : Str).cps.toList)=true) (nd:(d.cps.toList != ("" : Str).cps.toList)=false) (p:af):aC (B0 (W b true w)) 2 (bj (gI w) (p 1 0) (p 3 0) (p 4 0) (p 5 0) []) [(p 1 0,am (.ref (p 2 0)) 0),(p 2 0,ab [.str a (p 2 2),.str d (p 2 3)] (p 2 1)),(p 3 0,ab [] 0),(p 4 0,aw w [] (0))] (fun c=>(.next,[am .none 2,ab [.str a (p 2 2),.str d (p 2 3)] (p 2 1),ab [.str a (p 2 2)] 1,aw w [("name",c 0,.str d (p 2 3))] (1)],[])):=
 aA (orcs:=[o2 "str.__ne__" a "" fun _=>.bool true,o2 "str.__ne__" d "" fun _=>.bool false]) (aa (aQ g) (aa (aQ nd) aq)) 80 2 [0,1,0,1,0,24,1,1,2,1,0,4,3,4,2,4,0,3,0,26,3,2,3,0,1,0,1,0,24,1,1,2,1,0,4,3,4,3,0,1,0,1,0,24,1,1,2,1,0,6] [0,1,2,3] (fun n e f=>aB [e+0]) (hc:=aS (bv _ _ _ _ _ _))
theorem GY (b:Bool) (w:Yc) (a d:Str) (h:(a.cps.toList != ("=" : Str).cps.toList)=true) (i:a∈aD.tail) (nd:(d.cps.toList != ("=" : Str).cps.toList)=true) (e:d∈aD.tail) (p:af):aC (B0 (W b true w)) 2 (bj (gH w) (p 1 0) (p 3 0) (p 4 0) (p 5 0) []) [(p 1 0,am (.ref (p 2 0)) 0),(p 2 0,ab [.str a (p 2 2),.str d (p 2 3)] (p 2 1)),(p 3 0,ab [] 0),(p 4 0,aw w [] (0))] (fun c=>(.next,[am .none 2,ab [.str a (p 2 2),.str d (p 2 3)] (p 2 1),ab [.str (b4 a) (c 1),.str (b4 d) (c 2)] 2,aw w [("part",c 0,.str d (p 2 3))] (1)],[])):=
 aA (orcs:=[o2 "str.__ne__" a "=" fun _=>.bool true,ie a,o2 "str.__ne__" d "=" fun _=>.bool true,ie d]) (aa (aQ h) (aa (iO a i (by decide)) (aa (aQ nd) (aa (iO d e (by decide)) aq)))) 101 4 [0,1,0,1,0,24,1,1,2,1,0,4,3,4,2,0,4,0,3,0,3,0,26,3,2,3,0,1,0,1,0,24,1,1,2,1,0,4,3,4,4,0,4,0,5,0,3,0,26,3,2,3,0,1,0,1,0,24,1,1,2,1,0,6] [0,1,2,3] (fun n g f=>aB [g+0,(f 1).2.2 0,(f 3).2.2 0]) (hc:=aS (bv _ _ _ _ _ _))
theorem GZ (b:Bool) (w:Yc) (a d:Str) (g:(a.cps.toList != ("" : Str).cps.toList)=true) (nd:(d.cps.toList != ("" : Str).cps.toList)=true) (p:af):aC (B0 (W b true w)) 2 (bj (gI w) (p 1 0) (p 3 0) (p 4 0) (p 5 0) []) [(p 1 0,am (.ref (p 2 0)) 0),(p 2 0,ab [.str a (p 2 2),.str d (p 2 3)] (p 2 1)),(p 3 0,ab [] 0),(p 4 0,aw w [] (0))] (fun c=>(.next,[am .none 2,ab [.str a (p 2 2),.str d (p 2 3)] (p 2 1),ab [.str a (p 2 2),.str d (p 2 3)] 2,aw w [("name",c 0,.str d (p 2 3))] (1)],[])):=
 aA (orcs:=[o2 "str.__ne__" a "" fun _=>.bool true,o2 "str.__ne__" d "" fun _=>.bool true]) (aa (aQ g) (aa (aQ nd) aq)) 89 2 [0,1,0,1,0,24,1,1,2,1,0,4,3,4,2,4,0,3,0,26,3,2,3,0,1,0,1,0,24,1,1,2,1,0,4,3,4,3,4,0,3,0,26,3,2,3,0,1,0,1,0,24,1,1,2,1,0,6] [0,1,2,3] (fun n e f=>aB [e+0]) (hc:=aS (bv _ _ _ _ _ _))
end
section
open SeqAt MeetsSeq3
def sR (l u:Option Int) (a b:Nat):Obj:={cls:=.type "slice",data:=.fields #[jS l a,jS u b,.none]}
theorem z1 (i:Option Int) (t:Nat):IsPart (jS i t) i:=by
 cases i with
 | none=>exact .none
 | some i=>exact .int i t
section
variable {B:bf} {m:Nat}
def c3 (b c:Nat) (vs:af→Yb) (l u:Option Int) (d:af→Yb):aH:=
 {code:=fun p=>.call (.builtin "list.__getitem__") ⟨[.ref (p 1 0),.ref (p 2 0)],[]⟩,pl:=[b,c],objs:=fun p=>[(p 1 0,ab (vs p) (p 1 1)),(p 2 0,sR l u (p 2 1) (p 2 2))],strm:=true,
  out:=fun p a=>(.ret (.ref (a 0)),[ab (vs p) (p 1 1),sR l u (p 2 1) (p 2 2)],[(a 0,ab (d p) 0)])}
theorem dA {w t:Nat} {vs f:af→Yb} {l u:Option Int} (D:w≠t) (G:∀p,(vs p).length≤1000) (e:∀p,slicePick (vs p).toArray l u none=(f p).toArray):(c3 w t vs l u f).Sure B m:=by
 refine ⟨by simp [c3,D],fun p A I h c j d n g K k Q E nd C _ H=>d7 ?_⟩
 have s:h.get? (p 1 0)=some (ab (vs p) (p 1 1)):=(C _ (.head _)).1
 have a:h.get? (p 2 0)=some (sR l u (p 2 1) (p 2 2)):=(C _ (.tail _ (.head _))).1
 have hT:Shared.TypeIs ⟨h,j,d,c,n⟩ (.ref (p 2 0)) "slice" := ⟨_,a,rfl⟩
 refine wpAny_call_entry slot_list_getitem (show Shared.TypeIs ⟨h,j,d,c,n⟩ (.ref (p 1 0)) "list" from ⟨_,s,rfl⟩) entry_list_getitem ?_ (args_list_getitem _ _)
 show wpAny _ _ (Builtin.List.listSubscript? (.ref (p 2 0)) >>= _) _ _ _
 refine wpAny_bind ?_
 unfold Builtin.List.listSubscript?
 refine wpAny_bind (wpAny_specialOf hT slice_no_index ?_)
 simp only [Option.isNone_none,if_true]
 refine wpAny_pure ?_
 show wpAny _ _ (typeOf (.ref (p 2 0)) >>= _) _ _ _
 refine wpAny_bind (wpAny_typeOf hT ?_)
 rw [if_neg (by decide),listSliceParts_eq]
 refine wpAny_bind (wpAny_bind (wpAny_field a rfl (x:=.none) rfl (wpAny_bind (wpAny_listPart .none ?_))))
 rw [if_neg (show ¬((rawPart none==rawInt 0)=true) from Bool.false_ne_true)]
 refine wpAny_bind (wpAny_field a rfl (x:=jS l (p 2 1)) rfl (wpAny_bind (wpAny_listPart (z1 l _) ?_)))
 refine wpAny_bind (wpAny_field a rfl (x:=jS u (p 2 2)) rfl (wpAny_bind (wpAny_listPart (z1 u _) (wpAny_pure ?_))))
 refine wpAny_bind (m:=Builtin.List.listItems (.ref (p 1 0))) ?_
 unfold Builtin.List.listItems
 refine wpAny_bind (wpAny_seqItems s rfl (wpAny_pure ?_))
 refine wpAny_bind (wpAny_of_eq (sliceIndices_raw l u none (vs p).toArray.size (by simp)) ?_)
 refine wpAny_bind (wpAny_newObj_type (wpAny_pure ⟨_,rfl,?_⟩) (Nat.le_trans (slicePick_size_le (vs p).toArray l u none) (by rw [List.size_toArray];exact Nat.le_trans (G p) (by decide))))
 have o:∀(z:Array Yd),z=(f p).toArray→wpAny B.M A (k (.ok (.ret (.ref h.objs.size)))) Q E ⟨h.push {cls:=.type "list",data:=.seq z},j,d,c,n⟩:=fun z F=>by
  subst F
  refine H _ c (fun _=>h.objs.size) (fun e=>by cases e) (by rw [Heap.size_push];exact Nat.le_succ _) (fun b J q _=>Heap.get?_push_of_some _ q) (fun y i => ?_) (fun y i => ?_) (by simp [c3])
  ·have:y=(p 1 0,ab (vs p) (p 1 1))∨y=(p 2 0,sR l u (p 2 1) (p 2 2)):=by simpa [c3] using i
   rcases this with rfl | rfl
   ·exact Heap.get?_push_of_some _ s
   ·exact Heap.get?_push_of_some _ a
  ·have:y=(h.objs.size,ab (f p) 0):=by simpa [c3] using i
   subst this
   exact ⟨Heap.get?_push_size _ rfl,Nat.le_refl _⟩
 exact o _ (e p)
end
end
section
variable {B:bf} {m:Nat}
theorem nc {x y:Int} {b:Bool} (e:decide (x > y)=b):(i2 "int.__gt__" x y fun _=>.bool b).Sure B m:=
 lh F.slot_int_gt F.entry_int_gt (fun _=>F.args_int_gt_2 _ _) (fun _=>gives_int_gt _ _ _ _) fun _ s _ h=>by rw [e];exact h id s.toks
theorem f5 {x y:Int} {b:Bool} (e:decide (x<y)=b):(i2 "int.__lt__" x y fun _=>.bool b).Sure B m:=
 lh F.slot_int_lt F.entry_int_lt (fun _=>F.args_int_lt_2 _ _) (fun _=>gives_int_lt _ _ _ _) fun _ s _ h=>by rw [e];exact h id s.toks
def kg (a k:Int):Prop:=((1:Int)≥((Builtin.Int.intBits a:Nat):Int)∧(if a<0 then (-1:Int) else 0)=k)∨(¬(1:Int)≥((Builtin.Int.intBits a:Nat):Int)∧a.fdiv (2 ^ (1:Int).toNat)=k)
theorem sT {a k:Int} (h:kg a k):(i2 "int.__rshift__" a 1 fun b=>.int k (b 0)).Sure B m:=by
 rcases h with ⟨h,e⟩ | ⟨h,e⟩
 ·exact lh F.slot_int_rshift F.entry_int_rshift (fun _=>F.args_int_rshift_2 _ _) (fun _=>AutoIntG9.int___rshift___int_int_1 _ _ _ _ (by decide) h) fun _ s _ h=>by rw [e];exact h (fun _=>s.toks) (s.toks+1)
 ·exact lh F.slot_int_rshift F.entry_int_rshift (fun _=>F.args_int_rshift_2 _ _) (fun _=>AutoIntG0.int___rshift___int_int_2 _ _ _ _ (by decide) h) fun _ s _ h=>by rw [e];exact h (fun _=>s.toks) (s.toks+1)
end

section
def vn (w:Yc) (i k:Int) (x y:Str) (b:Nat) (a:Yb) (p:af):Ya:=[(p 1 0,ab a (p 1 1)),(p 2 0,aG w [("heap",p 2 2,.ref (p 1 0)),("startpos",p 2 4,.int 0 (p 2 5)),("pos",p 2 6,.int i (p 2 7)),("newitem",p 2 8,.str x (p 2 9))] (p 2 1))]
theorem G0 (b c:Bool) (w:Yc) (i k:Int) (x y:Str) (e:Nat) (d:Yb) (u:decide (i > 0)=true) (m:kg (i-1) k) (g:0≤k) (s:k<2 ^ 63) (j:d[k.toNat]? = some (.str y e)) (o:decide (x.cps.toList<y.cps.toList)=true) (h:0≤i) (q:i<2 ^ 63) (t:i<d.length) (p:af):aL (B0 (W b c w)) 1 (gA w (p 2 0)) (vn w i k x y e d p) (fun a=>(.error (gA w (p 2 0)),[ab (d.set i.toNat (.str y e)) (a 0),aG w [("heap",p 2 2,.ref (p 1 0)),("startpos",p 2 4,.int 0 (p 2 5)),("pos",p 2 6,.int k (a 1)),("newitem",p 2 8,.str x (p 2 9)),("parentpos",a 2,.int k (a 1)),("parent",a 3,.str y e)] (p 2 1+1+1)],[])):=
 aA (orcs:=[i2 "int.__gt__" i 0 fun _=>.bool true,i2 "int.__rshift__" (i-1) 1 fun a=>.int k (a 0),cK 0 d k (.str y e),o2 "str.__lt__" x y fun _=>.bool true,fb 0 d i y]) (aa (nc u) (aa (sT m) (aa (cQ g s j) (aa (jR o) (aa (gw h q t) aq))))) 76 5 [2,2,2,2,0,0,56,3,2,1,2,2,1,1,1,4,2,1,2,2,5,2,2,2,1,1,6,2,2,1,1] [0,1] (fun n z f=>aB [(f 4).2.2 1,(f 1).2.2 0,(f 1).2.1+0,(f 2).2.1+0]) (hc:=aS (mS w _))
def z2 (w:Yc) (k0:Int) (b:Str) (i k:Int) (x y:Str) (c:Nat) (a:Yb) (p:af):Ya:=[(p 1 0,ab a (p 1 1)),(p 2 0,aG w [("heap",p 2 2,.ref (p 1 0)),("startpos",p 2 4,.int 0 (p 2 5)),("pos",p 2 6,.int i (p 2 7)),("newitem",p 2 8,.str x (p 2 9)),("parentpos",p 2 10,.int k0 (p 2 11)),("parent",p 2 12,.str b (p 2 13))] (p 2 1))]
theorem G1 (b c:Bool) (w:Yc) (k0:Int) (j:Str) (i k:Int) (x y:Str) (e:Nat) (a:Yb) (z:decide (i > 0)=true) (o:kg (i-1) k) (g:0≤k) (t:k<2 ^ 63) (m:a[k.toNat]? = some (.str y e)) (q:decide (x.cps.toList<y.cps.toList)=true) (h:0≤i) (s:i<2 ^ 63) (u:i<a.length) (p:af):aL (B0 (W b c w)) 1 (gA w (p 2 0)) (z2 w k0 j i k x y e a p) (fun d=>(.error (gA w (p 2 0)),[ab (a.set i.toNat (.str y e)) (d 0),aG w [("heap",p 2 2,.ref (p 1 0)),("startpos",p 2 4,.int 0 (p 2 5)),("pos",p 2 6,.int k (d 1)),("newitem",p 2 8,.str x (p 2 9)),("parentpos",p 2 10,.int k (d 1)),("parent",p 2 12,.str y e)] (p 2 1)],[])):=
 aA (orcs:=[i2 "int.__gt__" i 0 fun _=>.bool true,i2 "int.__rshift__" (i-1) 1 fun d=>.int k (d 0),cK 0 a k (.str y e),o2 "str.__lt__" x y fun _=>.bool true,fb 0 a i y]) (aa (nc z) (aa (sT o) (aa (cQ g t m) (aa (jR q) (aa (gw h s u) aq))))) 76 5 [2,2,2,2,0,0,56,3,2,1,2,2,1,1,1,4,2,1,2,2,5,2,2,2,1,1,6,2,2,1,1] [0,1] (fun n A f=>aB [(f 4).2.2 1,(f 1).2.2 0]) (hc:=aS (mS w _))
theorem G2 (b c:Bool) (w:Yc) (i k:Int) (x y:Str) (e:Nat) (d:Yb) (q:decide (i > 0)=true) (j:kg (i-1) k) (g:0≤k) (o:k<2 ^ 63) (h:d[k.toNat]? = some (.str y e)) (m:decide (x.cps.toList<y.cps.toList)=false) (p:af):aC (B0 (W b c w)) 1 (gA w (p 2 0)) [(p 1 0,ab d (p 1 1)),(p 2 0,aG w [("heap",p 2 2,.ref (p 1 0)),("startpos",p 2 4,.int 0 (p 2 5)),("pos",p 2 6,.int i (p 2 7)),("newitem",p 2 8,.str x (p 2 9))] (p 2 1))] (fun a=>(.next,[ab d (a 0),aG w [("heap",p 2 2,.ref (p 1 0)),("startpos",p 2 4,.int 0 (p 2 5)),("pos",p 2 6,.int i (p 2 7)),("newitem",p 2 8,.str x (p 2 9)),("parentpos",a 2,.int k (a 1)),("parent",a 3,.str y e)] (p 2 1+1+1)],[])):=
 aA (orcs:=[i2 "int.__gt__" i 0 fun _=>.bool true,i2 "int.__rshift__" (i-1) 1 fun a=>.int k (a 0),cK 0 d k (.str y e),o2 "str.__lt__" x y fun _=>.bool false]) (aa (nc q) (aa (sT j) (aa (cQ g o h) (aa (jR m) aq)))) 55 4 [2,2,2,2,0,0,56,3,2,1,2,2,1,1,1,4,2,1,2,2,5] [0,1] (fun n s f=>aB [(f 2).2.2 1,(f 1).2.2 0,(f 1).2.1+0,(f 2).2.1+0]) (hc:=aS (mS w _))
theorem G3 (b c:Bool) (w:Yc) (k0:Int) (h:Str) (i k:Int) (x y:Str) (e:Nat) (a:Yb) (s:decide (i > 0)=true) (m:kg (i-1) k) (g:0≤k) (q:k<2 ^ 63) (j:a[k.toNat]? = some (.str y e)) (o:decide (x.cps.toList<y.cps.toList)=false) (p:af):aC (B0 (W b c w)) 1 (gA w (p 2 0)) [(p 1 0,ab a (p 1 1)),(p 2 0,aG w [("heap",p 2 2,.ref (p 1 0)),("startpos",p 2 4,.int 0 (p 2 5)),("pos",p 2 6,.int i (p 2 7)),("newitem",p 2 8,.str x (p 2 9)),("parentpos",p 2 10,.int k0 (p 2 11)),("parent",p 2 12,.str h (p 2 13))] (p 2 1))] (fun d=>(.next,[ab a (d 0),aG w [("heap",p 2 2,.ref (p 1 0)),("startpos",p 2 4,.int 0 (p 2 5)),("pos",p 2 6,.int i (p 2 7)),("newitem",p 2 8,.str x (p 2 9)),("parentpos",p 2 10,.int k (d 1)),("parent",p 2 12,.str y e)] (p 2 1)],[])):=
 aA (orcs:=[i2 "int.__gt__" i 0 fun _=>.bool true,i2 "int.__rshift__" (i-1) 1 fun d=>.int k (d 0),cK 0 a k (.str y e),o2 "str.__lt__" x y fun _=>.bool false]) (aa (nc s) (aa (sT m) (aa (cQ g q j) (aa (jR o) aq)))) 55 4 [2,2,2,2,0,0,56,3,2,1,2,2,1,1,1,4,2,1,2,2,5] [0,1] (fun n t f=>aB [(f 2).2.2 1,(f 1).2.2 0]) (hc:=aS (mS w _))
def z3 (w:Yc) (i:Int) (x:Str) (a:Yb) (p:af):Ya:=[(p 1 0,ab a (p 1 1)),(p 2 0,aG w [("heap",p 2 2,.ref (p 1 0)),("startpos",p 2 4,.int 0 (p 2 5)),("pos",p 2 6,.int i (p 2 7)),("newitem",p 2 8,.str x (p 2 9))] (p 2 1))]
def z4 (w:Yc) (i:Int) (x:Str) (a:Yb) (p:af) (b:Ye):Flow×Yf×Ya:=(.next,[ab a (p 1 1),aG w [("heap",p 2 2,.ref (p 1 0)),("startpos",p 2 4,.int 0 (p 2 5)),("pos",p 2 6,.int i (p 2 7)),("newitem",p 2 8,.str x (p 2 9))] (p 2 1)],[])
theorem G4 (b c:Bool) (w:Yc) (i:Int) (x:Str) (a:Yb) (d:decide (i > 0)=false) (p:af):aC (B0 (W b c w)) 1 (gA w (p 2 0)) (z3 w i x a p) (z4 w i x a p):=
 aA (orcs:=[i2 "int.__gt__" i 0 fun _=>.bool false]) (aa (nc d) aq) 10 1 [2,2,2] [0,1] (fun _ _ _ _=>0) (hc:=aS (mS w _))
theorem z5 (b c:Bool) (w:Yc) (k0:Int) (d:Str) (i:Int) (x:Str) (a:Yb) (e:decide (i > 0)=false) (p:af):aC (B0 (W b c w)) 1 (gA w (p 2 0)) [(p 1 0,ab a (p 1 1)),(p 2 0,aG w [("heap",p 2 2,.ref (p 1 0)),("startpos",p 2 4,.int 0 (p 2 5)),("pos",p 2 6,.int i (p 2 7)),("newitem",p 2 8,.str x (p 2 9)),("parentpos",p 2 10,.int k0 (p 2 11)),("parent",p 2 12,.str d (p 2 13))] (p 2 1))] (fun f=>(.next,[ab a (p 1 1),aG w [("heap",p 2 2,.ref (p 1 0)),("startpos",p 2 4,.int 0 (p 2 5)),("pos",p 2 6,.int i (p 2 7)),("newitem",p 2 8,.str x (p 2 9)),("parentpos",p 2 10,.int k0 (p 2 11)),("parent",p 2 12,.str d (p 2 13))] (p 2 1)],[])):=
 aA (orcs:=[i2 "int.__gt__" i 0 fun _=>.bool false]) (aa (nc e) aq) 10 1 [2,2,2] [0,1] (fun _ _ _ _=>0) (hc:=aS (mS w _))
end
def dL:Nat→Yb→Nat→Str→Int→Str→Yb×Nat×Int×Str
 | 0,a,i,_,k,y=>(a,i,k,y)
 | n+1,a,i,x,k,y=>match i with
  | 0=>(a,0,k,y)
  | j+1=>match a[j / 2]? with
   | some (.str b t)=>if x.cps.toList<b.cps.toList then dL n (a.set (j+1) (.str b t)) (j / 2) x ((j / 2:Nat):Int) b else (a,j+1,((j / 2:Nat):Int),b)
   | _=>(a,j+1,k,y)
def vo (w:Yc) (x:Str) (r:Yb×Nat×Int×Str) (p:af) (a:Ye):Flow×Yf×Ya:=
 (.next,[ab r.1 (a 0),aG w [("heap",p 2 2,.ref (p 1 0)),("startpos",p 2 4,.int 0 (p 2 5)),("pos",p 2 6,.int (r.2.1:Int) (a 1)),("newitem",p 2 8,.str x (p 2 9)),("parentpos",a 2,.int r.2.2.1 (a 3)),("parent",a 4,.str r.2.2.2 (a 5))] (a 6)],[])
theorem sU:∀j:Nat,j<100→kg (((j+1:Nat):Int)-1) ((j / 2:Nat):Int):=by
 intro j a
 have:∀j∈List.range 100,kg (((j+1:Nat):Int)-1) ((j / 2:Nat):Int):=by
  unfold kg
  decide +kernel
 exact this j (List.mem_range.mpr a)
theorem G5 (b c:Bool) (w:Yc):∀(n i:Nat),i≤n→∀(d:Yb) (x:Str) (k0:Int) (f:Str) (p:af),i<d.length→d.length≤100→(∀v∈d,∃y t,v=Value.str y t)→
  aC (B0 (W b c w)) 1 (gA w (p 2 0)) (z2 w k0 f (i:Int) 0 x "" 0 d p) (vo w x (dL n d i x k0 f) p):=by
 intro n
 induction n with
 | zero=>
  intro i z d x k0 f p C _ _
  have:i=0:=by lia
  subst this
  refine aL.re (z5 b c w k0 f 0 x d (by decide) p) fun g=>⟨fun j=>match j with | 0=>p 1 1 | 1=>p 2 7 | 2=>p 2 10 | 3=>p 2 11 | 4=>p 2 12 | 5=>p 2 13 | _=>p 2 1,rfl⟩
 | succ n A=>
  intro i z d x k0 f p C B s
  cases i with
  | zero=>
   refine aL.re (z5 b c w k0 f 0 x d (by decide) p) fun g=>⟨fun j=>match j with | 0=>p 1 1 | 1=>p 2 7 | 2=>p 2 10 | 3=>p 2 11 | 4=>p 2 12 | 5=>p 2 13 | _=>p 2 1,rfl⟩
  | succ j=>
   have o:j / 2<d.length:=by lia
   obtain ⟨y,t,e⟩:=s d[j / 2] (List.getElem_mem o)
   have u:d[j / 2]? = some (.str y t):=by rw [List.getElem?_eq_getElem o,e]
   have m:d[((j / 2:Nat):Int).toNat]? = some (.str y t):=u
   unfold dL
   simp only [u]
   by_cases hx:x.cps.toList<y.cps.toList
   ·rw [if_pos hx]
    refine aL.trans (bG _) (G1 b c w k0 f ((j+1:Nat):Int) ((j / 2:Nat):Int) x y t d (decide_eq_true (by lia)) (sU j (by lia)) (by lia) (by lia) m (decide_eq_true hx) (by lia) (by lia) (by lia) p) (fun _=>rfl) (fun _=>rfl) fun g => ?_
    have q:=A (j / 2) (by lia) (d.set (j+1) (.str y t)) x ((j / 2:Nat):Int) y (fun a i=>match a,i with | 1,1=>g 0 | 2,7=>g 1 | 2,11=>g 1 | 2,13=>t | a,i=>p a i) (by rw [List.length_set];lia) (by rw [List.length_set];exact B) (fun v k=>by
     rcases List.mem_or_eq_of_mem_set k with h | h
     ·exact s v h
     ·exact ⟨y,t,h⟩)
    exact q
   ·rw [if_neg hx]
    exact aL.re (G3 b c w k0 f ((j+1:Nat):Int) ((j / 2:Nat):Int) x y t d (decide_eq_true (by lia)) (sU j (by lia)) (by lia) (by lia) m (decide_eq_false hx) p) fun g=>⟨fun i=>match i with | 0=>g 0 | 1=>p 2 7 | 2=>p 2 10 | 3=>g 1 | 4=>p 2 12 | 5=>t | _=>p 2 1,rfl⟩
theorem G6 (b c:Bool) (w:Yc) (n j:Nat) (z:j≤n) (d:Yb) (x:Str) (p:af) (A:j+1<d.length) (u:d.length≤100) (o:∀v∈d,∃y t,v=Value.str y t) :
  aC (B0 (W b c w)) 1 (gA w (p 2 0)) (vn w ((j+1:Nat):Int) 0 x "" 0 d p) (vo w x (dL (n+1) d (j+1) x 0 "") p):=by
 have m:j / 2<d.length:=by lia
 obtain ⟨y,t,e⟩:=o d[j / 2] (List.getElem_mem m)
 have s:d[j / 2]? = some (.str y t):=by rw [List.getElem?_eq_getElem m,e]
 have k:d[((j / 2:Nat):Int).toNat]? = some (.str y t):=s
 unfold dL
 simp only [s]
 by_cases hx:x.cps.toList<y.cps.toList
 ·rw [if_pos hx]
  refine aL.trans (bG _) (G0 b c w ((j+1:Nat):Int) ((j / 2:Nat):Int) x y t d (decide_eq_true (by lia)) (sU j (by lia)) (by lia) (by lia) k (decide_eq_true hx) (by lia) (by lia) (by lia) p) (fun _=>rfl) (fun _=>rfl) fun f => ?_
  have q:=G5 b c w n (j / 2) (by lia) (d.set (j+1) (.str y t)) x ((j / 2:Nat):Int) y (fun a i=>match a,i with | 1,1=>f 0 | 2,1=>p 2 1+1+1 | 2,7=>f 1 | 2,10=>f 2 | 2,11=>f 1 | 2,12=>f 3 | 2,13=>t | a,i=>p a i) (by rw [List.length_set];lia) (by rw [List.length_set];exact u) (fun v g=>by
   rcases List.mem_or_eq_of_mem_set g with h | h
   ·exact o v h
   ·exact ⟨y,t,h⟩)
  exact q
 ·rw [if_neg hx]
  exact aL.re (G2 b c w ((j+1:Nat):Int) ((j / 2:Nat):Int) x y t d (decide_eq_true (by lia)) (sU j (by lia)) (by lia) (by lia) k (decide_eq_false hx) p) fun f=>⟨fun i=>match i with | 0=>f 0 | 1=>p 2 7 | 2=>f 2 | 3=>f 1 | 4=>f 3 | 5=>t | _=>p 2 1+1+1,rfl⟩
theorem z6 (x:Str):∀(n:Nat) (a:Yb) (i:Nat) (k:Int) (y:Str),(dL n a i x k y).1.length=a.length∧(dL n a i x k y).2.1≤i
 | 0,a,i,k,y=>⟨rfl,Nat.le_refl _⟩
 | n+1,a,0,k,y=>⟨rfl,Nat.le_refl _⟩
 | n+1,a,j+1,k,y=>by
  unfold dL
  dsimp only
  split
  ·split
   ·rename_i b t _ _
    have h:=z6 x n (a.set (j+1) (.str b t)) (j / 2) ((j / 2:Nat):Int) b
    rw [List.length_set] at h
    exact ⟨h.1,by have:=h.2;lia⟩
   ·exact ⟨rfl,Nat.le_refl _⟩
  ·exact ⟨rfl,Nat.le_refl _⟩
def z7 (w:Yc) (n j:Nat) (x:Str) (a:Yb) (b c:Nat):aH:=bA (fun p=>gA w (p 2 0)) [b,c] (fun p=>vn w ((j+1:Nat):Int) 0 x "" 0 a p) (vo w x (dL (n+1) a (j+1) x 0 ""))
theorem G7 {b c:Bool} {w:Yc} {m n j:Nat} {x:Str} {a:Yb} {d e:Nat} (o:[d,e].Nodup) (f:j≤n) (i:j+1<a.length) (h:a.length≤100) (k:∀v∈a,∃y t,v=Value.str y t) (g:1≤m):(z7 w n j x a d e).Sure (B0 (W b c w)) m:=
 (bS o fun p=>G6 b c w n j f a x p i h k).le g
def z8 (w:Yc) (x:Str) (a:Yb) (b c:Nat):aH:=bA (fun p=>gA w (p 2 0)) [b,c] (fun p=>z3 w 0 x a p) (z4 w 0 x a)
theorem G8 {b c:Bool} {w:Yc} {m:Nat} {x:Str} {a:Yb} {d e:Nat} (f:[d,e].Nodup) (g:1≤m):(z8 w x a d e).Sure (B0 (W b c w)) m:=
 (bS f fun p=>G4 b c w 0 x a (by decide) p).le g
def ju (n:Nat) (a:Yb) (i:Nat) (x:Str) (t:Nat):Yb:=(dL n a i x 0 "").1.set (dL n a i x 0 "").2.1 (.str x t)
theorem G9 {b c:Bool} {w:Yc} {m n j:Nat} {x:Str} {a:Yb} (d:j+1<a.length) (e:a.length≤100):(fb 0 (dL (n+1) a (j+1) x 0 "").1 (((dL (n+1) a (j+1) x 0 "").2.1:Nat):Int) x).Sure (B0 (W b c w)) m:=
 have h:=z6 x (n+1) a (j+1) 0 ""
 gw (by lia) (by have:=h.2;lia) (by rw [h.1];have:=h.2;lia)
section
theorem Ha (b c:Bool) (w:Yc) (j d:Nat) (x:Str) (e:Nat) (a:Yb) (i:j≤d) (h:j+1<a.length) (g:a.length≤100) (k:∀v∈a,∃y t,v=Value.str y t) (hx:a[j+1]? = some (.str x e)) (p:af):aC (B0 (W b c w)) 2 (.call (.ref 128) ⟨[.ref (p 1 0),.int 0 (p 0 1),.int ((j+1:Nat):Int) (p 0 2)],[]⟩) [(p 1 0,ab a (p 1 1))] (fun m=>(.ret .none,[ab (ju (d+1) a (j+1) x e) (m 0)],[])):=
 aA (orcs:=[cK 0 a ((j+1:Nat):Int) (.str x e),z7 w d j x a 0 1,fb 0 (dL (d+1) a (j+1) x 0 "").1 (((dL (d+1) a (j+1) x 0 "").2.1:Nat):Int) x]) (aa (cQ (by lia) (by lia) hx) (aa (G7 (by decide) i h g k (by decide)) (aa (G9 (n:=d) h g) aq))) 51 3 [0,0,2,1,2,1,2,1,0,0,2,2,1,1,1,2,2,1,3,2,2,2,1,1,4] [0] (fun n o f=>aB [(f 2).2.2 1])
theorem Hb (b c:Bool) (w:Yc) (x:Str) (d:Nat) (a:Yb) (g:0<a.length) (hx:a[0]? = some (.str x d)) (p:af):aC (B0 (W b c w)) 2 (.call (.ref 128) ⟨[.ref (p 1 0),.int 0 (p 0 1),.int 0 (p 0 2)],[]⟩) [(p 1 0,ab a (p 1 1))] (fun e=>(.ret .none,[ab (a.set 0 (.str x d)) (e 0)],[])):=
 aA (orcs:=[cK 0 a 0 (.str x d),z8 w x a 0 1,fb 0 a 0 x]) (aa (cQ (by lia) (by lia) hx) (aa (G8 (by decide) (by decide)) (aa (gw (by lia) (by lia) (by lia)) aq))) 51 3 [0,0,2,1,2,1,2,1,0,0,2,2,1,1,1,2,2,1,3,2,2,2,1,1,4] [0] (fun n h f=>aB [(f 2).2.2 1])
end
def dM (w:Yc) (a:Nat):Code:=o8 (gv false false w [] 100 [0,0,2,1,2,1,0,0,0,0,2,0,0,11,1,0,1,0,60,1,2,1,2,2,1,2,2,1,1,1,0,1,0,54,1,2,1,2,0,0,62,0,0,16,2,1,1] 0 (fun _=>(0,0,id)) (.call (.ref 135) ⟨[.ref 2001,.int 0 81],[]⟩) [(2001,ab [.str "" 77] 4)] a 0)
theorem kh (w:Yc) (a:Nat):hY (dM w a)=false:=by kernel_rfl
section
theorem Hc (b c:Bool) (w:Yc) (i e:Nat) (x y z:Str) (g j:Nat) (a:Yb) (t:2*i+2<e) (s:e=a.length) (q:a.length≤100) (h:a[2*i+1]? = some (.str y g)) (m:a[2*i+2]? = some (.str z j)) (k:decide (y.cps.toList<z.cps.toList)=true) (p:af):aL (B0 (W b c w)) 1 (dM w (p 2 0)) [(p 1 0,ab a (p 1 1)),(p 2 0,aG w [("heap",p 2 2,.ref (p 1 0)),("pos",p 2 4,.int ((i:Nat):Int) (p 2 5)),("endpos",p 2 6,.int ((e:Nat):Int) (p 2 7)),("startpos",p 2 8,.int 0 (p 2 9)),("newitem",p 2 10,.str x (p 2 11)),("childpos",p 2 12,.int ((2*i+1:Nat):Int) (p 2 13))] (p 2 1))] (fun d=>(.error (dM w (p 2 0)),[ab (a.set i (.str y g)) (d 0),aG w [("heap",p 2 2,.ref (p 1 0)),("pos",p 2 4,.int ((2*i+1:Nat):Int) (d 1)),("endpos",p 2 6,.int ((e:Nat):Int) (p 2 7)),("startpos",p 2 8,.int 0 (p 2 9)),("newitem",p 2 10,.str x (p 2 11)),("childpos",p 2 12,.int ((2*(2*i+1)+1:Nat):Int) (d 2)),("rightpos",d 4,.int ((2*i+2:Nat):Int) (d 3))] (p 2 1+1)],[])):=
 aA (orcs:=[i2 "int.__lt__" ((2*i+1:Nat):Int) ((e:Nat):Int) fun _=>.bool true,i2 "int.__lt__" ((2*i+2:Nat):Int) ((e:Nat):Int) fun _=>.bool true,cK 0 a ((2*i+1:Nat):Int) (.str y g),cK 0 a ((2*i+2:Nat):Int) (.str z j),o2 "str.__lt__" y z fun _=>.bool true,cK 0 a ((2*i+1:Nat):Int) (.str y g),fb 0 a ((i:Nat):Int) y]) (aa (f5 (decide_eq_true (by omega))) (aa (f5 (decide_eq_true (by omega))) (aa (cQ (by omega) (by omega) h) (aa (cQ (by omega) (by omega) m) (aa (jR k) (aa (cQ (by omega) (by omega) h) (aa (gw (by omega) (by omega) (by omega)) aq))))))) 105 7 [2,2,2,2,0,0,16,2,1,2,2,3,2,2,1,1,1,4,2,2,1,1,1,5,6,2,2,1,1,1,7,2,2,1,1,8,2,2,1,2,0,0,62,0,0,16,2,1,1] [0,1] (fun n o f=>aB [(f 6).2.2 1,p 2 13,(f 6).2.1+4,(f 0).2.1+1,(f 0).2.1+2]) (hc:=aS (kh w _))
theorem Hd (b c:Bool) (w:Yc) (i e:Nat) (x y z:Str) (h g:Nat) (a:Yb) (t:2*i+2<e) (s:e=a.length) (q:a.length≤100) (k:a[2*i+1]? = some (.str y h)) (j:a[2*i+2]? = some (.str z g)) (m:decide (y.cps.toList<z.cps.toList)=false) (p:af):aL (B0 (W b c w)) 1 (dM w (p 2 0)) [(p 1 0,ab a (p 1 1)),(p 2 0,aG w [("heap",p 2 2,.ref (p 1 0)),("pos",p 2 4,.int ((i:Nat):Int) (p 2 5)),("endpos",p 2 6,.int ((e:Nat):Int) (p 2 7)),("startpos",p 2 8,.int 0 (p 2 9)),("newitem",p 2 10,.str x (p 2 11)),("childpos",p 2 12,.int ((2*i+1:Nat):Int) (p 2 13))] (p 2 1))] (fun d=>(.error (dM w (p 2 0)),[ab (a.set i (.str z g)) (d 0),aG w [("heap",p 2 2,.ref (p 1 0)),("pos",p 2 4,.int ((2*i+2:Nat):Int) (d 1)),("endpos",p 2 6,.int ((e:Nat):Int) (p 2 7)),("startpos",p 2 8,.int 0 (p 2 9)),("newitem",p 2 10,.str x (p 2 11)),("childpos",p 2 12,.int ((2*(2*i+2)+1:Nat):Int) (d 2)),("rightpos",d 4,.int ((2*i+2:Nat):Int) (d 3))] (p 2 1+1)],[])):=
 aA (orcs:=[i2 "int.__lt__" ((2*i+1:Nat):Int) ((e:Nat):Int) fun _=>.bool true,i2 "int.__lt__" ((2*i+2:Nat):Int) ((e:Nat):Int) fun _=>.bool true,cK 0 a ((2*i+1:Nat):Int) (.str y h),cK 0 a ((2*i+2:Nat):Int) (.str z g),o2 "str.__lt__" y z fun _=>.bool false,cK 0 a ((2*i+2:Nat):Int) (.str z g),fb 0 a ((i:Nat):Int) z]) (aa (f5 (decide_eq_true (by omega))) (aa (f5 (decide_eq_true (by omega))) (aa (cQ (by omega) (by omega) k) (aa (cQ (by omega) (by omega) j) (aa (jR m) (aa (cQ (by omega) (by omega) j) (aa (gw (by omega) (by omega) (by omega)) aq))))))) 115 7 [2,2,2,2,0,0,16,2,1,2,2,3,2,2,1,1,1,4,2,2,1,1,1,5,6,2,2,1,2,2,1,1,1,7,2,2,1,1,8,2,2,1,2,0,0,62,0,0,16,2,1,1] [0,1] (fun n o f=>aB [(f 6).2.2 1,(f 0).2.1+1,(f 6).2.1+4,(f 0).2.1+1,(f 0).2.1+2]) (hc:=aS (kh w _))
theorem He (b c:Bool) (w:Yc) (i e:Nat) (x y:Str) (g:Nat) (a:Yb) (q:2*i+1<e) (o:e≤2*i+2) (m:e=a.length) (k:a.length≤100) (h:a[2*i+1]? = some (.str y g)) (p:af):aL (B0 (W b c w)) 1 (dM w (p 2 0)) [(p 1 0,ab a (p 1 1)),(p 2 0,aG w [("heap",p 2 2,.ref (p 1 0)),("pos",p 2 4,.int ((i:Nat):Int) (p 2 5)),("endpos",p 2 6,.int ((e:Nat):Int) (p 2 7)),("startpos",p 2 8,.int 0 (p 2 9)),("newitem",p 2 10,.str x (p 2 11)),("childpos",p 2 12,.int ((2*i+1:Nat):Int) (p 2 13))] (p 2 1))] (fun d=>(.error (dM w (p 2 0)),[ab (a.set i (.str y g)) (d 0),aG w [("heap",p 2 2,.ref (p 1 0)),("pos",p 2 4,.int ((2*i+1:Nat):Int) (d 1)),("endpos",p 2 6,.int ((e:Nat):Int) (p 2 7)),("startpos",p 2 8,.int 0 (p 2 9)),("newitem",p 2 10,.str x (p 2 11)),("childpos",p 2 12,.int ((2*(2*i+1)+1:Nat):Int) (d 2)),("rightpos",d 4,.int ((2*i+2:Nat):Int) (d 3))] (p 2 1+1)],[])):=
 aA (orcs:=[i2 "int.__lt__" ((2*i+1:Nat):Int) ((e:Nat):Int) fun _=>.bool true,i2 "int.__lt__" ((2*i+2:Nat):Int) ((e:Nat):Int) fun _=>.bool false,cK 0 a ((2*i+1:Nat):Int) (.str y g),fb 0 a ((i:Nat):Int) y]) (aa (f5 (decide_eq_true (by omega))) (aa (f5 (decide_eq_false (by omega))) (aa (cQ (by omega) (by omega) h) (aa (gw (by omega) (by omega) (by omega)) aq)))) 84 4 [2,2,2,2,0,0,16,2,1,2,2,3,2,2,1,1,1,4,2,2,1,1,5,2,2,1,2,0,0,62,0,0,16,2,1,1] [0,1] (fun n j f=>aB [(f 3).2.2 1,p 2 13,(f 3).2.1+4,(f 0).2.1+1,(f 0).2.1+2]) (hc:=aS (kh w _))
def sV (w:Yc) (i e:Nat) (x:Str) (a:Yb) (p:af):Ya:=[(p 1 0,ab a (p 1 1)),(p 2 0,aG w [("heap",p 2 2,.ref (p 1 0)),("pos",p 2 4,.int ((i:Nat):Int) (p 2 5)),("endpos",p 2 6,.int ((e:Nat):Int) (p 2 7)),("startpos",p 2 8,.int 0 (p 2 9)),("newitem",p 2 10,.str x (p 2 11)),("childpos",p 2 12,.int ((2*i+1:Nat):Int) (p 2 13))] (p 2 1))]
def z9 (w:Yc) (i e:Nat) (x:Str) (a:Yb) (p:af) (b:Ye):Flow×Yf×Ya:=(.next,[ab a (p 1 1),aG w [("heap",p 2 2,.ref (p 1 0)),("pos",p 2 4,.int ((i:Nat):Int) (p 2 5)),("endpos",p 2 6,.int ((e:Nat):Int) (p 2 7)),("startpos",p 2 8,.int 0 (p 2 9)),("newitem",p 2 10,.str x (p 2 11)),("childpos",p 2 12,.int ((2*i+1:Nat):Int) (p 2 13))] (p 2 1)],[])
theorem Hf (b c:Bool) (w:Yc) (i e:Nat) (x:Str) (a:Yb) (d:e≤2*i+1) (p:af):aC (B0 (W b c w)) 1 (dM w (p 2 0)) (sV w i e x a p) (z9 w i e x a p):=
 aA (orcs:=[i2 "int.__lt__" ((2*i+1:Nat):Int) ((e:Nat):Int) fun _=>.bool false]) (aa (f5 (decide_eq_false (by omega))) aq) 10 1 [2,2,2] [0,1] (fun _ _ _ _=>0) (hc:=aS (kh w _))
theorem Hg (b c:Bool) (w:Yc) (r:Int) (i e:Nat) (x y z:Str) (g j:Nat) (a:Yb) (t:2*i+2<e) (s:e=a.length) (q:a.length≤100) (h:a[2*i+1]? = some (.str y g)) (m:a[2*i+2]? = some (.str z j)) (k:decide (y.cps.toList<z.cps.toList)=true) (p:af):aL (B0 (W b c w)) 1 (dM w (p 2 0)) [(p 1 0,ab a (p 1 1)),(p 2 0,aG w [("heap",p 2 2,.ref (p 1 0)),("pos",p 2 4,.int ((i:Nat):Int) (p 2 5)),("endpos",p 2 6,.int ((e:Nat):Int) (p 2 7)),("startpos",p 2 8,.int 0 (p 2 9)),("newitem",p 2 10,.str x (p 2 11)),("childpos",p 2 12,.int ((2*i+1:Nat):Int) (p 2 13)),("rightpos",p 2 14,.int r (p 2 15))] (p 2 1))] (fun d=>(.error (dM w (p 2 0)),[ab (a.set i (.str y g)) (d 0),aG w [("heap",p 2 2,.ref (p 1 0)),("pos",p 2 4,.int ((2*i+1:Nat):Int) (d 1)),("endpos",p 2 6,.int ((e:Nat):Int) (p 2 7)),("startpos",p 2 8,.int 0 (p 2 9)),("newitem",p 2 10,.str x (p 2 11)),("childpos",p 2 12,.int ((2*(2*i+1)+1:Nat):Int) (d 2)),("rightpos",p 2 14,.int ((2*i+2:Nat):Int) (d 3))] (p 2 1)],[])):=
 aA (orcs:=[i2 "int.__lt__" ((2*i+1:Nat):Int) ((e:Nat):Int) fun _=>.bool true,i2 "int.__lt__" ((2*i+2:Nat):Int) ((e:Nat):Int) fun _=>.bool true,cK 0 a ((2*i+1:Nat):Int) (.str y g),cK 0 a ((2*i+2:Nat):Int) (.str z j),o2 "str.__lt__" y z fun _=>.bool true,cK 0 a ((2*i+1:Nat):Int) (.str y g),fb 0 a ((i:Nat):Int) y]) (aa (f5 (decide_eq_true (by omega))) (aa (f5 (decide_eq_true (by omega))) (aa (cQ (by omega) (by omega) h) (aa (cQ (by omega) (by omega) m) (aa (jR k) (aa (cQ (by omega) (by omega) h) (aa (gw (by omega) (by omega) (by omega)) aq))))))) 105 7 [2,2,2,2,0,0,16,2,1,2,2,3,2,2,1,1,1,4,2,2,1,1,1,5,6,2,2,1,1,1,7,2,2,1,1,8,2,2,1,2,0,0,62,0,0,16,2,1,1] [0,1] (fun n o f=>aB [(f 6).2.2 1,p 2 13,(f 6).2.1+4,(f 0).2.1+1,p 2 14]) (hc:=aS (kh w _))
theorem Hh (b c:Bool) (w:Yc) (r:Int) (i e:Nat) (x y z:Str) (h d:Nat) (a:Yb) (t:2*i+2<e) (s:e=a.length) (q:a.length≤100) (k:a[2*i+1]? = some (.str y h)) (j:a[2*i+2]? = some (.str z d)) (m:decide (y.cps.toList<z.cps.toList)=false) (p:af):aL (B0 (W b c w)) 1 (dM w (p 2 0)) [(p 1 0,ab a (p 1 1)),(p 2 0,aG w [("heap",p 2 2,.ref (p 1 0)),("pos",p 2 4,.int ((i:Nat):Int) (p 2 5)),("endpos",p 2 6,.int ((e:Nat):Int) (p 2 7)),("startpos",p 2 8,.int 0 (p 2 9)),("newitem",p 2 10,.str x (p 2 11)),("childpos",p 2 12,.int ((2*i+1:Nat):Int) (p 2 13)),("rightpos",p 2 14,.int r (p 2 15))] (p 2 1))] (fun g=>(.error (dM w (p 2 0)),[ab (a.set i (.str z d)) (g 0),aG w [("heap",p 2 2,.ref (p 1 0)),("pos",p 2 4,.int ((2*i+2:Nat):Int) (g 1)),("endpos",p 2 6,.int ((e:Nat):Int) (p 2 7)),("startpos",p 2 8,.int 0 (p 2 9)),("newitem",p 2 10,.str x (p 2 11)),("childpos",p 2 12,.int ((2*(2*i+2)+1:Nat):Int) (g 2)),("rightpos",p 2 14,.int ((2*i+2:Nat):Int) (g 3))] (p 2 1)],[])):=
 aA (orcs:=[i2 "int.__lt__" ((2*i+1:Nat):Int) ((e:Nat):Int) fun _=>.bool true,i2 "int.__lt__" ((2*i+2:Nat):Int) ((e:Nat):Int) fun _=>.bool true,cK 0 a ((2*i+1:Nat):Int) (.str y h),cK 0 a ((2*i+2:Nat):Int) (.str z d),o2 "str.__lt__" y z fun _=>.bool false,cK 0 a ((2*i+2:Nat):Int) (.str z d),fb 0 a ((i:Nat):Int) z]) (aa (f5 (decide_eq_true (by omega))) (aa (f5 (decide_eq_true (by omega))) (aa (cQ (by omega) (by omega) k) (aa (cQ (by omega) (by omega) j) (aa (jR m) (aa (cQ (by omega) (by omega) j) (aa (gw (by omega) (by omega) (by omega)) aq))))))) 115 7 [2,2,2,2,0,0,16,2,1,2,2,3,2,2,1,1,1,4,2,2,1,1,1,5,6,2,2,1,2,2,1,1,1,7,2,2,1,1,8,2,2,1,2,0,0,62,0,0,16,2,1,1] [0,1] (fun n o f=>aB [(f 6).2.2 1,(f 0).2.1+1,(f 6).2.1+4,(f 0).2.1+1,p 2 14]) (hc:=aS (kh w _))
theorem Hi (b c:Bool) (w:Yc) (r:Int) (i e:Nat) (x y:Str) (g:Nat) (a:Yb) (q:2*i+1<e) (o:e≤2*i+2) (m:e=a.length) (k:a.length≤100) (h:a[2*i+1]? = some (.str y g)) (p:af):aL (B0 (W b c w)) 1 (dM w (p 2 0)) [(p 1 0,ab a (p 1 1)),(p 2 0,aG w [("heap",p 2 2,.ref (p 1 0)),("pos",p 2 4,.int ((i:Nat):Int) (p 2 5)),("endpos",p 2 6,.int ((e:Nat):Int) (p 2 7)),("startpos",p 2 8,.int 0 (p 2 9)),("newitem",p 2 10,.str x (p 2 11)),("childpos",p 2 12,.int ((2*i+1:Nat):Int) (p 2 13)),("rightpos",p 2 14,.int r (p 2 15))] (p 2 1))] (fun d=>(.error (dM w (p 2 0)),[ab (a.set i (.str y g)) (d 0),aG w [("heap",p 2 2,.ref (p 1 0)),("pos",p 2 4,.int ((2*i+1:Nat):Int) (d 1)),("endpos",p 2 6,.int ((e:Nat):Int) (p 2 7)),("startpos",p 2 8,.int 0 (p 2 9)),("newitem",p 2 10,.str x (p 2 11)),("childpos",p 2 12,.int ((2*(2*i+1)+1:Nat):Int) (d 2)),("rightpos",p 2 14,.int ((2*i+2:Nat):Int) (d 3))] (p 2 1)],[])):=
 aA (orcs:=[i2 "int.__lt__" ((2*i+1:Nat):Int) ((e:Nat):Int) fun _=>.bool true,i2 "int.__lt__" ((2*i+2:Nat):Int) ((e:Nat):Int) fun _=>.bool false,cK 0 a ((2*i+1:Nat):Int) (.str y g),fb 0 a ((i:Nat):Int) y]) (aa (f5 (decide_eq_true (by omega))) (aa (f5 (decide_eq_false (by omega))) (aa (cQ (by omega) (by omega) h) (aa (gw (by omega) (by omega) (by omega)) aq)))) 84 4 [2,2,2,2,0,0,16,2,1,2,2,3,2,2,1,1,1,4,2,2,1,1,5,2,2,1,2,0,0,62,0,0,16,2,1,1] [0,1] (fun n j f=>aB [(f 3).2.2 1,p 2 13,(f 3).2.1+4,(f 0).2.1+1,p 2 14]) (hc:=aS (kh w _))
def Aa (w:Yc) (r:Int) (i e:Nat) (x:Str) (a:Yb) (p:af):Ya:=[(p 1 0,ab a (p 1 1)),(p 2 0,aG w [("heap",p 2 2,.ref (p 1 0)),("pos",p 2 4,.int ((i:Nat):Int) (p 2 5)),("endpos",p 2 6,.int ((e:Nat):Int) (p 2 7)),("startpos",p 2 8,.int 0 (p 2 9)),("newitem",p 2 10,.str x (p 2 11)),("childpos",p 2 12,.int ((2*i+1:Nat):Int) (p 2 13)),("rightpos",p 2 14,.int r (p 2 15))] (p 2 1))]
theorem Hj (b c:Bool) (w:Yc) (r:Int) (i e:Nat) (x:Str) (a:Yb) (f:e≤2*i+1) (p:af):aC (B0 (W b c w)) 1 (dM w (p 2 0)) (Aa w r i e x a p) (fun d=>(.next,[ab a (p 1 1),aG w [("heap",p 2 2,.ref (p 1 0)),("pos",p 2 4,.int ((i:Nat):Int) (p 2 5)),("endpos",p 2 6,.int ((e:Nat):Int) (p 2 7)),("startpos",p 2 8,.int 0 (p 2 9)),("newitem",p 2 10,.str x (p 2 11)),("childpos",p 2 12,.int ((2*i+1:Nat):Int) (p 2 13)),("rightpos",p 2 14,.int r (p 2 15))] (p 2 1)],[])):=
 aA (orcs:=[i2 "int.__lt__" ((2*i+1:Nat):Int) ((e:Nat):Int) fun _=>.bool false]) (aa (f5 (decide_eq_false (by omega))) aq) 10 1 [2,2,2] [0,1] (fun _ _ _ _=>0) (hc:=aS (kh w _))
end
def bV:Nat→Yb→Nat→Int→Yb×Nat×Int
 | 0,a,i,r=>(a,i,r)
 | n+1,a,i,r=>if 2*i+1<a.length then match a[2*i+1]?,a[2*i+2]? with
   | some (.str y t),some (.str z u)=>if y.cps.toList<z.cps.toList then bV n (a.set i (.str y t)) (2*i+1) ((2*i+2:Nat):Int) else bV n (a.set i (.str z u)) (2*i+2) ((2*i+2:Nat):Int)
   | some (.str y t),_=>bV n (a.set i (.str y t)) (2*i+1) ((2*i+2:Nat):Int)
   | _,_=>(a,i,r)
  else (a,i,r)
def sW (w:Yc) (x:Str) (e:Nat) (r:Yb×Nat×Int) (p:af) (a:Ye):Flow×Yf×Ya:=
 (.next,[ab r.1 (a 0),aG w [("heap",p 2 2,.ref (p 1 0)),("pos",p 2 4,.int (r.2.1:Int) (a 1)),("endpos",p 2 6,.int (e:Int) (p 2 7)),("startpos",p 2 8,.int 0 (p 2 9)),("newitem",p 2 10,.str x (p 2 11)),("childpos",p 2 12,.int ((2*r.2.1+1:Nat):Int) (a 2)),("rightpos",a 4,.int r.2.2 (a 3))] (a 5)],[])
def bk (vs:Yb):Prop:=∀v∈vs,∃y t,v=Value.str y t
theorem bk.set {b:Yb} (h:bk b) (i:Nat) (y:Str) (t:Nat):bk (b.set i (.str y t)):=fun v a=>by
 rcases List.mem_or_eq_of_mem_set a with a | rfl
 ·exact h v a
 ·exact ⟨_,_,rfl⟩
theorem bk.get {a:Yb} (h:bk a) {i:Nat} (b:i<a.length):∃y t,a[i]? = some (.str y t):=by
 obtain ⟨y,t,e⟩:=h a[i] (List.getElem_mem b)
 exact ⟨y,t,by rw [List.getElem?_eq_getElem b,e]⟩
abbrev Ab (w:Yc) (r:Int) (i e:Nat) (x:Str) (a:Yb) (p:af):Ya:=Aa w r i e x a p
theorem vp (b c:Bool) (w:Yc):∀(n i:Nat) (d:Yb) (r:Int) (e:Nat) (x:Str) (p:af),d.length≤i+n→e=d.length→d.length≤100→bk d→
  aC (B0 (W b c w)) 1 (dM w (p 2 0)) (Ab w r i e x d p) (sW w x e (bV n d i r) p):=by
 intro n
 have g:∀(i:Nat) (d:Yb) (r:Int) (e:Nat) (x:Str) (p:af),e≤2*i+1→aC (B0 (W b c w)) 1 (dM w (p 2 0)) (Ab w r i e x d p) (sW w x e (d,i,r) p):=fun i d r e x p h=>
  aL.re (Hj b c w r i e x d h p) fun f=>⟨fun j=>match j with | 0=>p 1 1 | 1=>p 2 5 | 2=>p 2 13 | 3=>p 2 15 | 4=>p 2 14 | _=>p 2 1,rfl⟩
 induction n with
 | zero=>intro i d r e x p D o m q;exact g i d r e x p (by lia)
 | succ n B=>
  intro i d r e x p D o m q
  unfold bV
  by_cases C:2*i+1<d.length
  ·rw [if_pos C]
   obtain ⟨y,t,s⟩:=q.get C
   by_cases E:2*i+2<d.length
   ·obtain ⟨z,u,A⟩:=q.get E
    simp only [s,A]
    by_cases hx:y.cps.toList<z.cps.toList
    ·rw [if_pos hx]
     refine aL.trans (bG _) (Hg b c w r i e x y z t u d (by lia) o m s A (decide_eq_true hx) p) (fun _=>rfl) (fun _=>rfl) fun f => ?_
     exact B (2*i+1) (d.set i (.str y t)) ((2*i+2:Nat):Int) e x (fun a k=>match a,k with | 1,1=>f 0 | 2,5=>f 1 | 2,13=>f 2 | 2,15=>f 3 | a,k=>p a k) (by rw [List.length_set];lia) (by rw [List.length_set];exact o) (by rw [List.length_set];exact m) (q.set _ _ _)
    ·rw [if_neg hx]
     refine aL.trans (bG _) (Hh b c w r i e x y z t u d (by lia) o m s A (decide_eq_false hx) p) (fun _=>rfl) (fun _=>rfl) fun f => ?_
     exact B (2*i+2) (d.set i (.str z u)) ((2*i+2:Nat):Int) e x (fun a k=>match a,k with | 1,1=>f 0 | 2,5=>f 1 | 2,13=>f 2 | 2,15=>f 3 | a,k=>p a k) (by rw [List.length_set];lia) (by rw [List.length_set];exact o) (by rw [List.length_set];exact m) (q.set _ _ _)
   ·have A:d[2*i+2]? = none:=List.getElem?_eq_none (by lia)
    simp only [s,A]
    refine aL.trans (bG _) (Hi b c w r i e x y t d (by lia) (by lia) o m s p) (fun _=>rfl) (fun _=>rfl) fun f => ?_
    exact B (2*i+1) (d.set i (.str y t)) ((2*i+2:Nat):Int) e x (fun a k=>match a,k with | 1,1=>f 0 | 2,5=>f 1 | 2,13=>f 2 | 2,15=>f 3 | a,k=>p a k) (by rw [List.length_set];lia) (by rw [List.length_set];exact o) (by rw [List.length_set];exact m) (q.set _ _ _)
  ·rw [if_neg C]
   exact g i d r e x p (by lia)
theorem Hk (b c:Bool) (w:Yc) (n i:Nat) (f:Yb) (e:Nat) (x:Str) (p:af) (A:f.length≤i+(n+1)) (h:e=f.length) (g:f.length≤100) (m:bk f) (q:2*i+1<f.length) :
  aC (B0 (W b c w)) 1 (dM w (p 2 0)) (sV w i e x f p) (sW w x e (bV (n+1) f i 0) p):=by
 unfold bV
 rw [if_pos q]
 obtain ⟨y,t,j⟩:=m.get q
 by_cases s:2*i+2<f.length
 ·obtain ⟨z,u,o⟩:=m.get s
  simp only [j,o]
  by_cases hx:y.cps.toList<z.cps.toList
  ·rw [if_pos hx]
   refine aL.trans (bG _) (Hc b c w i e x y z t u f (by lia) h g j o (decide_eq_true hx) p) (fun _=>rfl) (fun _=>rfl) fun d => ?_
   exact vp b c w n (2*i+1) (f.set i (.str y t)) ((2*i+2:Nat):Int) e x (fun a k=>match a,k with | 1,1=>d 0 | 2,1=>p 2 1+1 | 2,5=>d 1 | 2,13=>d 2 | 2,14=>d 4 | 2,15=>d 3 | a,k=>p a k) (by rw [List.length_set];lia) (by rw [List.length_set];exact h) (by rw [List.length_set];exact g) (m.set _ _ _)
  ·rw [if_neg hx]
   refine aL.trans (bG _) (Hd b c w i e x y z t u f (by lia) h g j o (decide_eq_false hx) p) (fun _=>rfl) (fun _=>rfl) fun d => ?_
   exact vp b c w n (2*i+2) (f.set i (.str z u)) ((2*i+2:Nat):Int) e x (fun a k=>match a,k with | 1,1=>d 0 | 2,1=>p 2 1+1 | 2,5=>d 1 | 2,13=>d 2 | 2,14=>d 4 | 2,15=>d 3 | a,k=>p a k) (by rw [List.length_set];lia) (by rw [List.length_set];exact h) (by rw [List.length_set];exact g) (m.set _ _ _)
 ·have o:f[2*i+2]? = none:=List.getElem?_eq_none (by lia)
  simp only [j,o]
  refine aL.trans (bG _) (He b c w i e x y t f (by lia) (by lia) h g j p) (fun _=>rfl) (fun _=>rfl) fun d => ?_
  exact vp b c w n (2*i+1) (f.set i (.str y t)) ((2*i+2:Nat):Int) e x (fun a k=>match a,k with | 1,1=>d 0 | 2,1=>p 2 1+1 | 2,5=>d 1 | 2,13=>d 2 | 2,14=>d 4 | 2,15=>d 3 | a,k=>p a k) (by rw [List.length_set];lia) (by rw [List.length_set];exact h) (by rw [List.length_set];exact g) (m.set _ _ _)
section
def pu (d q:Nat) (x:Str) (e:Nat) (a:Yb) (c:Nat):aH:=bA (fun p=>.call (.ref 128) ⟨[.ref (p 1 0),.int 0 (p 0 1),.int (q:Int) (p 0 2)],[]⟩) [c] (fun p=>[(p 1 0,ab a (p 1 1))]) (fun p b=>(.ret .none,[ab (ju d a q x e) (b 0)],[]))
theorem vq {b c:Bool} {w:Yc} {m f q:Nat} {x:Str} {d:Nat} {a:Yb} {i:Nat} (s:q≤f) (h:q<a.length) (k:a.length≤100) (o:bk a) (hx:a[q]? = some (.str x d)) (g:2≤m):(pu f q x d a i).Sure (B0 (W b c w)) m:=by
 cases q with
 | zero=>
  refine (bS (by simp) fun p => ?_:aH.Sure (B0 (W b c w)) 2 _).le g
  have e:ju f a 0 x d=a.set 0 (.str x d):=by unfold ju;cases f <;> rfl
  rw [e]
  exact Hb b c w x d a h hx p
 | succ j=>
  cases f with
  | zero=>lia
  | succ n=>exact (bS (by simp) fun p=>Ha b c w j n x d a (by lia) h k o hx p:aH.Sure (B0 (W b c w)) 2 _).le g
def Ac (w:Yc) (n:Nat) (x:Str) (a:Yb) (b c:Nat):aH:=bA (fun p=>dM w (p 2 0)) [b,c] (fun p=>sV w 0 a.length x a p) (sW w x a.length (bV (n+1) a 0 0))
theorem Hl {b c:Bool} {w:Yc} {m n:Nat} {x:Str} {a:Yb} {d e:Nat} (f:[d,e].Nodup) (j:a.length≤n+1) (i:a.length≤100) (h:bk a) (k:1<a.length) (g:1≤m):(Ac w n x a d e).Sure (B0 (W b c w)) m:=
 (bS f fun p=>Hk b c w n 0 a a.length x p (by lia) rfl i h (by lia)).le g
def Ad (w:Yc) (x:Str) (a:Yb) (b c:Nat):aH:=bA (fun p=>dM w (p 2 0)) [b,c] (fun p=>sV w 0 a.length x a p) (z9 w 0 a.length x a)
theorem Hm {b c:Bool} {w:Yc} {m:Nat} {x:Str} {a:Yb} {d e:Nat} (f:[d,e].Nodup) (h:a.length≤1) (g:1≤m):(Ad w x a d e).Sure (B0 (W b c w)) m:=
 (bS f fun p=>Hf b c w 0 a.length x a (by lia) p).le g
theorem vr:∀(n:Nat) (a:Yb) (i:Nat) (r:Int),i<a.length→(bV n a i r).1.length=a.length∧(bV n a i r).2.1<a.length
 | 0,a,i,r,h=>⟨rfl,h⟩
 | n+1,a,i,r,h=>by
  have b:∀(v:Yd) (c:Nat) (d:Int),c<a.length→(bV n (a.set i v) c d).1.length=a.length∧(bV n (a.set i v) c d).2.1<a.length:=fun v c d j=>by
   have q:=vr n (a.set i v) c d (by rw [List.length_set];exact j)
   rw [List.length_set] at q
   exact q
  have g:∀(k:Nat) (v:Yd),a[k]? = some v→k<a.length:=fun k v e=>by
   rcases Nat.lt_or_ge k a.length with q | q
   ·exact q
   ·rw [List.getElem?_eq_none q] at e;cases e
  unfold bV
  split
  ·rename_i f
   split
   ·rename_i m
    split
    ·exact b _ _ _ f
    ·exact b _ _ _ (g _ _ m)
   ·exact b _ _ _ f
   ·exact ⟨rfl,h⟩
  ·exact ⟨rfl,h⟩
theorem px:∀(n:Nat) (a:Yb) (i:Nat) (r:Int),bk a→bk (bV n a i r).1
 | 0,a,i,r,h=>h
 | n+1,a,i,r,h=>by
  unfold bV
  split
  ·split
   ·split
    ·exact px n _ _ _ (h.set _ _ _)
    ·exact px n _ _ _ (h.set _ _ _)
   ·exact px n _ _ _ (h.set _ _ _)
   ·exact h
  ·exact h
def fP (n:Nat) (a:Yb) (x:Str) (t:Nat):Yb:=(bV (n+1) a 0 0).1.set (bV (n+1) a 0 0).2.1 (.str x t)
def fQ (n:Nat) (vs:Yb) (x:Str) (t:Nat):Yb:=ju 100 (fP n vs x t) (bV (n+1) vs 0 0).2.1 x t
end
namespace Srt
def Kp (ok:Nat→Prop) (lt:Nat→Nat→Bool) {α : Type}:KasT α→(α→Prop)→Prop
 | .ret a,G=>G a
 | .ask i j k,G=>ok i∧ok j∧Kp ok lt (k (lt i j)) G
def ff (lt:Nat→Nat→Bool) {α : Type}:KasT α→α
 | .ret a=>a
 | .ask i j k=>ff lt (k (lt i j))
section
variable {ok:Nat→Prop} {lt:Nat→Nat→Bool} {α β : Type}
theorem Kp.bind {f : α→KasT β} {G : β→Prop}:∀{t:KasT α},Kp ok lt t (fun a=>Kp ok lt (f a) G)→Kp ok lt (t.bind f) G
 | .ret _,h=>h
 | .ask _ _ _,h=>⟨h.1,h.2.1,Kp.bind h.2.2⟩
theorem Kp.mono {G c : α→Prop} (b:∀a,G a→c a):∀{t:KasT α},Kp ok lt t G→Kp ok lt t c
 | .ret _,h=>b _ h
 | .ask _ _ _,h=>⟨h.1,h.2.1,Kp.mono b h.2.2⟩
theorem Kp.ev {G : α→Prop}:∀{t:KasT α},Kp ok lt t G→G (ff lt t)
 | .ret _,h=>h
 | .ask i j k,h=>Kp.ev (t:=k (lt i j)) h.2.2
theorem Kp.wp {G : α→Prop} {a:Nat→Nat→(Bool→Shared→Prop)→Shared→Prop} {s:Shared} (c:∀i j,ok i→ok j→∀C:Bool→Shared→Prop,C (lt i j) s→a i j C s) {Q : α→Shared→Prop}:∀{t:KasT α},Kp ok lt t G→Q (ff lt t) s→t.kasWp a Q s
 | .ret _,_,b=>b
 | .ask i j k,h,b=>c i j h.1 h.2.1 _ (Kp.wp (t:=k (lt i j)) c h.2.2 b)
structure Wk (lt:Nat→Nat→Bool):Prop where
 asym:∀a b,lt a b=true→lt b a=false
 neg:∀a b c,lt b a=false→lt c b=false→lt c a=false
def Le (lt:Nat→Nat→Bool) (a b:Nat):Prop:=lt b a=false
def v (p:Array Nat) (k:Nat):Nat:=p.getD k 0
def Up (lt:Nat→Nat→Bool) (p:Array Nat) (m:Nat):Prop:=∀i j,i<j→j<m→Le lt (v p i) (v p j)
def Dn (lt:Nat→Nat→Bool) (p:Array Nat) (m:Nat):Prop:=∀i j,i<j→j<m→Le lt (v p j) (v p i)
def St (N:Nat) (p:Array Nat):Prop:=p.size=N∧p.Perm (List.toArray (List.range N))
theorem St.inR {N:Nat} {p:Array Nat} (h:St N p) {k:Nat} (b:k<N):v p k<N:=by
 have a:k<p.size:=by rw [h.1];exact b
 have e:v p k=p[k]:=by unfold v;simp [Array.getD,a]
 rw [e]
 have m:p[k]∈p.toList:=by simp
 have:=(Array.perm_iff_toList_perm.mp h.2).mem_iff.mp m
 simpa using this
theorem Ae {p:Array Nat} {a d:Nat} (c:a<p.size) (b:d≤a) (k:Nat):v (bubble p a d) k=if k=a-d then v p a else if a-d<k∧k≤a then v p (k-1) else v p k:=by
 have e:=getElem?_bubble c d b k
 have g:∀(q:Array Nat) (i:Nat),v q i=(q[i]?).getD 0:=fun q i=>by unfold v;simp [Array.getD,getElem?_def];split <;> simp_all
 rw [g,e]
 split
 ·rw [g]
 ·split
  ·rw [g]
  ·rw [g]
theorem vt {p:Array Nat} {i j:Nat} (a:j≤p.size) (k:Nat):v (kas_rev p i j) k=if i≤k∧k<j then v p (i+j-1-k) else v p k:=by
 have e:=getElem?_mirror_all (xs:=p) (i:=i) a k
 have g:∀(q:Array Nat) (i:Nat),v q i=(q[i]?).getD 0:=fun q i=>by unfold v;simp [Array.getD,getElem?_def];split <;> simp_all
 unfold kas_rev
 rw [g,e]
 split
 ·rw [g]
 ·rw [g]
theorem St.rev {N:Nat} {p:Array Nat} (h:St N p) (i j:Nat):St N (kas_rev p i j):=⟨(mirror_size _ _ _ _).trans h.1,(mirror_perm _ _ _ _).trans h.2⟩
theorem St.bub {N:Nat} {p:Array Nat} (h:St N p) (i d:Nat):St N (bubble p i d):=⟨(bubble_size _ _ _).trans h.1,(bubble_perm _ _ _).trans h.2⟩
variable (O:Wk lt) {N:Nat}
theorem Le.refl (O:Wk lt) (a:Nat):Le lt a a:=by
 unfold Le
 cases h:lt a a with
 | false=>rfl
 | true=>have:=O.asym _ _ h;rw [h] at this;exact this
theorem Le.trans (O:Wk lt) {a b c:Nat} (e:Le lt a b) (d:Le lt b c):Le lt a c:=O.neg a b c e d
theorem le_of_lt (O:Wk lt) {a b:Nat} (h:lt a b=true):Le lt a b:=O.asym _ _ h
theorem Hn (O:Wk lt) {a b c:Nat} (e:lt a b=true) (d:Le lt b c):lt a c=true:=by
 cases h:lt a c with
 | true=>rfl
 | false=>
  have:lt a b=false:=O.neg b c a d h
  rw [e] at this;cases this
abbrev kj (N:Nat):Nat→Prop:=fun x=>x<N
theorem vu (O:Wk lt) {p:Array Nat} (h:St N p):∀(f n:Nat),1≤n→n+f≤N→Up lt p n→Kp (kj N) lt (kas_asc p f n) fun m=>n≤m∧m≤n+f∧Up lt p m∧(m<n+f→lt (v p m) (v p (m-1))=true)
 | 0,n,_,_,u=>⟨Nat.le_refl _,Nat.le_refl _,u,fun h=>absurd h (Nat.lt_irrefl _)⟩
 | f+1,n,s,o,u=>by
  refine ⟨h.inR (k:=n) (by lia),h.inR (k:=n-1) (by lia),?_⟩
  show Kp _ _ (if lt (v p n) (v p (n-1))=true then _ else _) _
  split
  ·rename_i a
   exact ⟨Nat.le_refl _,by lia,u,fun _=>a⟩
  ·rename_i a
   have a:Le lt (v p (n-1)) (v p n):=by simpa [Le] using a
   refine Kp.mono (fun m c=>⟨by lia,by lia,c.2.2.1,fun q=>c.2.2.2 (by lia)⟩) (vu O h f (n+1) (by lia) (by lia) fun i j b g => ?_)
   by_cases e:j=n
   ·subst e
    by_cases d:i=j-1
    ·subst d;exact a
    ·exact Le.trans O (u i (j-1) (by lia) (by lia)) a
   ·exact u i j b (by lia)
def nf (lt:Nat→Nat→Bool) (p:Array Nat) (i j:Nat):Prop:=∀a b,i≤a→a<j→i≤b→b<j→Le lt (v p a) (v p b)
theorem Af (O:Wk lt) {p:Array Nat} {i j:Nat} (a:j≤p.size) (e:nf lt p i j) (k:Nat):Le lt (v (kas_rev p i j) k) (v p k)∧Le lt (v p k) (v (kas_rev p i j) k):=by
 rw [vt a]
 split
 ·rename_i h
  exact ⟨e _ _ (by lia) (by lia) h.1 h.2,e _ _ h.1 h.2 (by lia) (by lia)⟩
 ·exact ⟨Le.refl O _,Le.refl O _⟩
theorem vv (O:Wk lt) {p:Array Nat} {i j m:Nat} (f:j≤p.size) (e:nf lt p i j) (d:Dn lt p m):Dn lt (kas_rev p i j) m:=fun a b c g=>
 Le.trans O (Af O f e b).1 (Le.trans O (d a b c g) (Af O f e a).2)
theorem sX (O:Wk lt) {p:Array Nat} {n:Nat} (f:1≤n) (d:Dn lt p n) (b:Le lt (v p n) (v p (n-1))):Dn lt p (n+1):=fun i j a g=>by
 by_cases e:j=n
 ·subst e
  by_cases c:i=j-1
  ·subst c;exact b
  ·exact Le.trans O b (d i (j-1) (by lia) (by lia))
 ·exact d i j a (by lia)
theorem sY (O:Wk lt):∀(f:Nat) (p:Array Nat) (n q:Nat),St N p→n+f≤N→q+1≤n→Dn lt p n→nf lt p (n-(q+1)) n→
  Kp (kj N) lt (kas_desc f p n q) fun r=>St N r.1∧n≤r.2.1∧r.2.1≤n+f∧r.2.2+1≤r.2.1∧Dn lt r.1 r.2.1∧nf lt r.1 (r.2.1-(r.2.2+1)) r.2.1
 | 0,p,n,q,h,_,s,d,e=>⟨h,Nat.le_refl _,Nat.le_refl _,s,d,e⟩
 | f+1,p,n,q,h,A,s,d,e=>by
  have z:p.size=N:=h.1
  refine ⟨h.inR (k:=n) (by lia),h.inR (k:=n-1) (by lia),?_⟩
  show Kp _ _ (if lt (v p n) (v p (n-1))=true then _ else _) _
  have i:∀(u:Array Nat),nf lt u (n+1-(0+1)) (n+1):=fun u a b j w m y=>by
   have:a=b:=by lia
   subst this;exact Le.refl O _
  split
  ·rename_i g
   have g:=le_of_lt O g
   have t:=sX O (by lia) d g
   split
   ·refine Kp.mono (fun r c=>⟨c.1,by lia,by lia,c.2.2.2⟩) (sY O f _ (n+1) 0 (h.rev _ _) (by lia) (by lia) (vv O (by lia) e t) (i _))
   ·refine Kp.mono (fun r c=>⟨c.1,by lia,by lia,c.2.2.2⟩) (sY O f _ (n+1) 0 h (by lia) (by lia) t (i _))
  ·rename_i g
   have g:Le lt (v p (n-1)) (v p n):=by simpa [Le] using g
   refine ⟨h.inR (k:=n-1) (by lia),h.inR (k:=n) (by lia),?_⟩
   show Kp _ _ (if lt (v p (n-1)) (v p n)=true then _ else _) _
   split
   ·exact ⟨h,Nat.le_refl _,Nat.le_add_right _ _,s,d,e⟩
   ·rename_i c
    have c:Le lt (v p n) (v p (n-1)):=by simpa [Le] using c
    refine Kp.mono (fun r c=>⟨c.1,by lia,by lia,c.2.2.2⟩) (sY O f p (n+1) (q+1) h (by lia) (by lia) (sX O (by lia) d c) ?_)
    have lo:∀a,n+1-(q+1+1)≤a→a<n→Le lt (v p a) (v p (n-1))∧Le lt (v p (n-1)) (v p a):=fun a j w=>⟨e a (n-1) (by lia) (by lia) (by lia) (by lia),e (n-1) a (by lia) (by lia) (by lia) (by lia)⟩
    intro a b j w m y
    by_cases x:a=n
    ·subst x
     by_cases o:b=a
     ·subst o;exact Le.refl O _
     ·exact Le.trans O c (lo b m (by lia)).2
    ·by_cases o:b=n
     ·subst o;exact Le.trans O (lo a j (by lia)).1 g
     ·exact Le.trans O (lo a j (by lia)).1 (lo b m (by lia)).2
theorem Ho (O:Wk lt) {p:Array Nat} {n:Nat} (a:n≤p.size) (d:Dn lt p n):Up lt (kas_rev p 0 n) n:=fun i j b c=>by
 rw [vt a,vt a,if_pos ⟨Nat.zero_le _,by lia⟩,if_pos ⟨Nat.zero_le _,c⟩]
 exact d (0+n-1-j) (0+n-1-i) (by lia) (by lia)
abbrev vw (lt:Nat→Nat→Bool) (N n:Nat) (r:Nat×Array Nat):Prop:=n≤r.1∧r.1≤N∧St N r.2∧Up lt r.2 r.1
theorem Ag (O:Wk lt) {p:Array Nat} {n:Nat} (h:St N p) (c:1≤n) (e:n≤N) (d:Dn lt p n):Kp (kj N) lt (kas_tail3 n N p) (vw lt N 1):=by
 have b:p.size=N:=h.1
 refine Kp.bind (Kp.mono (fun m a => ?_) (vu O (h.rev 0 n) (N-n) n c (by lia) (Ho O (by lia) d)))
 exact ⟨by show 1≤m;lia,by show m≤N;lia,h.rev 0 n,a.2.2.1⟩
theorem Ah (O:Wk lt) {p:Array Nat} {n:Nat} (h:St N p) (j:1≤n) (s:n+1≤N) (d:Dn lt p (n+1)):Kp (kj N) lt (kas_descPart n N p) (vw lt N 1):=by
 refine Kp.bind (Kp.mono (fun r g => ?_) (sY O (N-(n+1)) p (n+1) 0 h (by lia) (by lia) d fun a b j o k t => ?_))
 ·obtain ⟨c,q,u,m,e,f⟩:=g
  have i:r.1.size=N:=c.1
  split
  ·exact Ag O (c.rev _ _) (by lia) (by lia) (vv O (by lia) f e)
  ·exact Ag O c (by lia) (by lia) e
 ·have:a=b:=by lia
  subst this;exact Le.refl O _
theorem Hq (O:Wk lt) {p:Array Nat} (h:St N p) (D:1≤N):Kp (kj N) lt (kas_count N p) (vw lt N 1):=by
 have z:p.size=N:=h.1
 refine Kp.bind (Kp.mono (fun n y => ?_) (vu O h (N-1) 1 (Nat.le_refl _) (by lia) fun i j f o=>by lia))
 obtain ⟨c,B,m,x⟩:=y
 split
 ·exact ⟨c,by lia,h,m⟩
 ·rename_i g
  have g:n≠N:=by simpa using g
  have u:=x (by lia)
  split
  ·rename_i A
   refine ⟨h.inR (k:=0) (by lia),h.inR (k:=n-1) (by lia),?_⟩
   show Kp _ _ (if lt (v p 0) (v p (n-1))=true then _ else _) _
   split
   ·exact ⟨c,by lia,h,m⟩
   ·rename_i s
    have s:Le lt (v p (n-1)) (v p 0):=by simpa [Le] using s
    have t:∀a b,a≤b→b<n→Le lt (v p a) (v p b):=fun a b w q=>by
     by_cases e:a=b
     ·subst e;exact Le.refl O _
     ·exact m a b (by lia) q
    have e:nf lt p 0 n:=fun a b _ C _ q=>Le.trans O (t a (n-1) (by lia) (by lia)) (Le.trans O s (t 0 b (Nat.zero_le _) q))
    have d:Dn lt p (n+1):=sX O c (fun i j f o=>e j i (Nat.zero_le _) o (Nat.zero_le _) (by lia)) (le_of_lt O u)
    exact Ah O (h.rev _ _) c (by lia) (vv O (by lia) e d)
  ·exact Ah O h c (by lia) (sX O c (fun i j f o=>by lia) (le_of_lt O u))
theorem vx (O:Wk lt) {p:Array Nat} (h:St N p) {k:Nat} (m:k<N) (u:Up lt p k):∀(f l r:Nat),r≤l+f→l≤r→r≤k→(∀i,i<l→Le lt (v p i) (v p k))→(∀i,r≤i→i<k→lt (v p k) (v p i)=true)→
  Kp (kj N) lt (kas_place p k f l r) fun j=>j≤k∧(∀i,i<j→Le lt (v p i) (v p k))∧∀i,j≤i→i<k→lt (v p k) (v p i)=true
 | 0,l,r,q,g,o,a,b=>⟨by lia,a,fun i n d=>b i (by lia) d⟩
 | f+1,l,r,q,g,o,a,b=>by
  unfold kas_place
  split
  ·exact ⟨by lia,a,fun i n d=>b i (by lia) d⟩
  ·rename_i s
   refine ⟨h.inR m,h.inR (k:=(l+r) / 2) (by lia),?_⟩
   show Kp _ _ (if lt (v p k) (v p ((l+r) / 2))=true then _ else _) _
   split
   ·rename_i c
    refine vx O h m u f l ((l+r) / 2) (by lia) (by lia) (by lia) a fun i n d => ?_
    by_cases e:i=(l+r) / 2
    ·subst e;exact c
    ·exact Hn O c (u _ _ (by lia) d)
   ·rename_i c
    have c:Le lt (v p ((l+r) / 2)) (v p k):=by simpa [Le] using c
    refine vx O h m u f ((l+r) / 2+1) r (by lia) (by lia) o (fun i n => ?_) b
    by_cases e:i=(l+r) / 2
    ·subst e;exact c
    ·exact Le.trans O (u i _ (by lia) (by lia)) c
theorem Ai (O:Wk lt):∀(f:Nat) (p:Array Nat) (k:Nat),St N p→k+f≤N→Up lt p k→Kp (kj N) lt (kas_bin f p k) fun c=>St N c∧Up lt c (k+f)
 | 0,p,k,h,_,u=>⟨h,u⟩
 | f+1,p,k,h,w,u=>by
  have o:p.size=N:=h.1
  refine Kp.bind (Kp.mono (fun l n => ?_) (vx O h (k:=k) (by lia) u k 0 k (by lia) (by lia) (Nat.le_refl _) (fun i b=>absurd b (Nat.not_lt_zero _)) fun i x t=>by lia))
  obtain ⟨q,m,l3⟩:=n
  refine Kp.mono (fun c d=>⟨d.1,by rw [show k+(f+1)=k+1+f by lia];exact d.2⟩) (Ai O f _ (k+1) (h.bub _ _) (by lia) fun i j g s => ?_)
  rw [Ae (by lia) (by lia),Ae (by lia) (by lia),show k-(k-l)=l by lia]
  by_cases a:i=l
  ·rw [if_pos a,if_neg (by lia),if_pos ⟨by lia,by lia⟩]
   exact le_of_lt O (l3 _ (by lia) (by lia))
  ·by_cases e:j=l
   ·rw [if_neg a,if_neg (by lia),if_pos e]
    exact m i (by lia)
   ·rw [if_neg a,if_neg e]
    by_cases b:l<i
    ·rw [if_pos ⟨b,by lia⟩,if_pos ⟨by lia,by lia⟩]
     exact u _ _ (by lia) (by lia)
    ·rw [if_neg (by lia)]
     split
     ·exact u _ _ (by lia) (by lia)
     ·exact u _ _ (by lia) (by lia)
theorem vy (O:Wk lt) (n:Nat) (h:1≤n):Kp (kj n) lt (kas_sort n) fun p=>St n p∧Up lt p n:=by
 have f:St n (List.toArray (List.range n)):=⟨by simp,Array.Perm.refl _⟩
 refine Kp.bind (Kp.mono (fun r d => ?_) (Hq O f h))
 obtain ⟨g,i,a,c⟩:=d
 split
 ·refine Kp.mono (fun p b=>⟨b.1,?_⟩) (Ai O (n-max r.1 1) r.2 (max r.1 1) a (by lia) (by rw [Nat.max_eq_left g];exact c))
  have e:max r.1 1+(n-max r.1 1)=n:=by lia
  have:=b.2
  rw [e] at this
  exact this
 ·have e:r.1=n:=by lia
  exact ⟨a,e▸c⟩
end
end Srt
section
open PySem PySem.W PySem.W.X PyProof.Rows Srt
def fg (h H:Heap):Prop:=∀b o,h.get? b=some o→H.get? b=some o
theorem fg.push (h:Heap) (o:Obj):fg h (h.push o):=fun _ _ e=>Heap.get?_push_of_some _ e
theorem fg.trans {h d c:Heap} (a:fg h d) (b:fg d c):fg h c:=fun x o e=>b x o (a x o e)
def f6 (vs:Yb) (p:Yh):Yb:=p.map fun i=>vs.getD i .none
section
variable {prog:Program} {w:Yc} {A:Around} {E:Yd→Shared→Prop} {s:Shared}
def Aj (prog:Program) (w:Yc) (A:Around) (s:Shared) (b:Yb) (c:Nat→Nat→Bool):Prop:=
 ∀H:Heap,fg s.heap H→∀i j,i<b.length→j<b.length→∀C:Bool→Shared→Prop,C (c i j) {s with heap:=H}→kas_ask prog w A oneType' b i j C {s with heap:=H}
theorem Hr {a:Addr} {d:Yb} {n:Nat} {m:Nat→Nat→Bool} {P:Fin→Shared→Prop} (f:Heap) (I:fg f s.heap) (hn:f.get? a=none) (ho:s.heap.get? a=some (ab d n)) (h2:2≤d.length) (h64:d.length<64) (O:Wk m)
  (hc:Aj prog w A {s with heap:=f} d m) (hT:∀v∈d,∃b o,v = .ref b∧f.get? b=some o∧o.cls = .type "list")
  (hP:∀S e,fg f S→s.heap.objs.size≤S.objs.size→S.get? a=some (ab (f6 d (ff m (kas_sort d.length)).toList) e)→P (.done (.ret .none)) {s with heap:=S}) :
  wpAny (model prog w) A (Builtin.«list.sort» ⟨[.ref a],[]⟩) P E s:=by
 have L:d.toArray.size=d.length:=List.size_toArray ..
 have y:Heap.SameBut a s.heap (s.heap.update a (Obj.mapSeq fun _=>#[])):=Heap.SameBut.update ..
 have u:=get?_update_seq (c:="list") ho fun _=>(#[]:Array Yd)
 have oo:∀{H:Heap},Heap.SameBut a s.heap H→fg f H:=fun hs b o e=>(hs.2 b (fun z=>by rw [z,hn] at e;cases e)).trans (I b o e)
 have o1:=oo y
 rw [list_sort_plain]
 refine wpAny_bind (listItems_at ho rfl ?_)
 refine wpAny_bind (listUpdate_at ho rfl ?_ (by rw [L,sizeLine_eq];lia) (Nat.zero_le _))
 generalize (s.heap.update a (Obj.mapSeq fun _=>(#[]:Array Yd)))=D at y u o1 ⊢
 generalize (if ((#[]:Array Yd)).size==d.toArray.size then n else n+1)=e1 at u
 have Y:D.objs.size=s.heap.objs.size:=y.1
 refine wpAny_bind (seqEpoch_at u rfl ?_)
 refine wpAny_bind (wpAny_newTuple ?_ (by show d.length≤_;rw [sizeLine_eq];lia))
 refine wpAny_bind (wpAny_newList ?_ (Nat.zero_le _))
 refine wpAny_holding ?_
 have p2:fg D ((D.push (seqObj "tuple" d.toArray 0)).push (seqObj "list" #[] 0)):=(fg.push _ _).trans (fg.push _ _)
 show wpAny (model prog w) A _ P E {s with heap:=(D.push (seqObj "tuple" d.toArray 0)).push (seqObj "list" #[] 0)}
 have F:((D.push (seqObj "tuple" d.toArray 0)).push (seqObj "list" #[] 0)).objs.size=s.heap.objs.size+2:=by rw [Heap.size_push,Heap.size_push,Y]
 have t:=p2 _ _ u
 have o2:=o1.trans p2
 generalize (D.push (seqObj "tuple" d.toArray 0)).push (seqObj "list" #[] 0)=B at t o2 F ⊢
 dsimp only
 have N:¬d.toArray.size<2:=by rw [L];lia
 rw [if_neg N,if_neg N]
 refine wpAny_bind (kas_kind (T:=.type "list") h2 (fun v hv => ?_) (by decide) (by decide) ?_)
 ·obtain ⟨b,o,rfl,hb,U⟩:=hT v hv
  exact fun A Q E x k q=>wpAny_typeOf (T:="list") ⟨o,k _ _ (o2 _ _ hb),U⟩ q
 have V:SortSt.mk' oneType' (d.toArray.zip d.toArray) #[] 7 none=kas_st oneType' (pairsOf d) (List.toArray (List.range d.length)):=by
  have e:=kas_range (pairsOf d)
  rw [pairsOf_size] at e
  show SortSt.mk' oneType' (pairsOf d) #[] 7 none=SortSt.mk' oneType' ((List.toArray (List.range d.length)).map (kas_item (pairsOf d))) #[] 7 none
  rw [e]
 have so:=vy O d.length (by lia)
 have ask:(kas_sort d.length).kasWp (kas_cmp prog w A oneType' (pairsOf d)) (fun p x=>p=ff m (kas_sort d.length)∧x={s with heap:=B}) {s with heap:=B}:=by
  rw [←kas_ask_eq]
  exact Kp.wp (fun i j hi hj C hC=>hc B o2 i j hi hj C hC) so ⟨rfl,rfl⟩
 have run:=kas_runs (E:=E) (Q:=fun _ h x=>failedOf h=none∧arrOf h=(ff m (kas_sort d.length)).map (kas_item (pairsOf d))∧x={s with heap:=B}) (G:=fun p x=>p=ff m (kas_sort d.length)∧x={s with heap:=B}) h2 h64 (fun p' h x _ a2 a3 a4=>⟨a3,a4.1▸a2,a4.2⟩) ask
 rw [←V] at run
 refine wpAny_bind (wpAny_mono run ?_ fun _ _ e=>e)
 rintro ⟨⟨⟩,h⟩ x ⟨hf,Z,rfl⟩
 dsimp only
 have J:(arrOf h).map (·.2)=(f6 d (ff m (kas_sort d.length)).toList).toArray:=by
  apply Array.toList_inj.mp
  rw [Z,Array.map_map,Array.toList_map]
  exact List.map_congr_left fun i _=>by show (kas_item (pairsOf d) i).2=_;rw [kas_item_eq]
 have R:(f6 d (ff m (kas_sort d.length)).toList).toArray.size=d.length:=by
  rw [List.size_toArray]
  show (List.map _ _).length=_
  rw [List.length_map,Array.length_toList]
  exact so.ev.1.1
 rw [J]
 have K:Heap.SameBut a B (B.update a (Obj.mapSeq fun _=>(f6 d (ff m (kas_sort d.length)).toList).toArray)):=Heap.SameBut.update ..
 have X:=get?_update_seq (c:="list") t fun _=>(f6 d (ff m (kas_sort d.length)).toList).toArray
 refine wpAny_bind (seqEpoch_at t rfl ?_)
 refine wpAny_bind (listUpdate_at t rfl ?_ (Nat.zero_le _) (by rw [R,sizeLine_eq];lia))
 rw [hf]
 simp only [bne_self_eq_false,Bool.false_eq_true,if_false]
 exact wpAny_pure (hP _ _ (fun b o e=>(K.2 b (fun z=>by rw [z,hn] at e;cases e)).trans (o2 b o e)) (by rw [K.1,F];lia) X)
theorem Hs {l:Addr} {vs:Yb} {n:Nat} {lt:Nat→Nat→Bool} {Q:Yd→Shared→Prop} (u:s.heap.get? l=some (ab vs n)) (x:2≤vs.length) (h64:vs.length<64) (O:Wk lt)
  (p:Aj prog w A.in1.in1 s vs lt) (hT:∀v∈vs,∃b o,v = .ref b∧s.heap.get? b=some o∧o.cls = .type "list")
  (q:∀f e,fg s.heap f→s.heap.objs.size≤f.objs.size→f.get? (s.heap.objs.size+1)=some (ab (f6 vs (ff lt (kas_sort vs.length)).toList) e)→Q (.ref (s.heap.objs.size+1)) {s with heap:=f}) :
  wpAny (model prog w) A (call (.builtin "sorted") [.ref l]) Q E s:=by
 refine Calls.call_function_entry kind_sorted plain_sorted entry_sorted (args_sorted1 _) ?_
 unfold Builtin.«sorted»
 refine wpAny_bind (m:=checkCount "sorted" 1 1 _) (wpAny_pure ?_)
 refine wpAny_bind (collect_list (s:=s) ⟨_,u,rfl,n,rfl⟩ ?_ (by rw [sizeLine_eq];lia))
 refine wpAny_bind (wpAny_newList ?_ (by rw [sizeLine_eq];lia))
 have d:Heap.SameBut s.heap.objs.size (s.heap.push (seqObj "list" #[] 0)) ((s.heap.push (seqObj "list" #[] 0)).update s.heap.objs.size (Obj.mapSeq (· ++ vs.toArray))):=Heap.SameBut.update ..
 have i:fg s.heap ((s.heap.push (seqObj "list" #[] 0)).update s.heap.objs.size (Obj.mapSeq (· ++ vs.toArray))):=fun b o e=>(d.2 b (Nat.ne_of_lt (Heap.lt_size e))).trans (Heap.get?_push_of_some _ e)
 have a:((s.heap.push (seqObj "list" #[] 0)).update s.heap.objs.size (Obj.mapSeq (· ++ vs.toArray))).objs.size=s.heap.objs.size+1:=by rw [d.1,Heap.size_push]
 show wpAny _ _ _ _ _ {s with heap:=((s.heap.push (seqObj "list" #[] 0)).update s.heap.objs.size (Obj.mapSeq (· ++ vs.toArray))).push (seqObj "list" vs.toArray 0)}
 generalize ((s.heap.push (seqObj "list" #[] 0)).update s.heap.objs.size (Obj.mapSeq (· ++ vs.toArray)))=g at d i a ⊢
 have h:(g.push (seqObj "list" vs.toArray 0)).get? (s.heap.objs.size+1)=some (ab vs 0):=by
  rw [←a];exact Heap.get?_push_size _ rfl
 rw [a]
 have y:s.heap.get? (s.heap.objs.size+1)=none:=Heap.get?_none_of_le (Nat.le_succ _)
 refine wpAny_bind (wpAny_holding (wpAny_call_entry slot_list_sort ⟨_,h,rfl⟩ entry_list_sort (Hr (s:={s with heap:=g.push (seqObj "list" vs.toArray 0)}) s.heap (i.trans (fg.push _ _)) y h x h64 O p hT fun f e t k j => ?_) (args_list_sort _)))
 refine ⟨_,rfl,wpAny_pure ⟨_,rfl,q f e t ?_ j⟩⟩
 have:(g.push (seqObj "list" vs.toArray 0)).objs.size≤f.objs.size:=k
 rw [Heap.size_push,a] at this
 lia
end
end
section
open PySem PySem.W PySem.W.X PyProof.Rows Srt
def c4 (x y:Str):Bool:=decide (x.cps.toList<y.cps.toList)
theorem jv (x:Str):c4 x x=false:=decide_eq_false (List.lt_irrefl _)
theorem ng {x y:Str} (h:c4 x y=true):c4 y x=false:=by
 refine decide_eq_false fun a => ?_
 exact List.lt_irrefl _ (List.lt_trans (of_decide_eq_true h) a)
theorem sZ {x y z:Str} (b:c4 y x=false) (a:c4 z y=false):c4 z x=false:=by
 have b:=List.not_lt.mp (of_decide_eq_false b)
 have a:=List.not_lt.mp (of_decide_eq_false a)
 exact decide_eq_false (List.not_lt.mpr (List.le_trans b a))
theorem Ak {x y:Str} (h:x.cps.toList=y.cps.toList):x=y:=by
 obtain ⟨a⟩:=x;obtain ⟨b⟩:=y
 exact congrArg _ (Array.toList_inj.mp h)
theorem s0 {x y:Str} (a:c4 x y=false) (b:c4 y x=false):x=y:=
 Ak (List.le_antisymm (List.not_lt.mp (of_decide_eq_false b)) (List.not_lt.mp (of_decide_eq_false a)))
theorem kl (x y:Str) (a b:Yg):aP (x::a) (y::b)=if x=y then aP a b else c4 x y:=by
 show (if x==y then aP a b else _)=_
 by_cases h:x=y
 ·rw [if_pos h,if_pos (by rw [h];exact beq_self_eq_true _)]
 ·rw [if_neg h,if_neg (by rw [beq_iff_eq];exact h)];rfl
theorem Al:∀(a b:Yg),aP a b=true→aP b a=false
 | [],[],h=>by cases h
 | [],y::b,_=>rfl
 | x::a,[],h=>by cases h
 | x::a,y::b,h=>by
  rw [kl] at h ⊢
  by_cases e:x=y
  ·rw [if_pos e] at h
   rw [if_pos e.symm]
   exact Al a b h
  ·rw [if_neg e] at h
   rw [if_neg (Ne.symm e)]
   exact ng h
theorem Am:∀(b c d:Yg),aP c b=false→aP d c=false→aP d b=false
 | [],_,[],_,_=>rfl
 | [],_,_::_,_,_=>rfl
 | x::b,[],_,h,_=>by rw [mU] at h;simp at h
 | x::b,y::c,[],_,h=>by rw [mU] at h;simp at h
 | x::b,y::c,z::d,h1,h2=>by
  rw [kl] at h1 h2 ⊢
  by_cases e:y=x
  ·subst e
   rw [if_pos rfl] at h1
   by_cases a:z=y
   ·rw [if_pos a] at h2 ⊢
    exact Am b c d h1 h2
   ·rw [if_neg a] at h2 ⊢
    exact h2
  ·rw [if_neg e] at h1
   by_cases a:z=y
   ·subst a
    rw [if_neg e]
    exact h1
   ·rw [if_neg a] at h2
    by_cases f:z=x
    ·subst f
     exact absurd (s0 h2 h1) (fun q=>a q)
    ·rw [if_neg f]
     exact sZ h1 h2
theorem vz (f:Nat→Yg):Wk fun i j=>aP (f i) (f j):=⟨fun a b h=>Al _ _ h,fun a b c e d=>Am _ _ _ e d⟩
end
def sv:Yd→Str
 | .str s _=>s
 | _=>""
def kv (a:Yb) (j:Nat):Str:=((a[j]?).map sv).getD ""
theorem nh {a:Yb} {i:Nat} (b:i<a.length) (x:Yd) (j:Nat):kv (a.set i x) j=if j=i then sv x else kv a j:=by
 unfold kv
 rw [List.getElem?_set]
 by_cases e:i=j
 ·subst e
  rw [if_pos rfl,if_pos b,if_pos rfl];rfl
 ·rw [if_neg e,if_neg (Ne.symm e)]
theorem s1 {a:Yb} {i:Nat} {y:Str} {t:Nat} (h:a[i]? = some (.str y t)):kv a i=y:=by
 unfold kv;rw [h];rfl
def Hp (vs:Yb):Prop:=∀j,0<j→j<vs.length→c4 (kv vs j) (kv vs ((j-1) / 2))=false
def iR (a:Yb) (i:Nat):Prop:=∀j,0<j→j<a.length→j≠i→(j-1) / 2≠i→c4 (kv a j) (kv a ((j-1) / 2))=false
def s5 (a:Yb) (i:Nat) (x:Str):Prop:=∀c,0<c→c<a.length→(c-1) / 2=i→c4 (kv a c) x=false
theorem iR.set {a:Yb} {i:Nat} (h:iR a i) (d:i<a.length) (x:Yd):iR (a.set i x) i:=fun j f b e c=>by
 rw [List.length_set] at b
 rw [nh d,nh d,if_neg e,if_neg c]
 exact h j f b e c
theorem An {a:Yb} {i c:Nat} (g:i<a.length) (j:c<a.length) (b:i≠c) {v:Yd} (m:a[c]? = some v) (X:Yd):((a.set i v).set c X).Perm (a.set i X):=by
 have p:=swapIB_perm (a.set i X).toArray i c
 have q:=Array.perm_iff_toList_perm.mp p
 have e:((a.set i X).toArray.swapIfInBounds i c).toList=(a.set i v).set c X:=by
  refine List.ext_getElem? fun k => ?_
  rw [Array.getElem?_toList,getElem?_swapIB (by simpa using g) (by simpa using j)]
  simp only [List.getElem?_toArray,List.getElem?_set,List.length_set]
  by_cases d:k=c
  ·subst d
   simp [g,j,b,Ne.symm b]
  ·by_cases f:k=i
   ·subst f
    have h:a[c]=v:=(List.getElem?_eq_some_iff.mp m).2
    simp [g,j,d,Ne.symm d,h,b,Ne.symm b]
   ·simp [d,f,Ne.symm d,Ne.symm f]
 rw [e] at q
 exact q
theorem Ao (x:Str) (t:Nat):∀(n i:Nat) (a:Yb) (k:Int) (y:Str),i≤n→i<a.length→bk a→iR a i→s5 a i x→(0<i→s5 a i (kv a ((i-1) / 2)))→
  Hp ((dL n a i x k y).1.set (dL n a i x k y).2.1 (.str x t))∧((dL n a i x k y).1.set (dL n a i x k y).2.1 (.str x t)).Perm (a.set i (.str x t)):=by
 have p:∀(i:Nat) (a:Yb),i<a.length→iR a i→s5 a i x→(0<i→c4 x (kv a ((i-1) / 2))=false)→Hp (a.set i (.str x t)):=fun i a E f s F j I b=>by
  rw [List.length_set] at b
  rw [nh E,nh E]
  by_cases o:j=i
  ·subst o
   rw [if_pos rfl,if_neg (by lia)]
   exact F I
  ·rw [if_neg o]
   by_cases d:(j-1) / 2=i
   ·rw [if_pos d]
    exact s j I b d
   ·rw [if_neg d]
    exact f j I b o d
 intro n
 induction n with
 | zero=>
  intro i a k y E b G f s _
  have:i=0:=by lia
  subst this
  exact ⟨p 0 a b f s fun h=>absurd h (by lia),List.Perm.refl _⟩
 | succ n P=>
  intro i a k y E b G f s F
  cases i with
  | zero=>exact ⟨p 0 a b f s fun h=>absurd h (by lia),List.Perm.refl _⟩
  | succ j=>
   obtain ⟨g,N,e⟩:=G.get (i:=j / 2) (by lia)
   have D:=s1 e
   unfold dL
   simp only [e]
   by_cases hx:x.cps.toList<g.cps.toList
   ·rw [if_pos hx]
    have w:c4 x g=true:=decide_eq_true hx
    have Q:j+1≠j / 2:=by lia
    have K:(j+1-1) / 2=j / 2:=by rw [Nat.add_sub_cancel]
    have A:∀m,kv (a.set (j+1) (.str g N)) m=if m=j+1 then g else kv a m:=fun m=>nh b _ m
    have C:∀c,0<c→c<a.length→(c-1) / 2=j / 2→c4 (kv a c) g=false∨c=j+1:=fun c z q B=>by
     by_cases u:c=j+1
     ·exact .inr u
     ·refine .inl ?_
      have:=f c z q u (by lia)
      rw [B,D] at this
      exact this
    obtain ⟨q1,q2⟩:=P (j / 2) (a.set (j+1) (.str g N)) ((j / 2:Nat):Int) g (by lia) (by rw [List.length_set];lia) (G.set _ _ _) (fun m L H S O=>by
      rw [List.length_set] at H
      rw [A,A]
      by_cases o:m=j+1
      ·exfalso;subst o;exact O K
      ·rw [if_neg o]
       by_cases d:(m-1) / 2=j+1
       ·rw [if_pos d]
        have:=F (by lia) m L H d
        rw [K,D] at this
        exact this
       ·rw [if_neg d]
        exact f m L H o d) (fun c z q B=>by
      rw [List.length_set] at q
      rw [A]
      split
      ·exact ng w
      ·rename_i u
       rcases C c z q B with h | h
       ·exact sZ (ng w) h
       ·exact absurd h u) (fun R c z q B=>by
      rw [List.length_set] at q
      have J:c4 g (kv a ((j / 2-1) / 2))=false:=by
       have:=f (j / 2) R (by lia) (by lia) (by lia)
       rw [D] at this
       exact this
      rw [A,A,if_neg (show (j / 2-1) / 2≠j+1 by lia)]
      split
      ·exact J
      ·rename_i u
       rcases C c z q B with h | h
       ·exact sZ J h
       ·exact absurd h u)
    exact ⟨q1,q2.trans (An b (by lia) Q e _)⟩
   ·rw [if_neg hx]
    refine ⟨p (j+1) a b f s fun _ => ?_,List.Perm.refl _⟩
    rw [Nat.add_sub_cancel,D]
    exact decide_eq_false hx
theorem Ht:∀(n i:Nat) (a:Yb) (r:Int),a.length≤i+n→i<a.length→bk a→iR a i→(0<i→s5 a i (kv a ((i-1) / 2)))→
  iR (bV n a i r).1 (bV n a i r).2.1∧(bV n a i r).1.length=a.length∧a.length≤2*(bV n a i r).2.1+1∧(bV n a i r).2.1<a.length∧(0<(bV n a i r).2.1→i<(bV n a i r).2.1∨(bV n a i r).2.1=i)∧∀X,((bV n a i r).1.set (bV n a i r).2.1 X).Perm (a.set i X):=by
 intro n
 induction n with
 | zero=>intro i a r L s _ _ _;lia
 | succ n J=>
  intro i a r L s D E O
  unfold bV
  by_cases k:2*i+1<a.length
  ·rw [if_pos k]
   obtain ⟨y,t,p⟩:=D.get k
   have C:=s1 p
   have b:∀(c:Nat) (z:Str) (u:Nat),c<a.length→(c=2*i+1∨c=2*i+2)→a[c]? = some (.str z u)→(∀d,d<a.length→(d=2*i+1∨d=2*i+2)→c4 (kv a d) z=false)→
     iR (bV n (a.set i (.str z u)) c ((2*i+2:Nat):Int)).1 (bV n (a.set i (.str z u)) c ((2*i+2:Nat):Int)).2.1∧(bV n (a.set i (.str z u)) c ((2*i+2:Nat):Int)).1.length=a.length∧a.length≤2*(bV n (a.set i (.str z u)) c ((2*i+2:Nat):Int)).2.1+1∧(bV n (a.set i (.str z u)) c ((2*i+2:Nat):Int)).2.1<a.length∧(0<(bV n (a.set i (.str z u)) c ((2*i+2:Nat):Int)).2.1→i<(bV n (a.set i (.str z u)) c ((2*i+2:Nat):Int)).2.1∨(bV n (a.set i (.str z u)) c ((2*i+2:Nat):Int)).2.1=i)∧∀X,((bV n (a.set i (.str z u)) c ((2*i+2:Nat):Int)).1.set (bV n (a.set i (.str z u)) c ((2*i+2:Nat):Int)).2.1 X).Perm (a.set i X):=by
    intro c z u f N e g
    have q:=s1 e
    have w:∀m,kv (a.set i (.str z u)) m=if m=i then z else kv a m:=fun m=>nh s _ m
    obtain ⟨q1,q2,q3,G,I,K⟩:=J c (a.set i (.str z u)) ((2*i+2:Nat):Int) (by rw [List.length_set];lia) (by rw [List.length_set];exact f) (D.set _ _ _) (fun j F A T S=>by
      rw [List.length_set] at A
      rw [w,w]
      by_cases B:j=i
      ·subst B
       rw [if_pos rfl,if_neg (by lia)]
       have:=O F c (by lia) f (by lia)
       rw [q] at this
       exact this
      ·rw [if_neg B]
       by_cases x:(j-1) / 2=i
       ·rw [if_pos x]
        exact g j A (by lia)
       ·rw [if_neg x]
        exact E j F A B x) (fun R d P dl Q=>by
      rw [List.length_set] at dl
      rw [w,w,if_neg (by lia),if_pos (by lia)]
      have:=E d P dl (by lia) (by lia)
      rw [Q,q] at this
      exact this)
    rw [List.length_set] at q2 q3 G
    refine ⟨q1,q2,q3,G,fun h=>.inl ?_,fun X=>(K X).trans (An s f (by lia) e X)⟩
    rcases I h with h | h
    ·lia
    ·lia
   by_cases H:2*i+2<a.length
   ·obtain ⟨z,u,e⟩:=D.get H
    have q:=s1 e
    simp only [p,e]
    by_cases hx:y.cps.toList<z.cps.toList
    ·rw [if_pos hx]
     refine b (2*i+1) y t k (.inl rfl) p fun d dl o => ?_
     rcases o with rfl | rfl
     ·rw [C];exact jv y
     ·rw [q];exact ng (decide_eq_true hx)
    ·rw [if_neg hx]
     refine b (2*i+2) z u H (.inr rfl) e fun d dl o => ?_
     rcases o with rfl | rfl
     ·rw [C];exact decide_eq_false hx
     ·rw [q];exact jv z
   ·have e:a[2*i+2]? = none:=List.getElem?_eq_none (by lia)
    simp only [p,e]
    refine b (2*i+1) y t k (.inl rfl) p fun d dl o => ?_
    rcases o with rfl | rfl
    ·rw [C];exact jv y
    ·lia
  ·rw [if_neg k]
   exact ⟨E,rfl,by show a.length≤2*i+1;lia,s,fun _=>.inr rfl,fun X=>List.Perm.refl _⟩
theorem Hu {a:Yb} (h:Hp a):∀j,j<a.length→c4 (kv a j) (kv a 0)=false:=by
 intro j
 induction j using Nat.strongRecOn with
 | ind j d=>
  intro b
  by_cases c:j=0
  ·subst c;exact jv _
  ·exact sZ (d ((j-1) / 2) (by lia) (by lia)) (h j (by lia) b)
theorem Hv {a:Yb} (h:Hp a) (m:bk a) (o:a.length≤90) (x:Str) (t:Nat):Hp (ju 100 (a++[.str x t]) a.length x t)∧(ju 100 (a++[.str x t]) a.length x t).Perm (a++[.str x t]):=by
 have d:bk (a++[.str x t]):=fun v b=>by
  rcases List.mem_append.mp b with b | b
  ·exact m v b
  ·exact ⟨x,t,by simpa using b⟩
 have n:(a++[Value.str x t]).length=a.length+1:=by simp
 have f:∀j,j<a.length→kv (a++[Value.str x t]) j=kv a j:=fun j k=>by unfold kv;rw [List.getElem?_append_left k]
 have q:=Ao x t 100 a.length (a++[.str x t]) 0 "" (by lia) (by lia) d (fun j e g p _=>by
  rw [f j (by lia),f ((j-1) / 2) (by lia)]
  exact h j e (by lia)) (fun c e g i=>by lia) (fun _ c e g i=>by lia)
 refine ⟨q.1,q.2.trans ?_⟩
 have:(a++[Value.str x t]).set a.length (.str x t)=a++[.str x t]:=by simp
 rw [this]
theorem Ap {vs:Yb} (h:iR vs 0) (d:bk vs) (o:0<vs.length) (s:vs.length≤100) {x:Str} {t:Nat} (hx:vs[0]? = some (.str x t)):Hp (fQ 100 vs x t)∧(fQ 100 vs x t).Perm vs:=by
 obtain ⟨q1,q2,q3,f,q,k⟩:=Ht (100+1) 0 vs 0 (by lia) o d h (fun h=>absurd h (Nat.lt_irrefl _))
 have i:(bV (100+1) vs 0 0).2.1<(bV (100+1) vs 0 0).1.length:=by rw [q2];exact f
 have b:(fP 100 vs x t).length=vs.length:=by unfold fP;rw [List.length_set,q2]
 have n:bk (fP 100 vs x t):=(px _ _ _ _ d).set _ _ _
 have r:=Ao x t 100 (bV (100+1) vs 0 0).2.1 (fP 100 vs x t) 0 "" (by lia) (by rw [b];exact f) n (by unfold fP;exact q1.set i _) (fun c j a m=>by rw [b] at a;lia) (fun _ c j a m=>by rw [b] at a;lia)
 refine ⟨r.1,r.2.trans ?_⟩
 have e:(fP 100 vs x t).set (bV (100+1) vs 0 0).2.1 (.str x t)=fP 100 vs x t:=by unfold fP;rw [List.set_set]
 rw [e]
 have p:=k (.str x t)
 have g:vs.set 0 (.str x t)=vs:=by
  cases vs with
  | nil=>cases hx
  | cons v r=>cases hx;rfl
 rw [g] at p
 exact p
theorem Hw {b c:Bool} {w:Yc} {m d:Nat} {x:Str} {a:Yb} (e:0<a.length) (f:a.length≤100):(fb 0 (bV (d+1) a 0 0).1 (((bV (d+1) a 0 0).2.1:Nat):Int) x).Sure (B0 (W b c w)) m:=
 have h:=vr (d+1) a 0 0 e
 gw (by lia) (by have:=h.2;lia) (by rw [h.1];have:=h.2;lia)
theorem Hx {b c:Bool} {w:Yc} {d:Nat} {x:Str} {f:Nat} {a:Yb} (g:0<a.length) (j:a.length≤100) (i:bk a):(pu 100 (bV (d+1) a 0 0).2.1 x f (fP d a x f) 0).Sure (B0 (W b c w)) 2:=
 have h:=vr (d+1) a 0 0 g
 have e:(fP d a x f).length=a.length:=by unfold fP;rw [List.length_set,h.1]
 vq (by have:=h.2;lia) (by rw [e];exact h.2) (by rw [e];exact j) ((px _ _ _ _ i).set _ _ _) (by unfold fP;rw [List.getElem?_set_self (by rw [h.1];exact h.2)]) (by decide)
section
theorem Hy (b c:Bool) (w:Yc) (d:Nat) (x:Str) (e:Nat) (a:Yb) (k:1<a.length) (j:a.length≤d+1) (g:a.length≤100) (h:bk a) (hx:a[0]? = some (.str x e)) (p:af):aC (B0 (W b c w)) 3 (.call (.ref 135) ⟨[.ref (p 1 0),.int 0 (p 0 1)],[]⟩) [(p 1 0,ab a (p 1 1))] (fun i=>(.ret .none,[ab (fQ d a x e) (i 0)],[])):=
 aA (orcs:=[uO 0 a ((a.length:Nat):Int),cK 0 a 0 (.str x e),Ac w d x a 0 1,fb 0 (bV (d+1) a 0 0).1 ((bV (d+1) a 0 0).2.1:Int) x,pu 100 (bV (d+1) a 0 0).2.1 x e (fP d a x e) 0]) (aa (y4 rfl (by lia)) (aa (cQ (by lia) (by lia) hx) (aa (Hl (by decide) j g h k (by decide)) (aa (Hw (by lia) g) (aa (Hx (by lia) g h) aq))))) 108 5 [0,0,2,1,2,1,0,0,0,0,2,2,2,1,2,2,1,2,2,1,1,1,3,2,1,2,0,0,62,0,0,16,2,1,4,2,2,2,1,1,5,0,2,2,2,0,6] [0] (fun n m f=>aB [(f 4).2.2 0])
theorem Hz (b c:Bool) (w:Yc) (x:Str) (a:Nat) (p:af):aC (B0 (W b c w)) 3 (.call (.ref 135) ⟨[.ref (p 1 0),.int 0 (p 0 1)],[]⟩) [(p 1 0,ab [.str x a] (p 1 1))] (fun d=>(.ret .none,[ab [.str x a] (d 0)],[])):=
 aA (orcs:=[Ad w x [.str x a] 0 1,pu 100 0 x a [.str x a] 0]) (aa (Hm (by decide) (by simp) (by decide)) (aa (vq (by decide) (by simp) (by simp) (by intro v e;exact ⟨x,a,by simpa using e⟩) rfl (by decide)) aq)) 129 2 [0,0,2,1,2,1,0,0,0,0,2,0,0,11,1,0,1,0,60,1,2,1,2,2,1,2,2,1,1,1,0,1,0,54,1,2,1,2,0,0,62,0,0,16,2,1,2,2,2,2,1,1,0,1,0,59,1,1,0,0,2,2,2,0,3] [0] (fun n g f=>aB [(f 1).2.2 0])
end
section
variable {B:bf} {m:Nat}
theorem HA {x y z:Int} (e:x-y=z):(i2 "int.__sub__" x y fun a=>.int z (a 0)).Sure B m:=
 lh F.slot_int_sub F.entry_int_sub (fun _=>F.args_int_sub_2 _ _) (fun _=>AutoIntG9.int___sub___int_int_0 _ _ _ _) fun _ s _ h=>by rw [e];exact h (fun _=>s.toks) (s.toks+1)
end
section
def vA (n:Nat) (x:Str) (d:Nat) (a:Yb) (c:Nat):aH:=bA (fun p=>.call (.ref 135) ⟨[.ref (p 1 0),.int 0 (p 0 1)],[]⟩) [c] (fun p=>[(p 1 0,ab a (p 1 1))]) (fun p b=>(.ret .none,[ab (fQ n a x d) (b 0)],[]))
theorem Aq {b c:Bool} {w:Yc} {m n:Nat} {x:Str} {d:Nat} {a:Yb} {f:Nat} (o:0<a.length) (k:a.length≤n+1) (i:a.length≤100) (j:bk a) (hx:a[0]? = some (.str x d)) (g:3≤m):(vA n x d a f).Sure (B0 (W b c w)) m:=by
 refine (bS (by simp) fun p => ?_:aH.Sure (B0 (W b c w)) 3 _).le g
 by_cases h:1<a.length
 ·exact Hy b c w n x d a h k i j hx p
 ·match a,o,hx,h with
  | [v],_,hx,_=>
   have e:v = .str x d:=by simpa using hx
   subst e
   have e:fQ n [.str x d] x d=[.str x d]:=by
    unfold fQ fP
    cases n <;> rfl
   rw [e]
   exact Hz b c w x d p
  | _::_::_,_,_,h=>exact absurd (by simp) h
end
theorem bk.app {b:Yb} (h:bk b) (y:Str) (t:Nat):bk (b++[.str y t]):=fun v a=>by
 rcases List.mem_append.mp a with a | a
 ·exact h v a
 ·exact ⟨y,t,by simpa using a⟩
theorem bk.cons {vs:Yb} (h:bk vs) (y:Str) (t:Nat):bk (.str y t::vs):=fun v a=>by
 rcases List.mem_cons.mp a with rfl | a
 ·exact ⟨y,t,rfl⟩
 ·exact h v a
section
theorem HB (b c:Bool) (w:Yc) (x:Str) (a:Yb) (h:a.length≤90) (e:bk a) (p:af):aC (B0 (W b c w)) 3 (.call (.ref 107) ⟨[.ref (p 1 0),.str x (p 0 1)],[]⟩) [(p 1 0,ab a (p 1 1))] (fun d=>(.ret .none,[ab (ju 100 (a++[.str x (p 0 1)]) a.length x (p 0 1)) (d 0)],[])):=
 aA (orcs:=[f2 0 a x,uO 0 (a++[.str x (p 0 1)]) ((a.length+1:Nat):Int),i2 "int.__sub__" ((a.length+1:Nat):Int) 1 fun d=>.int ((a.length:Nat):Int) (d 0),pu 100 a.length x (p 0 1) (a++[.str x (p 0 1)]) 0]) (aa (gz (by lia)) (aa (y4 (by simp) (by simp;lia)) (aa (HA (by lia)) (aa (vq (by lia) (by simp) (by simp;lia) (e.app _ _) (by simp) (by decide)) aq)))) 52 4 [0,0,2,1,2,1,0,0,2,1,1,1,1,2,2,0,2,0,0,2,3,4,0,5] [0] (fun n g f=>aB [(f 3).2.2 0])
theorem HC (b c:Bool) (w:Yc) (x z:Str) (d e:Nat) (a:Yb) (j:a.length≤90) (h:bk a) (p:af):aC (B0 (W b c w)) 4 (.call (.ref 114) ⟨[.ref (p 1 0)],[]⟩) [(p 1 0,ab ((.str x d::a)++[.str z e]) (p 1 1))] (fun g=>(.ret (.str x d),[ab (fQ 100 (.str z e::a) z e) (g 0)],[])):=
 aA (orcs:=[uN 0 (.str x d::a) (.str z e),o7 0 (.str x d::a) ((a.length+1:Nat):Int),cK 0 (.str x d::a) 0 (.str x d),fb 0 (.str x d::a) 0 z,vA 100 z e (.str z e::a) 0]) (aa (y3 (by simp;lia)) (aa (y5 (by simp) (by simp;lia)) (aa (cQ (by lia) (by lia) rfl) (aa (gw (by lia) (by lia) (by simp)) (aa (Aq (by simp) (by simp;lia) (by simp;lia) (h.cons _ _) rfl (by decide)) aq))))) 78 5 [0,0,2,1,0,0,2,1,1,1,1,2,2,1,2,1,1,3,2,1,1,1,4,2,1,2,2,1,1,5,0,2,0,6,2] [0] (fun n i f=>aB [(f 4).2.2 0])
theorem HD (b c:Bool) (w:Yc) (z:Str) (a:Nat) (p:af):aC (B0 (W b c w)) 4 (.call (.ref 114) ⟨[.ref (p 1 0)],[]⟩) [(p 1 0,ab [.str z a] (p 1 1))] (fun d=>(.ret (.str z a),[ab [] (d 0)],[])):=
 aA (orcs:=[uN 0 [] (.str z a),o7 0 [] 0]) (aa (y3 (by simp)) (aa (y5 rfl (by simp)) aq)) 42 2 [0,0,2,1,0,0,2,1,1,1,1,2,2,1,2,1,1,3,2] [0] (fun n e f=>aB [(f 0).2.2 1])
theorem HE (b c:Bool) (w:Yc) (x y:Str) (d:Nat) (a:Yb) (i:a.length≤90) (g:bk a) (p:af):aC (B0 (W b c w)) 4 (.call (.ref 121) ⟨[.ref (p 1 0),.str y (p 0 1)],[]⟩) [(p 1 0,ab (.str x d::a) (p 1 1))] (fun e=>(.ret (.str x d),[ab (fQ 100 (.str y (p 0 1)::a) y (p 0 1)) (e 0)],[])):=
 aA (orcs:=[cK 0 (.str x d::a) 0 (.str x d),fb 0 (.str x d::a) 0 y,vA 100 y (p 0 1) (.str y (p 0 1)::a) 0]) (aa (cQ (by lia) (by lia) rfl) (aa (gw (by lia) (by lia) (by simp)) (aa (Aq (by simp) (by simp;lia) (by simp;lia) (g.cons _ _) rfl (by decide)) aq))) 56 3 [0,0,2,1,2,1,0,0,2,1,1,1,2,2,1,2,2,1,1,3,0,2,0,4,2] [0] (fun n h f=>aB [(f 2).2.2 0])
end
section
def dO:Yb→Yd
 | []=>.none
 | v::_=>v
def dB:Yb→Yb
 | []=>[]
 | [_]=>[]
 | _::y::r=>let z:=(y::r).getLast (by simp);fQ 100 (z::(y::r).dropLast) (sv z) (tv z)
where tv:Yd→Nat
 | .str _ t=>t
 | _=>0
def iS (a:Yb) (x:Str) (t:Nat):Yb:=ju 100 (a++[.str x t]) a.length x t
def cI:Yb→Str→Nat→Yb
 | [],_,_=>[]
 | _::r,y,t=>fQ 100 (.str y t::r) y t
def Ar (L:Yb) (j:Nat):aH:=bA (fun p=>.call (.ref 114) ⟨[.ref (p 1 0)],[]⟩) [j] (fun p=>[(p 1 0,ab L (p 1 1))]) (fun p a=>(.ret (dO L),[ab (dB L) (a 0)],[]))
theorem HF {b c:Bool} {w:Yc} {m:Nat} {L:Yb} {j:Nat} (B:0<L.length) (g:L.length≤90) (a:bk L) (k:4≤m):(Ar L j).Sure (B0 (W b c w)) m:=by
 refine (bS (by simp) fun p => ?_:aH.Sure (B0 (W b c w)) 4 _).le k
 match L,B,g,a with
 | [v],_,_,a=>
  obtain ⟨y,t,rfl⟩:=a v (.head _)
  exact HD b c w y t p
 | v::y::r,_,g,a=>
  obtain ⟨x,d,rfl⟩:=a v (.head _)
  have e:y::r=(y::r).dropLast++[(y::r).getLast (by simp)]:=(List.dropLast_concat_getLast (by simp)).symm
  obtain ⟨z,f,i⟩:=a ((y::r).getLast (by simp)) (.tail _ (List.getLast_mem _))
  have h:bk ((y::r).dropLast):=fun u A=>a u (.tail _ (List.dropLast_subset _ A))
  have o:((y::r).dropLast).length≤90:=by
   rw [List.length_dropLast]
   simp only [List.length_cons] at g ⊢
   lia
  have q:=HC b c w x z d f ((y::r).dropLast) o h p
  have n:Value.str x d::y::r=Value.str x d::(y::r).dropLast++[.str z f]:=by
   rw [List.cons_append,←i,←e]
  have s:dB (.str x d::y::r)=fQ 100 (.str z f::(y::r).dropLast) z f:=by
   show fQ 100 ((y::r).getLast (by simp)::(y::r).dropLast) (sv ((y::r).getLast (by simp))) (dB.tv ((y::r).getLast (by simp)))=_
   rw [i];rfl
  rw [s]
  show aC _ _ _ [(p 1 0,ab (Value.str x d::y::r) (p 1 1))] _
  rw [n]
  exact q
def As (L:Yb) (x:Str) (j:Nat):aH:=bA (fun p=>.call (.ref 107) ⟨[.ref (p 1 0),.str x (p 0 1)],[]⟩) [j] (fun p=>[(p 1 0,ab L (p 1 1))]) (fun p a=>(.ret .none,[ab (iS L x (p 0 1)) (a 0)],[]))
theorem HG {b c:Bool} {w:Yc} {m:Nat} {L:Yb} {x:Str} {j:Nat} (e:L.length≤90) (d:bk L) (a:3≤m):(As L x j).Sure (B0 (W b c w)) m:=
 (bS (by simp) fun p=>HB b c w x L e d p:aH.Sure (B0 (W b c w)) 3 _).le a
def Au (L:Yb) (y:Str) (j:Nat):aH:=bA (fun p=>.call (.ref 121) ⟨[.ref (p 1 0),.str y (p 0 1)],[]⟩) [j] (fun p=>[(p 1 0,ab L (p 1 1))]) (fun p a=>(.ret (dO L),[ab (cI L y (p 0 1)) (a 0)],[]))
theorem HH {b c:Bool} {w:Yc} {m:Nat} {L:Yb} {y:Str} {j:Nat} (h:0<L.length) (d:L.length≤90) (a:bk L) (f:4≤m):(Au L y j).Sure (B0 (W b c w)) m:=by
 refine (bS (by simp) fun p => ?_:aH.Sure (B0 (W b c w)) 4 _).le f
 match L,h,d,a with
 | v::r,_,d,a=>
  obtain ⟨x,g,rfl⟩:=a v (.head _)
  exact HE b c w x y g r (by simp only [List.length_cons] at d;lia) (fun u e=>a u (.tail _ e)) p
end
def lm (l:Yg):Prop:=l.Pairwise fun a b=>c4 b a=false
theorem Av:∀{l r:Yg},lm l→lm r→l.Perm r→l=r
 | [],r,_,_,p=>(List.nil_perm.mp p).symm
 | x::l,[],_,_,p=>absurd (List.perm_nil.mp p) (by simp)
 | x::l,y::r,hl,hr,p=>by
  have hx:x∈y::r:=p.mem_iff.mp (.head _)
  have b:y∈x::l:=p.mem_iff.mpr (.head _)
  have c:c4 y x=false:=by
   rcases List.mem_cons.mp b with e | h
   ·rw [e];exact jv x
   ·exact (List.pairwise_cons.mp hl).1 y h
  have a:c4 x y=false:=by
   rcases List.mem_cons.mp hx with e | h
   ·rw [e];exact jv y
   ·exact (List.pairwise_cons.mp hr).1 x h
  have e:x=y:=s0 a c
  subst e
  rw [Av (List.pairwise_cons.mp hl).2 (List.pairwise_cons.mp hr).2 (List.Perm.cons_inv p)]
theorem HI (v:Yd) (r:Yb):kv (v::r) 0=sv v:=rfl
theorem Aw {v:Yd} {r:Yb} (h:Hp (v::r)):∀u∈r,c4 (sv u) (sv v)=false:=fun u b=>by
 obtain ⟨i,a,e⟩:=List.getElem_of_mem b
 have:=Hu h (i+1) (by simp;exact a)
 rw [HI] at this
 have k:kv (v::r) (i+1)=sv u:=by
  unfold kv
  show ((r[i]?).map sv).getD "" = sv u
  rw [List.getElem?_eq_getElem a,e];rfl
 rw [k] at this
 exact this
theorem Ax {v:Yd} {r:Yb} (h:Hp (v::r)) (x:Yd):iR (x::r) 0:=fun j b c f d=>by
 have a:∀k,0<k→kv (x::r) k=kv (v::r) k:=fun k e=>by
  cases k with
  | zero=>lia
  | succ k=>rfl
 rw [a j b,a _ (by lia)]
 exact h j b (by simpa using c)
theorem HJ {l:Yb} {z:Yd} (h:Hp (l++[z])):Hp l:=fun j c b=>by
 have a:∀k,k<l.length→kv (l++[z]) k=kv l k:=fun k d=>by unfold kv;rw [List.getElem?_append_left d]
 have:=h j c (by simp;lia)
 rw [a j b,a _ (by lia)] at this
 exact this
theorem HK {l r:Yb} (h:bk r) (p:l.Perm r):bk l:=fun v a=>h v (p.mem_iff.mp a)
theorem vB {L:Yb} (h:Hp L) (c:bk L) (m:0<L.length) (d:L.length≤90):Hp (dB L)∧(dO L::dB L).Perm L:=by
 match L,h,c,m,d with
 | [v],_,_,_,_=>exact ⟨fun j _ f=>absurd f (Nat.not_lt_zero _),List.Perm.refl _⟩
 | v::y::r,h,c,_,d=>
  have e:(y::r).dropLast++[(y::r).getLast (by simp)]=y::r:=List.dropLast_concat_getLast (by simp)
  obtain ⟨z,a,b⟩:=c ((y::r).getLast (by simp)) (.tail _ (List.getLast_mem _))
  have i:Hp (v::(y::r).dropLast):=by
   refine HJ (z:=.str z a) ?_
   rw [List.cons_append,←b,e]
   exact h
  have f:(.str z a::(y::r).dropLast).length≤100:=by
   simp only [List.length_cons,List.length_dropLast] at d ⊢
   lia
  have q:=Ap (vs:=.str z a::(y::r).dropLast) (Ax i _) (fun u g=>by
   rcases List.mem_cons.mp g with rfl | g
   ·exact ⟨z,a,rfl⟩
   ·exact c u (.tail _ (List.dropLast_subset _ g))) (by simp) f rfl
  have k:dB (v::y::r)=fQ 100 (.str z a::(y::r).dropLast) z a:=by
   show fQ 100 ((y::r).getLast (by simp)::(y::r).dropLast) (sv ((y::r).getLast (by simp))) (dB.tv ((y::r).getLast (by simp)))=_
   rw [b];rfl
  rw [k]
  refine ⟨q.1,?_⟩
  show (v::fQ 100 _ z a).Perm (v::y::r)
  refine List.Perm.cons v (q.2.trans ?_)
  have p:(Value.str z a::(y::r).dropLast).Perm ((y::r).dropLast++[.str z a]):=(List.perm_append_singleton _ _).symm
  rw [←b,e] at p
  rw [←b]
  exact p
def fR:Nat→Yb→Yb
 | 0,_=>[]
 | n+1,L=>dO L::fR n (dB L)
def fS:Nat→Yb→Yb
 | 0,L=>L
 | n+1,L=>fS n (dB L)
theorem vC:∀(n:Nat) (L:Yb),L.length=n→Hp L→bk L→n≤90→(fR n L).Perm L∧lm ((fR n L).map sv)∧fS n L=[]
 | 0,L,d,_,_,_=>by
  have:L=[]:=List.length_eq_zero_iff.mp d
  subst this
  exact ⟨List.Perm.refl _,List.Pairwise.nil,rfl⟩
 | n+1,L,d,h,g,q=>by
  obtain ⟨q1,q2⟩:=vB h g (by lia) (by lia)
  have i:(dB L).length=n:=by
   have:=q2.length_eq
   simp only [List.length_cons] at this
   lia
  have j:bk (dB L):=fun v k=>g v (q2.mem_iff.mp (.tail _ k))
  obtain ⟨f,o,p⟩:=vC n (dB L) i q1 j (by lia)
  refine ⟨(f.cons _).trans q2,?_,p⟩
  show lm (sv (dO L)::(fR n (dB L)).map sv)
  refine List.pairwise_cons.mpr ⟨fun b e => ?_,o⟩
  obtain ⟨u,m,rfl⟩:=List.mem_map.mp e
  have c:u∈dB L:=f.mem_iff.mp m
  match L,h,d,q2,c with
  | [],_,d,_,_=>simp at d
  | v::r,h,_,q2,c=>
   have:u∈r:=(List.Perm.cons_inv (a:=v) q2).mem_iff.mp c
   exact Aw h u this
theorem HL {v:Yd} {r:Yb} (h:Hp (v::r)) (c:bk (v::r)) (b:(v::r).length≤90) (y:Str) (t:Nat):Hp (cI (v::r) y t)∧(cI (v::r) y t).Perm (.str y t::r):=
 Ap (Ax h _) (fun u a=>by
  rcases List.mem_cons.mp a with rfl | a
  ·exact ⟨y,t,rfl⟩
  ·exact c u (.tail _ a)) (by simp) (by simp only [List.length_cons] at b ⊢;lia) rfl
theorem HM {H:Yb} {P:Yg} (h:Hp H) (k:bk H) (j:H.length≤90) (i:(H.map sv).Perm P) (s:P≠[]) {c:Yg} (m:lm c) (f:c.Perm P) {y:Str} (z:∀x∈P,c4 y x=false) (t:Nat) :
  sv (dO H)=c.headD ""∧((fR H.length (cI H y t)).map sv)=c.tail++[y]∧fS H.length (cI H y t)=[]∧bk (cI H y t)∧(cI H y t).length=H.length∧Hp (cI H y t):=by
 match H,h,k,j,i with
 | [],_,_,_,i=>
  exact absurd (List.nil_perm.mp (by simpa using i)) s
 | v::r,h,k,j,i=>
  match c,m,f with
  | [],_,f=>exact absurd (List.nil_perm.mp f) s
  | d::ds,m,f=>
   have e:sv v=d:=by
    refine s0 ?_ ?_
    ·have g:sv v∈d::ds:=(f.trans i.symm).mem_iff.mpr (.head _)
     rcases List.mem_cons.mp g with e | g
     ·rw [e];exact jv _
     ·exact (List.pairwise_cons.mp m).1 _ g
    ·have g:d∈sv v::r.map sv:=(i.trans f.symm).mem_iff.mpr (.head _)
     rcases List.mem_cons.mp g with e | g
     ·rw [e];exact jv _
     ·obtain ⟨u,n,rfl⟩:=List.mem_map.mp g
      exact Aw h u n
   obtain ⟨q1,q2⟩:=HL h k j y t
   have q:bk (cI (v::r) y t):=fun u n=>by
    rcases List.mem_cons.mp (q2.mem_iff.mp n) with rfl | w
    ·exact ⟨y,t,rfl⟩
    ·exact k u (.tail _ w)
   have p:(cI (v::r) y t).length=(v::r).length:=q2.length_eq
   obtain ⟨A,D,F⟩:=vC (v::r).length (cI (v::r) y t) p q1 q j
   refine ⟨e,?_,F,q,p,q1⟩
   have B:(r.map sv).Perm ds:=by
    have:(sv v::r.map sv).Perm (d::ds):=i.trans f.symm
    rw [e] at this
    exact List.Perm.cons_inv this
   refine Av D (List.pairwise_append.mpr ⟨(List.pairwise_cons.mp m).2,List.pairwise_singleton _ _,fun a E b o => ?_⟩) ?_
   ·have:b=y:=by simpa using o
    subst this
    exact z a (f.mem_iff.mp (.tail _ E))
   ·have C:=(A.trans q2).map sv
    refine C.trans ?_
    show (y::r.map sv).Perm (ds++[y])
    exact (B.cons y).trans (List.perm_append_singleton _ _).symm
section
open PySem PySem.W PySem.W.X PyProof.Rows Srt
theorem vD:∀(a b:Yg),aP a b=false→aP b a=false→a=b
 | [],[],_,_=>rfl
 | [],y::b,h,_=>by rw [mU] at h;simp at h
 | x::a,[],_,h=>by rw [mU] at h;simp at h
 | x::a,y::b,h1,h2=>by
  rw [kl] at h1 h2
  by_cases e:x=y
  ·subst e
   rw [if_pos rfl] at h1 h2
   rw [vD a b h1 h2]
  ·rw [if_neg e] at h1
   rw [if_neg (Ne.symm e)] at h2
   exact absurd (s0 h1 h2) e
def Tl (s:Yh):Prop:=s=[]∨∃t,s=47::t
theorem s6:∀(a b s t:Yh),(∀x∈a,47<x)→(∀x∈b,47<x)→Tl s→a<b→a++s<b++t
 | [],[],_,_,_,_,_,h=>absurd h (List.lt_irrefl _)
 | [],y::b,s,t,_,hb,hs,_=>by
  rcases hs with rfl | ⟨u,rfl⟩
  ·exact List.nil_lt_cons _ _
  ·exact List.cons_lt_cons_iff.mpr (.inl (hb y (.head _)))
 | x::a,[],_,_,_,_,_,h=>absurd h (List.not_lt_nil _)
 | x::a,y::b,s,t,ha,hb,hs,h=>by
  rcases List.cons_lt_cons_iff.mp h with h | ⟨e,h⟩
  ·exact List.cons_lt_cons_iff.mpr (.inl h)
  ·exact List.cons_lt_cons_iff.mpr (.inr ⟨e,s6 a b s t (fun z c=>ha z (.tail _ c)) (fun z c=>hb z (.tail _ c)) hs h⟩)
theorem jw:∀(a s t:Yh),s<t→a++s<a++t
 | [],_,_,h=>h
 | x::a,s,t,h=>List.cons_lt_cons_iff.mpr (.inr ⟨rfl,jw a s t h⟩)
theorem ni:∀a∈aD,∀x∈a.cps.toList,47<x:=by decide +kernel
theorem HO:∀a∈aD,(a.cps.toList.headD 200)<122:=by decide +kernel
theorem dP (x y:Str):(x++y).cps.toList=x.cps.toList++y.cps.toList:=by
 show (x.cps++y.cps).toList=_
 exact Array.toList_append
theorem py:("/" : Str).cps.toList=[47]:=by decide +kernel
theorem lq {x y:Str}:c4 x y=true↔x.cps.toList<y.cps.toList:=decide_eq_true_iff
theorem HP {r j:Yg} (h:cB r) (m:cB j) (l:aP r j=true):c4 (aU r) (aU j)=true:=by
 rw [lq]
 rcases h with ⟨a,g,rfl⟩ | ⟨a,g,d,n,rfl⟩
 ·rcases m with ⟨b,c,rfl⟩ | ⟨b,c,f,i,rfl⟩
  ·rw [kl] at l
   by_cases e:a=b
   ·rw [if_pos e] at l;cases l
   ·rw [if_neg e,lq] at l
    show ("/" ++ a).cps.toList<("/" ++ b).cps.toList
    rw [dP,dP]
    exact jw _ _ _ l
  ·rw [kl] at l
   show ("/" ++ a).cps.toList<("/" ++ b++("/" ++ f)).cps.toList
   rw [dP,dP,dP,dP,py,List.append_assoc]
   refine jw _ _ _ ?_
   by_cases e:a=b
   ·subst e
    have:=jw a.cps.toList [] ([47]++f.cps.toList) (List.nil_lt_cons _ _)
    rw [List.append_nil] at this
    exact this
   ·rw [if_neg e,lq] at l
    have:=s6 _ _ [] ([47]++f.cps.toList) (ni a g) (ni b c) (.inl rfl) l
    rw [List.append_nil] at this
    exact this
 ·rcases m with ⟨b,c,rfl⟩ | ⟨b,c,f,i,rfl⟩
  ·rw [kl] at l
   by_cases e:a=b
   ·rw [if_pos e] at l;cases l
   ·rw [if_neg e,lq] at l
    show ("/" ++ a++("/" ++ d)).cps.toList<("/" ++ b).cps.toList
    rw [dP,dP,dP,dP,py,List.append_assoc]
    refine jw _ _ _ ?_
    have:=s6 _ _ ([47]++d.cps.toList) [] (ni a g) (ni b c) (.inr ⟨_,rfl⟩) l
    rw [List.append_nil] at this
    exact this
  ·rw [kl] at l
   show ("/" ++ a++("/" ++ d)).cps.toList<("/" ++ b++("/" ++ f)).cps.toList
   rw [dP,dP,dP,dP,dP,dP,py,List.append_assoc,List.append_assoc]
   refine jw _ _ _ ?_
   by_cases e:a=b
   ·subst e
    rw [if_pos rfl,kl] at l
    by_cases k:d=f
    ·rw [if_pos k] at l;cases l
    ·rw [if_neg k,lq] at l
     exact jw _ _ _ (jw _ _ _ l)
   ·rw [if_neg e,lq] at l
    exact s6 _ _ _ _ (ni a g) (ni b c) (.inr ⟨_,rfl⟩) l
theorem HQ {r a:Yg} (h:cB r) (b:cB a) (l:aP a r=false):c4 (aU a) (aU r)=false:=by
 cases e:aP r a with
 | true=>exact ng (HP h b e)
 | false=>rw [vD r a e l];exact jv _
theorem HR:("/zz" : Str).cps.toList=[47,122,122]:=by decide +kernel
theorem HS {r:Yg} (h:cB r):c4 "/zz" (aU r)=false:=by
 refine ng ?_
 rw [lq,HR]
 have b:∀a∈aD,∀t:Yh,[47]++(a.cps.toList++t)<[47,122,122]:=fun a c t=>by
  refine jw [47] _ [122,122] ?_
  have lo:=HO a c
  cases e:a.cps.toList with
  | nil=>rw [e] at lo;simp at lo
  | cons x l=>
   rw [e] at lo
   exact List.cons_lt_cons_iff.mpr (.inl lo)
 rcases h with ⟨a,c,rfl⟩ | ⟨a,c,d,f,rfl⟩
 ·show ("/" ++ a).cps.toList<_
  rw [dP,py]
  have:=b a c []
  rw [List.append_nil] at this
  exact this
 ·show ("/" ++ a++("/" ++ d)).cps.toList<_
  rw [dP,dP,dP,py,List.append_assoc]
  exact b a c _
def perm (a:Yi):Yh:=(ff (fun i j=>aP (a.getD i []) (a.getD j [])) (kas_sort a.length)).toList
theorem nj (a:Yi) (h:0<a.length):(perm a).Perm (List.range a.length):=by
 have q:=(vy (vz fun i=>a.getD i []) a.length h).ev.1.2
 exact Array.perm_iff_toList_perm.mp q
theorem Ay (a:Yi) (h:0<a.length):(perm a).Pairwise fun i j=>aP (a.getD j []) (a.getD i [])=false:=by
 have q:=(vy (vz fun i=>a.getD i []) a.length h).ev
 rw [List.pairwise_iff_getElem]
 intro i j d e b
 have f:(perm a).length=a.length:=by rw [(nj a h).length_eq,List.length_range]
 have:=q.2 i j b (by lia)
 unfold Le v at this
 have g:∀k (c:k<(perm a).length),(ff (fun i j=>aP (a.getD i []) (a.getD j [])) (kas_sort a.length)).getD k 0=(perm a)[k]:=fun k c=>by
  unfold perm at c ⊢
  simp only [Array.getElem_toList,Array.getD]
  rw [dif_pos (by simpa using c)]
  rfl
 rw [g i d,g j e] at this
 exact this
def ih (a:Yi):Yi:=(perm a).map fun i=>a.getD i []
theorem HT (a:Yi) (h:0<a.length):(ih a).Perm a:=by
 have p:=(nj a h).map fun i=>a.getD i []
 have e:(List.range a.length).map (fun i=>a.getD i [])=a:=by
  refine List.ext_getElem (by simp) fun i c b => ?_
  simp [List.getD,b]
 rw [e] at p
 exact p
theorem Az (a:Yi) {i:Nat} (h:i<a.length):a.getD i []∈a:=by
 have e:a.getD i []=a[i]:=by simp [List.getD,h]
 rw [e];exact List.getElem_mem h
theorem HU (a:Yi) (h:0<a.length) (b:∀r∈a,cB r):lm ((ih a).map aU):=by
 unfold lm ih
 rw [List.map_map,List.pairwise_map]
 have u:=Ay a h
 have c:=nj a h
 refine List.Pairwise.imp_of_mem (fun {i j} e n d => ?_) u
 have f:i<a.length:=List.mem_range.mp (c.mem_iff.mp e)
 have g:j<a.length:=List.mem_range.mp (c.mem_iff.mp n)
 have m:a.getD i []∈a:=Az a f
 have k:a.getD j []∈a:=Az a g
 exact HQ (b _ m) (b _ k) d
end
section
open PySem PySem.W PySem.W.X PyProof.Rows Srt
theorem lr (g:Ye):∀(l:Yg) (i:Nat),StrsAre (cO l g i) l
 | [],_=>.nil
 | x::r,i=>.cons x _ (lr g r (i+1))
theorem ls:∀(R:Yi) (g:Ye),(aT R g).length=R.length
 | [],_=>rfl
 | _::l,g=>by show (aT l (od g)).length+1=_;rw [ls l];rfl
theorem vE:∀(R:Yi) (g:Ye) (i:Nat) (r:Yg),R[i]? = some r→∃d:RD,d.1=r∧(aT R g)[i]? = some (.ref (d.2 0))∧aE r d.2∈be R g∧(b9 R g)[i]? = some d
 | [],_,_,_,h=>by cases h
 | x::l,g,0,r,h=>by
  cases h
  exact ⟨(x,fun i=>ev g (i+2)),rfl,rfl,.head _,rfl⟩
 | x::l,g,i+1,r,h=>by
  obtain ⟨d,a,b,c,e⟩:=vE l (od g) i r h
  exact ⟨d,a,b,.tail _ c,e⟩
section
variable {prog:Program} {w:Yc} {A:Around} {s:Shared}
theorem HV {a b:Addr} {r c:Yg} {g f:Nat→Nat} {n e:Nat} {C:Bool→Shared→Prop} (i:A.units<cLine) (d:s.heap.get? a=some (ab (cO r g 0) n)) (j:s.heap.get? b=some (ab (cO c f 0) e)) (h:C (aP r c) s) :
  wpAny (model prog w) A (keyLt' oneType' (.ref a) (.ref b)) C (fun _ _=>False) s:=by
 rw [keyLt'_oneType,oneLt'_eq]
 simp only [if_true]
 refine wpAny_bind (wpAny_cRoomFor i ?_)
 refine wpAny_bind (wpAny_callSpecialIfBound?_slot (T:="list") ⟨_,d,rfl⟩ F.slot_list_lt (call_meets F.slot_list_lt ⟨_,d,rfl⟩ F.entry_list_lt (F.args_list_lt_2 _ _) (y8 a b _ _ r c n e (lr g r 0) (lr f c 0)) ⟨d,j,?_⟩))
 exact wpAny_truthy_bool h
end
section
variable {B:bf} {m:Nat}
end
end
def cT:Yg→Yg
 | []=>[]
 | x::r=>match x.cps.toList != ("=" : Str).cps.toList with
  | true=>b4 x::cT r
  | false=>cT r
def cp:List (Str×Nat)→Yb
 | []=>[]
 | d::r=>match d.1.cps.toList != ("" : Str).cps.toList with
  | true=>.str d.1 d.2::cp r
  | false=>cp r
def df:Yg→Ye→Nat→List (Str×Nat)
 | [],_,_=>[]
 | x::r,g,i=>(x,g i)::df r g (i+1)
def jx (p:af) (j:Nat) (l:Yg):Yb:=cO l (fun i=>p j (i+2)) 0
def HW (b:af→Code) (w:Yc) (c:Yh) (r:Yg):aH:=bA b c
 (fun p=>[(p 1 0,am (.ref (p 2 0)) 0),(p 2 0,ab (jx p 2 r) (p 2 1)),(p 3 0,ab [] 0),(p 4 0,aw w [] 0)])
 (fun p a=>(.next,[am .none r.length,ab (jx p 2 r) (p 2 1),ab (cO (r.map b4) (fun i=>a (i+1)) 0) r.length,aw w [("part",a 0,pi (jx p 2 r) .none)] 1],[]))
def HX (b:af→Code) (w:Yc) (c:Yh) (r:Yg):aH:=bA b c
 (fun p=>[(p 1 0,am (.ref (p 2 0)) 0),(p 2 0,ab (jx p 2 r) (p 2 1)),(p 3 0,ab [] 0),(p 4 0,aw w [] 0)])
 (fun p a=>(.next,[am .none r.length,ab (jx p 2 r) (p 2 1),ab (cO (cT r) (fun i=>a (i+1)) 0) (cT r).length,aw w [("part",a 0,pi (jx p 2 r) .none)] 1],[]))
def HY (a:af→Code) (w:Yc) (c:Yh) (r:Yg):aH:=bA a c
 (fun p=>[(p 1 0,am (.ref (p 2 0)) 0),(p 2 0,ab (jx p 2 r) (p 2 1)),(p 3 0,ab [] 0),(p 4 0,aw w [] 0)])
 (fun p b=>(.next,[am .none r.length,ab (jx p 2 r) (p 2 1),ab (cp (df r (fun i=>p 2 (i+2)) 0)) (cp (df r (fun i=>p 2 (i+2)) 0)).length,aw w [("name",b 0,pi (jx p 2 r) .none)] 1],[]))
section
def vF (w:Yc) (a:Yh) (r:Yg):aH:=HW (fun p=>bj (pq w) (p 1 0) (p 3 0) (p 4 0) (p 0 3) []) w a r
def vG (w:Yc) (a:Yh) (r:Yg):aH:=HX (fun p=>bj (gH w) (p 1 0) (p 3 0) (p 4 0) (p 0 3) []) w a r
def vH (w:Yc) (a:Yh) (r:Yg):aH:=HY (fun p=>bj (gI w) (p 1 0) (p 3 0) (p 4 0) (p 0 3) []) w a r
def cX (p:af):af:=fun j i=>match j,i with | 5,_=>p 0 3 | j,i=>p j i
theorem AA {b c:Bool} {w:Yc} {m:Nat} {g:Yh} {r:Yg} (h:g.Nodup) (i:cB r) (j:2≤m):(vF w g r).Sure (B0 (W b c w)) m:=by
 refine (bS h fun p => ?_:aH.Sure (B0 (W b c w)) 2 _).le j
 rcases i with ⟨a,e,rfl⟩ | ⟨a,e,d,f,rfl⟩
 ·cases c
  ·exact Gy b w a e (cX p)
  ·exact GM b w a e (cX p)
 ·cases c
  ·exact Gz b w a d e f (cX p)
  ·exact GN b w a d e f (cX p)
theorem iT:∀a∈aD,(a.cps.toList != ("=" : Str).cps.toList)=true→a∈aD.tail:=by decide +kernel
theorem AB {b c:Bool} {w:Yc} {m:Nat} {i:Yh} {r:Yg} (n:i.Nodup) (k:cB r) (j:2≤m):(vG w i r).Sure (B0 (W b c w)) m:=by
 refine (bS n fun p => ?_:aH.Sure (B0 (W b c w)) 2 _).le j
 rcases k with ⟨a,g,rfl⟩ | ⟨a,g,d,h,rfl⟩
 ·cases f:(a.cps.toList != ("=" : Str).cps.toList) with
  | false=>
   have e:cT [a]=[]:=by unfold cT;rw [f];rfl
   rw [e]
   cases c
   ·exact GA b w a f (cX p)
   ·exact GO b w a f (cX p)
  | true=>
   have e:cT [a]=[b4 a]:=by unfold cT;rw [f];rfl
   rw [e]
   cases c
   ·exact GG b w a f (iT a g f) (cX p)
   ·exact GU b w a f (iT a g f) (cX p)
 ·cases f:(a.cps.toList != ("=" : Str).cps.toList) with
  | false=>
   cases nd:(d.cps.toList != ("=" : Str).cps.toList) with
   | false=>
    have e:cT [a,d]=[]:=by unfold cT;rw [f];unfold cT;rw [nd];rfl
    rw [e]
    cases c
    ·exact GC b w a d f nd (cX p)
    ·exact GQ b w a d f nd (cX p)
   | true=>
    have e:cT [a,d]=[b4 d]:=by unfold cT;rw [f];unfold cT;rw [nd];rfl
    rw [e]
    cases c
    ·exact GE b w a d f nd (iT d h nd) (cX p)
    ·exact GS b w a d f nd (iT d h nd) (cX p)
  | true=>
   cases nd:(d.cps.toList != ("=" : Str).cps.toList) with
   | false=>
    have e:cT [a,d]=[b4 a]:=by unfold cT;rw [f];unfold cT;rw [nd];rfl
    rw [e]
    cases c
    ·exact GI b w a d f (iT a g f) nd (cX p)
    ·exact GW b w a d f (iT a g f) nd (cX p)
   | true=>
    have e:cT [a,d]=[b4 a,b4 d]:=by unfold cT;rw [f];unfold cT;rw [nd];rfl
    rw [e]
    cases c
    ·exact GK b w a d f (iT a g f) nd (iT d h nd) (cX p)
    ·exact GY b w a d f (iT a g f) nd (iT d h nd) (cX p)
theorem AC {b c:Bool} {w:Yc} {m:Nat} {h:Yh} {r:Yg} (k:h.Nodup) (j:b7 r) (i:2≤m):(vH w h r).Sure (B0 (W b c w)) m:=by
 refine (bS k fun p => ?_:aH.Sure (B0 (W b c w)) 2 _).le i
 rcases j with ⟨a,n,rfl⟩ | ⟨a,n,d,o,rfl⟩
 ·cases f:(a.cps.toList != ("" : Str).cps.toList) with
  | false=>
   have e:∀t,cp [(a,t)]=[]:=fun t=>by unfold cp;rw [f];rfl
   show aC _ _ _ _ fun g=>(.next,[_,_,ab (cp [(a,p 2 2)]) (cp [(a,p 2 2)]).length,_],[])
   rw [e]
   cases c
   ·exact GB b w a f (cX p)
   ·exact GP b w a f (cX p)
  | true=>
   have e:∀t,cp [(a,t)]=[.str a t]:=fun t=>by unfold cp;rw [f];rfl
   show aC _ _ _ _ fun g=>(.next,[_,_,ab (cp [(a,p 2 2)]) (cp [(a,p 2 2)]).length,_],[])
   rw [e]
   cases c
   ·exact GH b w a f (cX p)
   ·exact GV b w a f (cX p)
 ·show aC _ _ _ _ fun g=>(.next,[_,_,ab (cp [(a,p 2 2),(d,p 2 3)]) (cp [(a,p 2 2),(d,p 2 3)]).length,_],[])
  cases f:(a.cps.toList != ("" : Str).cps.toList) with
  | false=>
   cases nd:(d.cps.toList != ("" : Str).cps.toList) with
   | false=>
    have e:∀t u,cp [(a,t),(d,u)]=[]:=fun t u=>by unfold cp;rw [f];unfold cp;rw [nd];rfl
    rw [e]
    cases c
    ·exact GD b w a d f nd (cX p)
    ·exact GR b w a d f nd (cX p)
   | true=>
    have e:∀t u,cp [(a,t),(d,u)]=[.str d u]:=fun t u=>by unfold cp;rw [f];unfold cp;rw [nd];rfl
    rw [e]
    cases c
    ·exact GF b w a d f nd (cX p)
    ·exact GT b w a d f nd (cX p)
  | true=>
   cases nd:(d.cps.toList != ("" : Str).cps.toList) with
   | false=>
    have e:∀t u,cp [(a,t),(d,u)]=[.str a t]:=fun t u=>by unfold cp;rw [f];unfold cp;rw [nd];rfl
    rw [e]
    cases c
    ·exact GJ b w a d f nd (cX p)
    ·exact GX b w a d f nd (cX p)
   | true=>
    have e:∀t u,cp [(a,t),(d,u)]=[.str a t,.str d u]:=fun t u=>by unfold cp;rw [f];unfold cp;rw [nd];rfl
    rw [e]
    cases c
    ·exact GL b w a d f nd (cX p)
    ·exact GZ b w a d f nd (cX p)
end
theorem vI:∀a∈b1,b4 (ao a)=a:=by decide +kernel
theorem AD {a:Str} (b:a∈b1):((b4 (ao a)).cps.toList != a.cps.toList)=false:=by rw [vI a b];exact bne_self_eq_false _
theorem HZ:∀a∈b1,((ao a).cps.toList != ("=" : Str).cps.toList)=(a.cps.toList != ("" : Str).cps.toList):=by decide +kernel
def jy:Yg→Yg
 | []=>[]
 | x::r=>match x.cps.toList != ("" : Str).cps.toList with
  | true=>x::jy r
  | false=>jy r
theorem vJ (g:Ye):∀(r:Yg) (i:Nat),StrsAre (cp (df r g i)) (jy r)
 | [],_=>.nil
 | x::r,i=>by
  show StrsAre (match x.cps.toList != ("" : Str).cps.toList with | true=>.str x (g i)::cp (df r g (i+1)) | false=>cp (df r g (i+1))) (match x.cps.toList != ("" : Str).cps.toList with | true=>x::jy r | false=>jy r)
  cases x.cps.toList != ("" : Str).cps.toList with
  | true=>exact .cons x _ (vJ g r (i+1))
  | false=>exact vJ g r (i+1)
theorem AE:∀r:Yg,(∀a∈r,a∈b1)→cT (r.map ao)=jy r
 | [],_=>rfl
 | a::r,h=>by
  have b:=AE r fun x hx=>h x (.tail _ hx)
  show (match (ao a).cps.toList != ("=" : Str).cps.toList with | true=>b4 (ao a)::cT (r.map ao) | false=>cT (r.map ao))=(match a.cps.toList != ("" : Str).cps.toList with | true=>a::jy r | false=>jy r)
  rw [HZ a (h a (.head _)),b,vI a (h a (.head _))]
open PySem.Builtin PySem.Builtin.Str in
abbrev vK (x:Str) (a:Yg):Prop:=Txt.split x "/" = a∧x.length≤1000∧(partsBetween x (occurrences x "/" 0 x.length (x.length+1)) ("/" : Str).length).length≤1000
theorem fU:∀a∈aD,vK ("/" ++ a) ["",a]:=by decide +kernel
theorem d3:∀a∈aD,∀d∈aD,vK ("/" ++ a++("/" ++ d)) ["",a,d]:=by decide +kernel
theorem cs {B:bf} {m:Nat} {x:Str} {a:Yg} (h:vK x a):(cb x "/" a).Sure B m:=tR h.1 (by decide +kernel) h.2.1 h.2.2
def cc (f:Flow):Flow:=f
theorem cD:∀{a b:Flow},cc a=cc b→a=b:=fun h=>h
theorem H0 {M:Model} {A:Around} {s:Stmt} {a:Env} {Q:Flow→Shared→Prop} {E:Yd→Shared→Prop} {st:Shared} (h:wpAny M A (execs [s] a) Q E st):wpAny M A (exec s a) Q E st:=fun Γ p b=>by
 have z:=h Γ p b
 rw [execs_cons,Sem.wp_bind'] at z
 refine Sem.wp_mono M Γ _ (fun f d c q => ?_) (fun _ _ _ q=>q) p _ z
 cases f <;> exact q
theorem aI.exec {B:bf} {m:Nat} {s:Stmt} {c:Env} {a:Ya} {b:Ye→Flow×Yf×Ya} (h:aI B m (execs [s] c) a b):aI B m (exec s c) a b:=
 ⟨fun A e n f i d j Q E nd k g o=>H0 (h.go A e n f i d j Q E nd k g o)⟩
section
def AF:Expr→Env→Sem Yd:=PySem.W.Fast.tw14044960220447912780
theorem dQ:@eval=AF:=PySem.W.Fast.te14044960220447912780
def nk:List Stmt→Env→Sem Flow:=PySem.W.Fast.tw12563942051412417395
theorem cE:@execs=nk:=PySem.W.Fast.te12563942051412417395
def H5:Expr→Env→Sem Yd→Sem Bool:=PySem.W.Fast.tw15418851999007992765
theorem s8:@PySem.isTrue=H5:=PySem.W.Fast.te15418851999007992765
def H6:Expr→Env→Yd→Sem Unit:=PySem.W.Fast.tw17772580674575903948
theorem km:@assign=H6:=PySem.W.Fast.te17772580674575903948
def H7:Yd→Sem (Option Yd):=PySem.W.Fast.tw9404975358583537561
theorem nl:@pyNext=H7:=PySem.W.Fast.te9404975358583537561
def dS (w:Yc) (i:Nat):Stmt:=gG (fB (de w)) i
def bm (w:Yc) (p:af):Env:=m9 (de w) (p 8 0) [p 9 0,p 13 0]
end
section
def vL (w:Yc) (r:Yg) (c:Obj) (u v:Yd) (i:Nat) (b d e:Yb) (p:af) (a:Ye):Yf:=[aW 0 (rawInt (a 0)) [.bool false,.bool false,.ref (p 2 0),.ref (p 3 0)],az [.ref (p 4 0),.ref (p 5 0)] 0,az [.ref (p 11 0),.ref (p 12 0)] 0,am (.ref (p 6 0)) (i+1),am (.ref (p 7 0)) (i+1),ab b (p 6 1),ab d (p 7 1),c,aJ (.ref (p 10 0)),ab e (p 10 1),(aE r (p 11)).2,(aE (r.map ao) (p 12)).2]
theorem AG (b c:Bool) (w:Yc) (r:Yg) (g:Obj) (u v:Yd) (i:Nat) (a d h:Yb) (p:af) (j:a[i]? = some (.ref (p 11 0))) (k:d[i]? = some (.ref (p 12 0))):aI (B0 (W b c w)) 4 (pyNext (.ref (p 1 0))) [(p 1 0,ba (p 2 0) (p 3 0)),(p 2 0,az [.ref (p 4 0),.ref (p 5 0)] 0),(p 3 0,az [u,v] 0),(p 4 0,am (.ref (p 6 0)) i),(p 5 0,am (.ref (p 7 0)) i),(p 6 0,ab a (p 6 1)),(p 7 0,ab d (p 7 1)),(p 8 0,g),(p 9 0,aJ (.ref (p 10 0))),(p 10 0,ab h (p 10 1)),aE r (p 11),aE (r.map ao) (p 12)] fun e=>((some (.ref (e 0))),vL w r g u v i a d h p e,[(e 0,az [.ref (p 11 0),.ref (p 12 0)] 0)]++[]):=by
 rw [nl]
 exact bt (enc:=j8) mW (orcs:=[cA 3 5 a i (.ref (p 11 0)),cA 4 6 d i (.ref (p 12 0))]) (aa (cP (by decide) j) (aa (cP (by decide) k) aq)) 36 2 [1,0,1,0,94,1,1,2,1,1,1,0,4,2,3,3,2,3,5,3,3,3,2,3,3,1,0,1,0] [0,1,2,3,4,5,6,7,8,9,10,11,12] none (fun n m f=>aB [(f 1).1+0])
def AH (w:Yc) (r:Yg) (i:Nat) (b c d:Yb) (p:af) (a:Ye):Yf:=[ba (p 2 0) (p 3 0),az [.ref (p 4 0),.ref (p 5 0)] 0,az [.ref (p 11 0),.ref (p 12 0)] 0,am (.ref (p 6 0)) i,am (.ref (p 7 0)) i,ab b (p 6 1),ab c (p 7 1),aG w [("script",p 8 2,.ref (p 8 3)),("rows",p 8 4,.ref (p 6 0)),("written",p 8 6,.ref (p 7 0)),("row",a 0,.ref (p 11 0)),("parts",a 1,.ref (p 12 0))] (p 8 1+1+1),aJ (.ref (p 10 0)),ab d (p 10 1),(aE r (p 11)).2,(aE (r.map ao) (p 12)).2,az [.ref (p 11 0),.ref (p 12 0)] 0]
theorem H8 (b c:Bool) (w:Yc) (r:Yg) (i:Nat) (a e g:Yb) (p:af):aI (B0 (W b c w)) 4 (assign (fT (de w)) (bm w p) (.ref (p 14 0))) [(p 1 0,ba (p 2 0) (p 3 0)),(p 2 0,az [.ref (p 4 0),.ref (p 5 0)] 0),(p 3 0,az [.ref (p 11 0),.ref (p 12 0)] 0),(p 4 0,am (.ref (p 6 0)) i),(p 5 0,am (.ref (p 7 0)) i),(p 6 0,ab a (p 6 1)),(p 7 0,ab e (p 7 1)),(p 8 0,aG w [("script",p 8 2,.ref (p 8 3)),("rows",p 8 4,.ref (p 6 0)),("written",p 8 6,.ref (p 7 0))] (p 8 1)),(p 9 0,aJ (.ref (p 10 0))),(p 10 0,ab g (p 10 1)),aE r (p 11),aE (r.map ao) (p 12),(p 14 0,az [.ref (p 11 0),.ref (p 12 0)] 0)] fun h=>((),AH w r i a e g p h,[]++[]):=by
 rw [km]
 exact bt (enc:=iM) j9 (orcs:=[]) aq 63 0 [13,13,13,0,13,0,8,14,14,0,14,0,9,14,14,13,14,13,14,0,14,0,9,14,14,13,14,13,14,0,14,0,9,14,14,13,14,13,16,8,7,8,7] [0,1,2,3,4,5,6,7,8,9,10,11,12] none (fun n d f=>aB [d+0,d+1])
def AI (w:Yc) (r:Yg) (i:Nat) (a b c:Yb) (p:af):Ya:=[(p 1 0,ba (p 2 0) (p 3 0)),(p 2 0,az [.ref (p 4 0),.ref (p 5 0)] 0),(p 3 0,az [.ref (p 11 0),.ref (p 12 0)] 0),(p 4 0,am (.ref (p 6 0)) i),(p 5 0,am (.ref (p 7 0)) i),(p 6 0,ab a (p 6 1)),(p 7 0,ab b (p 7 1)),(p 8 0,aG w [("script",p 8 2,.ref (p 8 3)),("rows",p 8 4,.ref (p 6 0)),("written",p 8 6,.ref (p 7 0)),("row",p 8 8,.ref (p 11 0)),("parts",p 8 10,.ref (p 12 0))] (p 8 1)),(p 9 0,aJ (.ref (p 10 0))),(p 10 0,ab c (p 10 1)),aE r (p 11),aE (r.map ao) (p 12)]
theorem H9 (b c:Bool) (w:Yc) (r:Yg) (i:Nat) (a e g:Yb) (p:af) (h:b7 r):aI (B0 (W b c w)) 4 (execs [dS w 0] (bm w p)) (AI w r i a e g p) fun d=>(.next,[ba (p 2 0) (p 3 0),az [.ref (p 4 0),.ref (p 5 0)] 0,az [.ref (p 11 0),.ref (p 12 0)] 0,am (.ref (p 6 0)) i,am (.ref (p 7 0)) i,ab a (p 6 1),ab e (p 7 1),aG w [("script",p 8 2,.ref (p 8 3)),("rows",p 8 4,.ref (p 6 0)),("written",p 8 6,.ref (p 7 0)),("row",p 8 8,.ref (p 11 0)),("parts",p 8 10,.ref (p 12 0)),("path",d 1,.str (aU (r.map ao)) (d 0))] (p 8 1+1),aJ (.ref (p 10 0)),ab g (p 10 1),(aE r (p 11)).2,(aE (r.map ao) (p 12)).2],[]++[]):=by
 rw [cE]
 exact bt (enc:=cc) cD (orcs:=[pn (r.map ao) (p 12) 11]) (aa (sM (gF h) (by decide)) aq) 19 1 [0,8,0,2,8,7] [0,1,2,3,4,5,6,7,8,9,10,11] none (fun n j f=>aB [(f 0).2.2 0,(f 0).2.1+0])
def AJ (w:Yc) (f g c:Yd) (r:Yg) (i:Nat) (a b d:Yb) (p:af) (e:Ye):Yf:=[ba (p 2 0) (p 3 0),az [.ref (p 4 0),.ref (p 5 0)] 0,az [.ref (p 11 0),.ref (p 12 0)] 0,am (.ref (p 6 0)) i,am (.ref (p 7 0)) i,ab a (p 6 1),ab b (p 7 1),aG w [("script",p 8 2,.ref (p 8 3)),("rows",p 8 4,.ref (p 6 0)),("written",p 8 6,.ref (p 7 0)),("row",p 8 8,.ref (p 11 0)),("parts",p 8 10,.ref (p 12 0)),("path",p 8 12,c)] (p 8 1),aJ (.ref (p 10 0)),ab d (p 10 1),(aE r (p 11)).2,(aE (r.map ao) (p 12)).2,az [.ref (p 11 0),.ref (p 12 0)] 0]
theorem Ia (b c:Bool) (w:Yc) (e h d:Yd) (r:Yg) (i:Nat) (a g j:Yb) (p:af):aI (B0 (W b c w)) 4 (assign (fT (de w)) (bm w p) (.ref (p 14 0))) [(p 1 0,ba (p 2 0) (p 3 0)),(p 2 0,az [.ref (p 4 0),.ref (p 5 0)] 0),(p 3 0,az [.ref (p 11 0),.ref (p 12 0)] 0),(p 4 0,am (.ref (p 6 0)) i),(p 5 0,am (.ref (p 7 0)) i),(p 6 0,ab a (p 6 1)),(p 7 0,ab g (p 7 1)),(p 8 0,aG w [("script",p 8 2,.ref (p 8 3)),("rows",p 8 4,.ref (p 6 0)),("written",p 8 6,.ref (p 7 0)),("row",p 8 8,e),("parts",p 8 10,h),("path",p 8 12,d)] (p 8 1)),(p 9 0,aJ (.ref (p 10 0))),(p 10 0,ab j (p 10 1)),aE r (p 11),aE (r.map ao) (p 12),(p 14 0,az [.ref (p 11 0),.ref (p 12 0)] 0)] fun k=>((),AJ w e h d r i a g j p k,[]++[]):=by
 rw [km]
 exact bt (enc:=iM) j9 (orcs:=[]) aq 63 0 [13,13,13,0,13,0,8,14,14,0,14,0,9,14,14,13,14,13,14,0,14,0,9,14,14,13,14,13,14,0,14,0,9,14,14,13,14,13,16,8,7,8,7] [0,1,2,3,4,5,6,7,8,9,10,11,12] none (fun n m f=>fun _=>0)
def AL (w:Yc) (c:Yd) (r:Yg) (i:Nat) (a b d:Yb) (p:af):Ya:=[(p 1 0,ba (p 2 0) (p 3 0)),(p 2 0,az [.ref (p 4 0),.ref (p 5 0)] 0),(p 3 0,az [.ref (p 11 0),.ref (p 12 0)] 0),(p 4 0,am (.ref (p 6 0)) i),(p 5 0,am (.ref (p 7 0)) i),(p 6 0,ab a (p 6 1)),(p 7 0,ab b (p 7 1)),(p 8 0,aG w [("script",p 8 2,.ref (p 8 3)),("rows",p 8 4,.ref (p 6 0)),("written",p 8 6,.ref (p 7 0)),("row",p 8 8,.ref (p 11 0)),("parts",p 8 10,.ref (p 12 0)),("path",p 8 12,c)] (p 8 1)),(p 9 0,aJ (.ref (p 10 0))),(p 10 0,ab d (p 10 1)),aE r (p 11),aE (r.map ao) (p 12)]
theorem Ib (b c:Bool) (w:Yc) (j:Yd) (r:Yg) (i:Nat) (a d e:Yb) (p:af) (g:b7 r):aI (B0 (W b c w)) 4 (execs [dS w 0] (bm w p)) (AL w j r i a d e p) fun h=>(.next,[ba (p 2 0) (p 3 0),az [.ref (p 4 0),.ref (p 5 0)] 0,az [.ref (p 11 0),.ref (p 12 0)] 0,am (.ref (p 6 0)) i,am (.ref (p 7 0)) i,ab a (p 6 1),ab d (p 7 1),aG w [("script",p 8 2,.ref (p 8 3)),("rows",p 8 4,.ref (p 6 0)),("written",p 8 6,.ref (p 7 0)),("row",p 8 8,.ref (p 11 0)),("parts",p 8 10,.ref (p 12 0)),("path",p 8 12,.str (aU (r.map ao)) (h 0))] (p 8 1),aJ (.ref (p 10 0)),ab e (p 10 1),(aE r (p 11)).2,(aE (r.map ao) (p 12)).2],[]++[]):=by
 rw [cE]
 exact bt (enc:=cc) cD (orcs:=[pn (r.map ao) (p 12) 11]) (aa (sM (gF g) (by decide)) aq) 19 1 [0,8,0,2,8,7] [0,1,2,3,4,5,6,7,8,9,10,11] none (fun n k f=>aB [(f 0).2.2 0,(f 0).2.1+0])
def vM (w:Yc) (r:Yg) (i:Nat) (a b c:Yb) (p:af):Ya:=[(p 1 0,ba (p 2 0) (p 3 0)),(p 2 0,az [.ref (p 4 0),.ref (p 5 0)] 0),(p 3 0,az [.ref (p 11 0),.ref (p 12 0)] 0),(p 4 0,am (.ref (p 6 0)) i),(p 5 0,am (.ref (p 7 0)) i),(p 6 0,ab a (p 6 1)),(p 7 0,ab b (p 7 1)),(p 8 0,aG w [("script",p 8 2,.ref (p 8 3)),("rows",p 8 4,.ref (p 6 0)),("written",p 8 6,.ref (p 7 0)),("row",p 8 8,.ref (p 11 0)),("parts",p 8 10,.ref (p 12 0)),("path",p 8 12,.str (aU (r.map ao)) (p 8 13))] (p 8 1)),(p 9 0,aJ (.ref (p 10 0))),(p 10 0,ab c (p 10 1)),aE r (p 11),aE (r.map ao) (p 12)]
def AM (w:Yc) (r:Yg) (i:Nat) (a b c:Yb) (p:af) (d:Ye):Yf:=[ba (p 2 0) (p 3 0),az [.ref (p 4 0),.ref (p 5 0)] 0,az [.ref (p 11 0),.ref (p 12 0)] 0,am (.ref (p 6 0)) i,am (.ref (p 7 0)) i,ab a (p 6 1),ab b (p 7 1),aG w [("script",p 8 2,.ref (p 8 3)),("rows",p 8 4,.ref (p 6 0)),("written",p 8 6,.ref (p 7 0)),("row",p 8 8,.ref (p 11 0)),("parts",p 8 10,.ref (p 12 0)),("path",p 8 12,.str (aU (r.map ao)) (p 8 13))] (p 8 1),aJ (.ref (p 10 0)),ab c (p 10 1),(aE r (p 11)).2,(aE (r.map ao) (p 12)).2]
theorem Ic (b c:Bool) (w:Yc) (r:Yg) (i:Nat) (a d e:Yb) (p:af) (g:b7 r):aI (B0 (W b c w)) 4 (isTrue (cW (c1 (bN (dS w 1))) 0) (bm w p) (eval (cW (c1 (bN (dS w 1))) 0) (bm w p))) (vM w r i a d e p) fun h=>(false,AM w r i a d e p h,[]++[]):=by
 rw [s8,dQ]
 exact bt (enc:=mV) sB (orcs:=[zS (r.map ao),o2 "str.__ne__" (aU (r.map ao)) (aU (r.map ao)) fun _=>.bool false]) (aa (Gd (gF g) (by decide)) (aa (aQ (bne_self_eq_false _)) aq)) 16 2 [0,8,0,2,8,3] [0,1,2,3,4,5,6,7,8,9,10,11] none (fun n j f=>fun _=>0)
theorem Id (b c:Bool) (w:Yc) (a:Str) (i:Nat) (e g k:Yb) (p:af) (h:a∈b1):aI (B0 (W b c w)) 4 (eval (d1 (cW (c1 (bN (dS w 1))) 1)) (bm w p)) [(p 1 0,ba (p 2 0) (p 3 0)),(p 2 0,az [.ref (p 4 0),.ref (p 5 0)] 0),(p 3 0,az [.ref (p 11 0),.ref (p 12 0)] 0),(p 4 0,am (.ref (p 6 0)) i),(p 5 0,am (.ref (p 7 0)) i),(p 6 0,ab e (p 6 1)),(p 7 0,ab g (p 7 1)),(p 8 0,aG w [("script",p 8 2,.ref (p 8 3)),("rows",p 8 4,.ref (p 6 0)),("written",p 8 6,.ref (p 7 0)),("row",p 8 8,.ref (p 11 0)),("parts",p 8 10,.ref (p 12 0)),("path",p 8 12,.str (aU [ao a]) (p 8 13))] (p 8 1)),(p 9 0,aJ (.ref (p 10 0))),(p 10 0,ab k (p 10 1)),aE [a] (p 11),aE [ao a] (p 12)] fun d=>((.ref (d 0)),[ba (p 2 0) (p 3 0),az [.ref (p 4 0),.ref (p 5 0)] 0,az [.ref (p 11 0),.ref (p 12 0)] 0,am (.ref (p 6 0)) i,am (.ref (p 7 0)) i,ab e (p 6 1),ab g (p 7 1),aG w [("script",p 8 2,.ref (p 8 3)),("rows",p 8 4,.ref (p 6 0)),("written",p 8 6,.ref (p 7 0)),("row",p 8 8,.ref (p 11 0)),("parts",p 8 10,.ref (p 12 0)),("path",p 8 12,.str (aU [ao a]) (p 8 13))] (p 8 1),aJ (.ref (p 10 0)),ab k (p 10 1),(aE [a] (p 11)).2,(aE [ao a] (p 12)).2],[(d 0,ab (cO ([ao a].map b4) (fun i=>d (i+1)) 0) [ao a].length)]++[]):=by
 rw [dQ]
 exact bt (enc:=dx) eN (orcs:=[cb (aU [ao a]) "/" ("" :: [ao a]),vF w [15,14,16,17] [ao a]]) (aa (cs (fU (ao a) (ke a h))) (aa (AA (by decide) (gF (.inl ⟨a,h,rfl⟩)) (by decide)) aq)) 49 2 [8,2,13,13,13,0,13,0,54,14,14,14,14,14,13,0,95,15,15,0,15,0,23,16,3,18,18,17] [0,1,2,3,4,5,6,7,8,9,10,11,16] none (fun n m f=>fun i=>match i with | 0=>(f 0).1+3 | j+1=>(f 1).2.2 (j+1))
theorem Ie (b c:Bool) (w:Yc) (a:Str) (i:Nat) (e g h:Yb) (p:af) (j:a∈b1):aI (B0 (W b c w)) 4 (eval (db (cW (c1 (bN (dS w 2))) 0)) (bm w p)) [(p 1 0,ba (p 2 0) (p 3 0)),(p 2 0,az [.ref (p 4 0),.ref (p 5 0)] 0),(p 3 0,az [.ref (p 11 0),.ref (p 12 0)] 0),(p 4 0,am (.ref (p 6 0)) i),(p 5 0,am (.ref (p 7 0)) i),(p 6 0,ab e (p 6 1)),(p 7 0,ab g (p 7 1)),(p 8 0,aG w [("script",p 8 2,.ref (p 8 3)),("rows",p 8 4,.ref (p 6 0)),("written",p 8 6,.ref (p 7 0)),("row",p 8 8,.ref (p 11 0)),("parts",p 8 10,.ref (p 12 0)),("path",p 8 12,.str (aU [ao a]) (p 8 13))] (p 8 1)),(p 9 0,aJ (.ref (p 10 0))),(p 10 0,ab h (p 10 1)),aE [a] (p 11),aE [ao a] (p 12)] fun d=>((.ref (d 0)),[ba (p 2 0) (p 3 0),az [.ref (p 4 0),.ref (p 5 0)] 0,az [.ref (p 11 0),.ref (p 12 0)] 0,am (.ref (p 6 0)) i,am (.ref (p 7 0)) i,ab e (p 6 1),ab g (p 7 1),aG w [("script",p 8 2,.ref (p 8 3)),("rows",p 8 4,.ref (p 6 0)),("written",p 8 6,.ref (p 7 0)),("row",p 8 8,.ref (p 11 0)),("parts",p 8 10,.ref (p 12 0)),("path",p 8 12,.str (aU [ao a]) (p 8 13))] (p 8 1),aJ (.ref (p 10 0)),ab h (p 10 1),(aE [a] (p 11)).2,(aE [ao a] (p 12)).2],[(d 0,az [.str (m4 [ao a]) (d 1),.str (m7 [ao a]) (d 2)] 0)]++[]):=by
 rw [dQ]
 exact bt (enc:=dx) eN (orcs:=[ve [ao a]]) (aa (zT (gF (.inl ⟨a,j,rfl⟩)) (by decide)) aq) 30 1 [0,8,0,2,8,0,0,69,12,12,12,0,12,0,54,12] [0,1,2,3,4,5,6,7,8,9,10,11,12] none (fun n k f=>aB [(f 0).1+0,(f 0).2.2 0,p 12 1])
theorem Ig (b c:Bool) (w:Yc) (a:Str) (i:Nat) (e g h:Yb) (p:af) (d:a∈b1):aI (B0 (W b c w)) 4 (isTrue (cW (c1 (bN (dS w 2))) 1) (bm w p) (eval (cW (c1 (bN (dS w 2))) 1) (bm w p))) [(p 1 0,ba (p 2 0) (p 3 0)),(p 2 0,az [.ref (p 4 0),.ref (p 5 0)] 0),(p 3 0,az [.ref (p 11 0),.ref (p 12 0)] 0),(p 4 0,am (.ref (p 6 0)) i),(p 5 0,am (.ref (p 7 0)) i),(p 6 0,ab e (p 6 1)),(p 7 0,ab g (p 7 1)),(p 8 0,aG w [("script",p 8 2,.ref (p 8 3)),("rows",p 8 4,.ref (p 6 0)),("written",p 8 6,.ref (p 7 0)),("row",p 8 8,.ref (p 11 0)),("parts",p 8 10,.ref (p 12 0)),("path",p 8 12,.str (aU [ao a]) (p 8 13))] (p 8 1)),(p 9 0,aJ (.ref (p 10 0))),(p 10 0,ab h (p 10 1)),aE [a] (p 11),aE [ao a] (p 12)] fun j=>(false,[ba (p 2 0) (p 3 0),az [.ref (p 4 0),.ref (p 5 0)] 0,az [.ref (p 11 0),.ref (p 12 0)] 0,am (.ref (p 6 0)) i,am (.ref (p 7 0)) i,ab e (p 6 1),ab g (p 7 1),aG w [("script",p 8 2,.ref (p 8 3)),("rows",p 8 4,.ref (p 6 0)),("written",p 8 6,.ref (p 7 0)),("row",p 8 8,.ref (p 11 0)),("parts",p 8 10,.ref (p 12 0)),("path",p 8 12,.str (aU [ao a]) (p 8 13))] (p 8 1),aJ (.ref (p 10 0)),ab h (p 10 1),(aE [a] (p 11)).2,(aE [ao a] (p 12)).2],[]++[]):=by
 rw [s8,dQ]
 exact bt (enc:=mV) sB (orcs:=[vf [ao a],jm (ao a),o2 "str.__ne__" (b4 (ao a)) a fun _=>.bool false]) (aa (zU (gF (.inl ⟨a,d,rfl⟩)) (by decide)) (aa (kb (ao a) (ke a d) (by decide)) (aa (aQ (AD d)) aq))) 37 3 [0,0,8,0,2,0,3,8,0,0,69,11,11,11,0,11,0,54,11,4] [0,1,2,3,4,5,6,7,8,9,10,11] none (fun n k f=>fun _=>0)
theorem Ih (b c:Bool) (w:Yc) (a:Str) (i:Nat) (e g h:Yb) (p:af) (k:a∈b1):aI (B0 (W b c w)) 4 (eval (d1 (bN (dS w 3))) (bm w p)) [(p 1 0,ba (p 2 0) (p 3 0)),(p 2 0,az [.ref (p 4 0),.ref (p 5 0)] 0),(p 3 0,az [.ref (p 11 0),.ref (p 12 0)] 0),(p 4 0,am (.ref (p 6 0)) i),(p 5 0,am (.ref (p 7 0)) i),(p 6 0,ab e (p 6 1)),(p 7 0,ab g (p 7 1)),(p 8 0,aG w [("script",p 8 2,.ref (p 8 3)),("rows",p 8 4,.ref (p 6 0)),("written",p 8 6,.ref (p 7 0)),("row",p 8 8,.ref (p 11 0)),("parts",p 8 10,.ref (p 12 0)),("path",p 8 12,.str (aU [ao a]) (p 8 13))] (p 8 1)),(p 9 0,aJ (.ref (p 10 0))),(p 10 0,ab h (p 10 1)),aE [a] (p 11),aE [ao a] (p 12)] fun d=>((.ref (d 0)),[ba (p 2 0) (p 3 0),az [.ref (p 4 0),.ref (p 5 0)] 0,az [.ref (p 11 0),.ref (p 12 0)] 0,am (.ref (p 6 0)) i,am (.ref (p 7 0)) i,ab e (p 6 1),ab g (p 7 1),aG w [("script",p 8 2,.ref (p 8 3)),("rows",p 8 4,.ref (p 6 0)),("written",p 8 6,.ref (p 7 0)),("row",p 8 8,.ref (p 11 0)),("parts",p 8 10,.ref (p 12 0)),("path",p 8 12,.str (aU [ao a]) (p 8 13))] (p 8 1),aJ (.ref (p 10 0)),ab h (p 10 1),(aE [a] (p 11)).2,(aE [ao a] (p 12)).2],[(d 0,ab (cO (cT [ao a]) (fun i=>d (i+1)) 0) (cT [ao a]).length)]++[]):=by
 rw [dQ]
 exact bt (enc:=dx) eN (orcs:=[vG w [12,11,13,14] [ao a]]) (aa (AB (by decide) (gF (.inl ⟨a,k,rfl⟩)) (by decide)) aq) 23 1 [8,12,12,0,12,0,23,13,2,15,15,14] [0,1,2,3,4,5,6,7,8,9,10,11,13] none (fun n m f=>fun i=>match i with | 0=>n+1 | j+1=>(f 0).2.2 (j+1))
theorem Ii (b c:Bool) (w:Yc) (a:Str) (i:Nat) (e g h:Yb) (p:af) (j:a∈b1):aI (B0 (W b c w)) 4 (eval (db (bN (dS w 3))) (bm w p)) [(p 1 0,ba (p 2 0) (p 3 0)),(p 2 0,az [.ref (p 4 0),.ref (p 5 0)] 0),(p 3 0,az [.ref (p 11 0),.ref (p 12 0)] 0),(p 4 0,am (.ref (p 6 0)) i),(p 5 0,am (.ref (p 7 0)) i),(p 6 0,ab e (p 6 1)),(p 7 0,ab g (p 7 1)),(p 8 0,aG w [("script",p 8 2,.ref (p 8 3)),("rows",p 8 4,.ref (p 6 0)),("written",p 8 6,.ref (p 7 0)),("row",p 8 8,.ref (p 11 0)),("parts",p 8 10,.ref (p 12 0)),("path",p 8 12,.str (aU [ao a]) (p 8 13))] (p 8 1)),(p 9 0,aJ (.ref (p 10 0))),(p 10 0,ab h (p 10 1)),aE [a] (p 11),aE [ao a] (p 12)] fun d=>((.ref (d 0)),[ba (p 2 0) (p 3 0),az [.ref (p 4 0),.ref (p 5 0)] 0,az [.ref (p 11 0),.ref (p 12 0)] 0,am (.ref (p 6 0)) i,am (.ref (p 7 0)) i,ab e (p 6 1),ab g (p 7 1),aG w [("script",p 8 2,.ref (p 8 3)),("rows",p 8 4,.ref (p 6 0)),("written",p 8 6,.ref (p 7 0)),("row",p 8 8,.ref (p 11 0)),("parts",p 8 10,.ref (p 12 0)),("path",p 8 12,.str (aU [ao a]) (p 8 13))] (p 8 1),aJ (.ref (p 10 0)),ab h (p 10 1),(aE [a] (p 11)).2,(aE [ao a] (p 12)).2],[(d 0,ab (cp (df [a] (fun i=>p 11 (i+1)) 0)) (cp (df [a] (fun i=>p 11 (i+1)) 0)).length)]++[]):=by
 rw [dQ]
 exact bt (enc:=dx) eN (orcs:=[vH w [12,10,13,14] [a]]) (aa (AC (by decide) (.inl ⟨a,j,rfl⟩) (by decide)) aq) 23 1 [8,11,11,0,11,0,23,13,2,15,15,14] [0,1,2,3,4,5,6,7,8,9,10,11,13] none (fun n k f=>aB [n+1])
theorem Ij (b c:Bool) (w:Yc) (a d:Str) (i:Nat) (g k o:Yb) (p:af) (m:a∈b1) (h:d∈b1):aI (B0 (W b c w)) 4 (eval (d1 (cW (c1 (bN (dS w 1))) 1)) (bm w p)) [(p 1 0,ba (p 2 0) (p 3 0)),(p 2 0,az [.ref (p 4 0),.ref (p 5 0)] 0),(p 3 0,az [.ref (p 11 0),.ref (p 12 0)] 0),(p 4 0,am (.ref (p 6 0)) i),(p 5 0,am (.ref (p 7 0)) i),(p 6 0,ab g (p 6 1)),(p 7 0,ab k (p 7 1)),(p 8 0,aG w [("script",p 8 2,.ref (p 8 3)),("rows",p 8 4,.ref (p 6 0)),("written",p 8 6,.ref (p 7 0)),("row",p 8 8,.ref (p 11 0)),("parts",p 8 10,.ref (p 12 0)),("path",p 8 12,.str (aU [ao a,ao d]) (p 8 13))] (p 8 1)),(p 9 0,aJ (.ref (p 10 0))),(p 10 0,ab o (p 10 1)),aE [a,d] (p 11),aE [ao a,ao d] (p 12)] fun e=>((.ref (e 0)),[ba (p 2 0) (p 3 0),az [.ref (p 4 0),.ref (p 5 0)] 0,az [.ref (p 11 0),.ref (p 12 0)] 0,am (.ref (p 6 0)) i,am (.ref (p 7 0)) i,ab g (p 6 1),ab k (p 7 1),aG w [("script",p 8 2,.ref (p 8 3)),("rows",p 8 4,.ref (p 6 0)),("written",p 8 6,.ref (p 7 0)),("row",p 8 8,.ref (p 11 0)),("parts",p 8 10,.ref (p 12 0)),("path",p 8 12,.str (aU [ao a,ao d]) (p 8 13))] (p 8 1),aJ (.ref (p 10 0)),ab o (p 10 1),(aE [a,d] (p 11)).2,(aE [ao a,ao d] (p 12)).2],[(e 0,ab (cO ([ao a,ao d].map b4) (fun i=>e (i+1)) 0) [ao a,ao d].length)]++[]):=by
 rw [dQ]
 exact bt (enc:=dx) eN (orcs:=[cb (aU [ao a,ao d]) "/" ("" :: [ao a,ao d]),vF w [15,14,16,17] [ao a,ao d]]) (aa (cs (d3 (ao a) (ke a m) (ao d) (ke d h))) (aa (AA (by decide) (gF (.inr ⟨a,m,d,h,rfl⟩)) (by decide)) aq)) 49 2 [8,2,13,13,13,0,13,0,54,14,14,14,14,14,13,0,95,15,15,0,15,0,23,16,3,18,18,17] [0,1,2,3,4,5,6,7,8,9,10,11,16] none (fun n q f=>fun i=>match i with | 0=>(f 0).1+3 | j+1=>(f 1).2.2 (j+1))
theorem Ik (b c:Bool) (w:Yc) (a d:Str) (i:Nat) (g h j:Yb) (p:af) (m:a∈b1) (k:d∈b1):aI (B0 (W b c w)) 4 (eval (db (cW (c1 (bN (dS w 2))) 0)) (bm w p)) [(p 1 0,ba (p 2 0) (p 3 0)),(p 2 0,az [.ref (p 4 0),.ref (p 5 0)] 0),(p 3 0,az [.ref (p 11 0),.ref (p 12 0)] 0),(p 4 0,am (.ref (p 6 0)) i),(p 5 0,am (.ref (p 7 0)) i),(p 6 0,ab g (p 6 1)),(p 7 0,ab h (p 7 1)),(p 8 0,aG w [("script",p 8 2,.ref (p 8 3)),("rows",p 8 4,.ref (p 6 0)),("written",p 8 6,.ref (p 7 0)),("row",p 8 8,.ref (p 11 0)),("parts",p 8 10,.ref (p 12 0)),("path",p 8 12,.str (aU [ao a,ao d]) (p 8 13))] (p 8 1)),(p 9 0,aJ (.ref (p 10 0))),(p 10 0,ab j (p 10 1)),aE [a,d] (p 11),aE [ao a,ao d] (p 12)] fun e=>((.ref (e 0)),[ba (p 2 0) (p 3 0),az [.ref (p 4 0),.ref (p 5 0)] 0,az [.ref (p 11 0),.ref (p 12 0)] 0,am (.ref (p 6 0)) i,am (.ref (p 7 0)) i,ab g (p 6 1),ab h (p 7 1),aG w [("script",p 8 2,.ref (p 8 3)),("rows",p 8 4,.ref (p 6 0)),("written",p 8 6,.ref (p 7 0)),("row",p 8 8,.ref (p 11 0)),("parts",p 8 10,.ref (p 12 0)),("path",p 8 12,.str (aU [ao a,ao d]) (p 8 13))] (p 8 1),aJ (.ref (p 10 0)),ab j (p 10 1),(aE [a,d] (p 11)).2,(aE [ao a,ao d] (p 12)).2],[(e 0,az [.str (m4 [ao a,ao d]) (e 1),.str (m7 [ao a,ao d]) (e 2)] 0)]++[]):=by
 rw [dQ]
 exact bt (enc:=dx) eN (orcs:=[ve [ao a,ao d]]) (aa (zT (gF (.inr ⟨a,m,d,k,rfl⟩)) (by decide)) aq) 30 1 [0,8,0,2,8,0,0,69,12,12,12,0,12,0,54,12] [0,1,2,3,4,5,6,7,8,9,10,11,12] none (fun n o f=>aB [(f 0).1+0,(f 0).2.2 0,p 12 2])
theorem Il (b c:Bool) (w:Yc) (a d:Str) (i:Nat) (g h j:Yb) (p:af) (k:a∈b1) (e:d∈b1):aI (B0 (W b c w)) 4 (isTrue (cW (c1 (bN (dS w 2))) 1) (bm w p) (eval (cW (c1 (bN (dS w 2))) 1) (bm w p))) [(p 1 0,ba (p 2 0) (p 3 0)),(p 2 0,az [.ref (p 4 0),.ref (p 5 0)] 0),(p 3 0,az [.ref (p 11 0),.ref (p 12 0)] 0),(p 4 0,am (.ref (p 6 0)) i),(p 5 0,am (.ref (p 7 0)) i),(p 6 0,ab g (p 6 1)),(p 7 0,ab h (p 7 1)),(p 8 0,aG w [("script",p 8 2,.ref (p 8 3)),("rows",p 8 4,.ref (p 6 0)),("written",p 8 6,.ref (p 7 0)),("row",p 8 8,.ref (p 11 0)),("parts",p 8 10,.ref (p 12 0)),("path",p 8 12,.str (aU [ao a,ao d]) (p 8 13))] (p 8 1)),(p 9 0,aJ (.ref (p 10 0))),(p 10 0,ab j (p 10 1)),aE [a,d] (p 11),aE [ao a,ao d] (p 12)] fun m=>(false,[ba (p 2 0) (p 3 0),az [.ref (p 4 0),.ref (p 5 0)] 0,az [.ref (p 11 0),.ref (p 12 0)] 0,am (.ref (p 6 0)) i,am (.ref (p 7 0)) i,ab g (p 6 1),ab h (p 7 1),aG w [("script",p 8 2,.ref (p 8 3)),("rows",p 8 4,.ref (p 6 0)),("written",p 8 6,.ref (p 7 0)),("row",p 8 8,.ref (p 11 0)),("parts",p 8 10,.ref (p 12 0)),("path",p 8 12,.str (aU [ao a,ao d]) (p 8 13))] (p 8 1),aJ (.ref (p 10 0)),ab j (p 10 1),(aE [a,d] (p 11)).2,(aE [ao a,ao d] (p 12)).2],[]++[]):=by
 rw [s8,dQ]
 exact bt (enc:=mV) sB (orcs:=[vf [ao a,ao d],jm (ao d),o2 "str.__ne__" (b4 (ao d)) d fun _=>.bool false]) (aa (zU (gF (.inr ⟨a,k,d,e,rfl⟩)) (by decide)) (aa (kb (ao d) (ke d e) (by decide)) (aa (aQ (AD e)) aq))) 37 3 [0,0,8,0,2,0,3,8,0,0,69,11,11,11,0,11,0,54,11,4] [0,1,2,3,4,5,6,7,8,9,10,11] none (fun n o f=>fun _=>0)
theorem Im (b c:Bool) (w:Yc) (a d:Str) (i:Nat) (g h k:Yb) (p:af) (o:a∈b1) (m:d∈b1):aI (B0 (W b c w)) 4 (eval (d1 (bN (dS w 3))) (bm w p)) [(p 1 0,ba (p 2 0) (p 3 0)),(p 2 0,az [.ref (p 4 0),.ref (p 5 0)] 0),(p 3 0,az [.ref (p 11 0),.ref (p 12 0)] 0),(p 4 0,am (.ref (p 6 0)) i),(p 5 0,am (.ref (p 7 0)) i),(p 6 0,ab g (p 6 1)),(p 7 0,ab h (p 7 1)),(p 8 0,aG w [("script",p 8 2,.ref (p 8 3)),("rows",p 8 4,.ref (p 6 0)),("written",p 8 6,.ref (p 7 0)),("row",p 8 8,.ref (p 11 0)),("parts",p 8 10,.ref (p 12 0)),("path",p 8 12,.str (aU [ao a,ao d]) (p 8 13))] (p 8 1)),(p 9 0,aJ (.ref (p 10 0))),(p 10 0,ab k (p 10 1)),aE [a,d] (p 11),aE [ao a,ao d] (p 12)] fun e=>((.ref (e 0)),[ba (p 2 0) (p 3 0),az [.ref (p 4 0),.ref (p 5 0)] 0,az [.ref (p 11 0),.ref (p 12 0)] 0,am (.ref (p 6 0)) i,am (.ref (p 7 0)) i,ab g (p 6 1),ab h (p 7 1),aG w [("script",p 8 2,.ref (p 8 3)),("rows",p 8 4,.ref (p 6 0)),("written",p 8 6,.ref (p 7 0)),("row",p 8 8,.ref (p 11 0)),("parts",p 8 10,.ref (p 12 0)),("path",p 8 12,.str (aU [ao a,ao d]) (p 8 13))] (p 8 1),aJ (.ref (p 10 0)),ab k (p 10 1),(aE [a,d] (p 11)).2,(aE [ao a,ao d] (p 12)).2],[(e 0,ab (cO (cT [ao a,ao d]) (fun i=>e (i+1)) 0) (cT [ao a,ao d]).length)]++[]):=by
 rw [dQ]
 exact bt (enc:=dx) eN (orcs:=[vG w [12,11,13,14] [ao a,ao d]]) (aa (AB (by decide) (gF (.inr ⟨a,o,d,m,rfl⟩)) (by decide)) aq) 23 1 [8,12,12,0,12,0,23,13,2,15,15,14] [0,1,2,3,4,5,6,7,8,9,10,11,13] none (fun n q f=>fun i=>match i with | 0=>n+1 | j+1=>(f 0).2.2 (j+1))
theorem Io (b c:Bool) (w:Yc) (a d:Str) (i:Nat) (g h j:Yb) (p:af) (m:a∈b1) (k:d∈b1):aI (B0 (W b c w)) 4 (eval (db (bN (dS w 3))) (bm w p)) [(p 1 0,ba (p 2 0) (p 3 0)),(p 2 0,az [.ref (p 4 0),.ref (p 5 0)] 0),(p 3 0,az [.ref (p 11 0),.ref (p 12 0)] 0),(p 4 0,am (.ref (p 6 0)) i),(p 5 0,am (.ref (p 7 0)) i),(p 6 0,ab g (p 6 1)),(p 7 0,ab h (p 7 1)),(p 8 0,aG w [("script",p 8 2,.ref (p 8 3)),("rows",p 8 4,.ref (p 6 0)),("written",p 8 6,.ref (p 7 0)),("row",p 8 8,.ref (p 11 0)),("parts",p 8 10,.ref (p 12 0)),("path",p 8 12,.str (aU [ao a,ao d]) (p 8 13))] (p 8 1)),(p 9 0,aJ (.ref (p 10 0))),(p 10 0,ab j (p 10 1)),aE [a,d] (p 11),aE [ao a,ao d] (p 12)] fun e=>((.ref (e 0)),[ba (p 2 0) (p 3 0),az [.ref (p 4 0),.ref (p 5 0)] 0,az [.ref (p 11 0),.ref (p 12 0)] 0,am (.ref (p 6 0)) i,am (.ref (p 7 0)) i,ab g (p 6 1),ab h (p 7 1),aG w [("script",p 8 2,.ref (p 8 3)),("rows",p 8 4,.ref (p 6 0)),("written",p 8 6,.ref (p 7 0)),("row",p 8 8,.ref (p 11 0)),("parts",p 8 10,.ref (p 12 0)),("path",p 8 12,.str (aU [ao a,ao d]) (p 8 13))] (p 8 1),aJ (.ref (p 10 0)),ab j (p 10 1),(aE [a,d] (p 11)).2,(aE [ao a,ao d] (p 12)).2],[(e 0,ab (cp (df [a,d] (fun i=>p 11 (i+1)) 0)) (cp (df [a,d] (fun i=>p 11 (i+1)) 0)).length)]++[]):=by
 rw [dQ]
 exact bt (enc:=dx) eN (orcs:=[vH w [12,10,13,14] [a,d]]) (aa (AC (by decide) (.inr ⟨a,m,d,k,rfl⟩) (by decide)) aq) 23 1 [8,11,11,0,11,0,23,13,2,15,15,14] [0,1,2,3,4,5,6,7,8,9,10,11,13] none (fun n o f=>aB [n+1])
theorem Ip (b c:Bool) (w:Yc) (r:Yg) (i:Nat) (a d e:Yb) (p:af):aI (B0 (W b c w)) 4 (eval (db (cW (c1 (bN (dS w 1))) 1)) (bm w p)) [(p 1 0,ba (p 2 0) (p 3 0)),(p 2 0,az [.ref (p 4 0),.ref (p 5 0)] 0),(p 3 0,az [.ref (p 11 0),.ref (p 12 0)] 0),(p 4 0,am (.ref (p 6 0)) i),(p 5 0,am (.ref (p 7 0)) i),(p 6 0,ab a (p 6 1)),(p 7 0,ab d (p 7 1)),(p 8 0,aG w [("script",p 8 2,.ref (p 8 3)),("rows",p 8 4,.ref (p 6 0)),("written",p 8 6,.ref (p 7 0)),("row",p 8 8,.ref (p 11 0)),("parts",p 8 10,.ref (p 12 0)),("path",p 8 12,.str (aU (r.map ao)) (p 8 13))] (p 8 1)),(p 9 0,aJ (.ref (p 10 0))),(p 10 0,ab e (p 10 1)),aE r (p 11),aE (r.map ao) (p 12)] fun g=>((.ref (p 11 0)),[ba (p 2 0) (p 3 0),az [.ref (p 4 0),.ref (p 5 0)] 0,az [.ref (p 11 0),.ref (p 12 0)] 0,am (.ref (p 6 0)) i,am (.ref (p 7 0)) i,ab a (p 6 1),ab d (p 7 1),aG w [("script",p 8 2,.ref (p 8 3)),("rows",p 8 4,.ref (p 6 0)),("written",p 8 6,.ref (p 7 0)),("row",p 8 8,.ref (p 11 0)),("parts",p 8 10,.ref (p 12 0)),("path",p 8 12,.str (aU (r.map ao)) (p 8 13))] (p 8 1),aJ (.ref (p 10 0)),ab e (p 10 1),(aE r (p 11)).2,(aE (r.map ao) (p 12)).2],[]++[]):=by
 rw [dQ]
 exact bt (enc:=dx) eN (orcs:=[]) aq 5 0 [8] [0,1,2,3,4,5,6,7,8,9,10,11] none (fun n h f=>fun _=>0)
theorem Iq (b c:Bool) (w:Yc) (r:Yg) (i:Nat) (d e g:Yb) (p:af) (h:b7 r):aI (B0 (W b c w)) 4 (eval (d1 (cW (c1 (bN (dS w 2))) 0)) (bm w p)) [(p 1 0,ba (p 2 0) (p 3 0)),(p 2 0,az [.ref (p 4 0),.ref (p 5 0)] 0),(p 3 0,az [.ref (p 11 0),.ref (p 12 0)] 0),(p 4 0,am (.ref (p 6 0)) i),(p 5 0,am (.ref (p 7 0)) i),(p 6 0,ab d (p 6 1)),(p 7 0,ab e (p 7 1)),(p 8 0,aG w [("script",p 8 2,.ref (p 8 3)),("rows",p 8 4,.ref (p 6 0)),("written",p 8 6,.ref (p 7 0)),("row",p 8 8,.ref (p 11 0)),("parts",p 8 10,.ref (p 12 0)),("path",p 8 12,.str (aU (r.map ao)) (p 8 13))] (p 8 1)),(p 9 0,aJ (.ref (p 10 0))),(p 10 0,ab g (p 10 1)),aE r (p 11),aE (r.map ao) (p 12)] fun a=>((.ref (a 0)),[ba (p 2 0) (p 3 0),az [.ref (p 4 0),.ref (p 5 0)] 0,az [.ref (p 11 0),.ref (p 12 0)] 0,am (.ref (p 6 0)) i,am (.ref (p 7 0)) i,ab d (p 6 1),ab e (p 7 1),aG w [("script",p 8 2,.ref (p 8 3)),("rows",p 8 4,.ref (p 6 0)),("written",p 8 6,.ref (p 7 0)),("row",p 8 8,.ref (p 11 0)),("parts",p 8 10,.ref (p 12 0)),("path",p 8 12,.str (aU (r.map ao)) (p 8 13))] (p 8 1),aJ (.ref (p 10 0)),ab g (p 10 1),(aE r (p 11)).2,(aE (r.map ao) (p 12)).2],[(a 0,az [.str (m4 (r.map ao)) (a 1),.str (m7 (r.map ao)) (a 2)] 0)]++[]):=by
 rw [dQ]
 exact bt (enc:=dx) eN (orcs:=[zV (r.map ao)]) (aa (Ge (gF h) (by decide)) aq) 11 1 [0,8,0,2] [0,1,2,3,4,5,6,7,8,9,10,11,12] none (fun n j f=>(f 0).2.2)
def kn (w:Yc) (r:Yg) (i:Nat) (b c d:Yb) (p:af) (a:Ye):Yf:=[ba (p 2 0) (p 3 0),az [.ref (p 4 0),.ref (p 5 0)] 0,az [.ref (p 11 0),.ref (p 12 0)] 0,am (.ref (p 6 0)) i,am (.ref (p 7 0)) i,ab b (p 6 1),ab c (p 7 1),aG w [("script",p 8 2,.ref (p 8 3)),("rows",p 8 4,.ref (p 6 0)),("written",p 8 6,.ref (p 7 0)),("row",p 8 8,.ref (p 11 0)),("parts",p 8 10,.ref (p 12 0)),("path",p 8 12,.str (aU (r.map ao)) (p 8 13))] (p 8 1),aJ (.ref (p 10 0)),ab (iS d (aU (r.map ao)) (p 8 13)) (a 0),(aE r (p 11)).2,(aE (r.map ao) (p 12)).2]
theorem Ir (b c:Bool) (w:Yc) (r:Yg) (i:Nat) (d e a:Yb) (p:af) (h:a.length≤90) (j:bk a):aI (B0 (W b c w)) 4 (execs [dS w 4] (bm w p)) [(p 1 0,ba (p 2 0) (p 3 0)),(p 2 0,az [.ref (p 4 0),.ref (p 5 0)] 0),(p 3 0,az [.ref (p 11 0),.ref (p 12 0)] 0),(p 4 0,am (.ref (p 6 0)) i),(p 5 0,am (.ref (p 7 0)) i),(p 6 0,ab d (p 6 1)),(p 7 0,ab e (p 7 1)),(p 8 0,aG w [("script",p 8 2,.ref (p 8 3)),("rows",p 8 4,.ref (p 6 0)),("written",p 8 6,.ref (p 7 0)),("row",p 8 8,.ref (p 11 0)),("parts",p 8 10,.ref (p 12 0)),("path",p 8 12,.str (aU (r.map ao)) (p 8 13))] (p 8 1)),(p 9 0,aJ (.ref (p 10 0))),(p 10 0,ab a (p 10 1)),aE r (p 11),aE (r.map ao) (p 12)] fun g=>(.next,kn w r i d e a p g,[]++[]):=by
 rw [cE]
 exact bt (enc:=cc) cD (orcs:=[As a (aU (r.map ao)) 9]) (aa (HG h j (by decide)) aq) 14 1 [0,9,8,0,2] [0,1,2,3,4,5,6,7,8,9,10,11] none (fun n k f=>(f 0).2.2)
end
section
open SeqAt MeetsSeq3
structure ii (B:bf) (h0:Heap) (T:Ya) (h:Heap):Prop where
 size:h0.objs.size≤h.objs.size
 keep:∀b ob,h0.get? b=some ob→b∉T.map (·.1)→h.get? b=some ob
 own:∀p∈T,h.get? p.1=some p.2
 inB:B.In h
structure vN (B:bf) (h0:Heap) (adr:List Addr):Prop where
 nd:adr.Nodup
 lo:∀a∈adr,B.lo≤a
 lt:∀a∈adr,a<h0.objs.size
theorem Lv.under {m:Nat} {A:Around} {c:Code} (h:Lv (m+1) A) (t:fW c):Lv m (A.under c):=by
 refine ⟨h.1,?_,?_⟩
 ·have a:=t.weight
  have:=h.2.1
  show A.depth+c.weight+48*m≤900
  lia
 ·have a:=t.units
  have:=h.2.2
  show A.units+c.cUnits+256*m≤9000
  lia
theorem aI.step {B:bf} (O:B.Ok) {m:Nat} {α : Type} {t:Sem α} {c:Ya} {e:Ye→α×Yf×Ya} (P:aI B m t c e) (F:∀f,(e f).2.1.length=c.length) {A:Around} (C:Lv m A) {w h:Heap} (Z:vN B w (c.map (·.1))) (N:ii B w c h) {z:Nat} {o:Array GenState} {d:Drawn} {u:OsState} {Q : α→Shared→Prop} {E:Yd→Shared→Prop}
  (D:∀g i f,ii B w ((c.map (·.1)).zip (e f).2.1) g→(∀p∈(e f).2.2,g.get? p.1=some p.2∧h.objs.size≤p.1)→(∀b j,h.get? b=some j→b∉c.map (·.1)→g.get? b=some j)→h.objs.size≤g.objs.size→Q (e f).1 ⟨g,o,d,i,u⟩):wpAny B.M A t Q E ⟨h,o,d,z,u⟩:=by
 refine P.go A C h z o d u Q E Z.nd (fun p k=>⟨N.own p k,Z.lo _ (List.mem_map_of_mem k)⟩) N.inB fun g i f le y k x _ => ?_
 refine D g i f ⟨Nat.le_trans N.size le,fun b j q n => ?_,k,mR O N.inB le (fun a x=>Z.lo a x) y⟩ x y le
 rw [jj (F f)] at n
 exact y b j (N.keep b j q n) n
section
variable {B:bf} {A:Around} {E:Yd→Shared→Prop} {s:Shared} {Q:Bool→Shared→Prop}
theorem vO {a b:Addr} {f k:Yb} {n m:Nat} {xs:Yg} (p:A.units<cLine) (u:s.heap.get? a=some (ab f n)) (o:s.heap.get? b=some (ab k m)) (g:StrsAre f xs) (j:StrsAre k xs) (h:Q false s) :
  wpAny B.M A (compareOp .NotEq (.ref a) (.ref b)) (fun c d=>wpAny B.M A (truthy c) Q E d) E s:=by
 have q:=RcNeAt.lists (A:=A) (s:=s) (l:=a) (b:=b) (e:=fun i=>xs[i]? == xs[i]?) ⟨_,u,rfl,n,rfl⟩ ⟨_,o,rfl,m,rfl⟩ (by rw [List.size_toArray,List.size_toArray,hZ g,hZ j]) p (uQ g j)
 have t:(List.range f.toArray.size).all (fun i=>xs[i]? == xs[i]?)=true:=by
  rw [List.all_eq_true]
  intro i _
  exact beq_self_eq_true _
 rw [t] at q
 exact q B.prog B.w E _ (wpAny_truthy_bool h)
theorem Is {a b:Addr} {d g:Yb} {n m:Nat} {xs:Yg} (t:A.units<cLine) (w:s.heap.get? a=some (az d n)) (p:s.heap.get? b=some (az g m)) (j:StrsAre d xs) (k:StrsAre g xs) (h:Q false s) :
  wpAny B.M A (compareOp .NotEq (.ref a) (.ref b)) (fun c f=>wpAny B.M A (truthy c) Q E f) E s:=by
 have q:=RcNeAt.tuples (A:=A) (s:=s) (l:=a) (b:=b) (e:=fun i=>xs[i]? == xs[i]?) ⟨_,w,rfl,n,rfl⟩ ⟨_,p,rfl,m,rfl⟩ t (uQ j k)
 have u:(!((List.range (min d.toArray.size g.toArray.size)).all (fun i=>xs[i]? == xs[i]?)&&d.toArray.size==g.toArray.size))=false:=by
  have o:(List.range (min d.toArray.size g.toArray.size)).all (fun i=>xs[i]? == xs[i]?)=true:=by
   rw [List.all_eq_true]
   intro i _
   exact beq_self_eq_true _
  rw [o,List.size_toArray,List.size_toArray,hZ j,hZ k,beq_self_eq_true]
  rfl
 rw [u] at q
 exact q B.prog B.w E _ (wpAny_truthy_bool h)
end
end
theorem ij {h:Heap} {a:Addr} {o:Obj} (e:h.get? a=some o):a<h.objs.size:=Heap.lt_size e
theorem It {B:bf} {h:Heap} {T:Ya} (nd:(T.map (·.1)).Nodup) (b:∀p∈T,h.get? p.1=some p.2∧B.lo≤p.1):vN B h (T.map (·.1)):=by
 refine ⟨nd,fun a d => ?_,fun a d => ?_⟩ <;> obtain ⟨p,c,rfl⟩:=List.mem_map.mp d
 ·exact (b p c).2
 ·exact ij (b p c).1
theorem Iu {B:bf} {h:Heap} {T:Ya} (a:∀p∈T,h.get? p.1=some p.2∧B.lo≤p.1) (c:B.In h):ii B h T h:=⟨Nat.le_refl _,fun _ _ e _=>e,fun p b=>(a p b).1,c⟩
theorem s9 (T:Ya):(T.map (·.1)).zip (T.map (·.2))=T:=by
 induction T with
 | nil=>rfl
 | cons x l a=>rw [List.map_cons,List.map_cons,List.zip_cons_cons,a]
section
variable {B:bf} {m:Nat} {α β : Type}
theorem aI.co {t:Sem α} {T:Ya} {c a:Ye→α×Yf×Ya} (h:aI B m t T c)
  (o:∀e,∃b,(a b).1=(c e).1∧(a b).2.1=(c e).2.1∧(a b).2.2.Sublist (c e).2.2):aI B m t T a:=by
 refine ⟨fun A q F s x d y Q E nd C w G=>h.go A q F s x d y Q E nd C w fun u g e le I D H i => ?_⟩
 obtain ⟨b,n,k,j⟩:=o e
 have z:=G u g b le I (by rw [k];exact D) (fun p f=>H p (j.subset f)) (List.Sublist.nodup (j.map _) i)
 rw [n] at z
 exact z
theorem aI.pur (v : α) (T:Ya):aI B m (Pure.pure v) T fun _=>(v,T.map (·.2),[]):=by
 refine ⟨fun A g c a j d k Q E nd b i f=>wpAny_pure (f c a id (Nat.le_refl _) (fun _ _ e _=>e) (fun x hx => ?_) (fun _ h=>nomatch h) List.nodup_nil)⟩
 rw [s9] at hx
 exact (b x hx).1
theorem aI.frame {t:Sem α} {T:Ya} {c:Ye→α×Yf×Ya} (h:aI B m t T c) (w:∀e,(c e).2.1.length=T.length) (F:Ya) :
  aI B m t (T++F) fun e=>((c e).1,(c e).2.1++F.map (·.2),(c e).2.2):=by
 refine ⟨fun A o H u D d G Q E nd k C I => ?_⟩
 rw [List.map_append,List.nodup_append] at nd
 refine h.go A o H u D d G Q E nd.1 (fun p g=>k p (List.mem_append_left _ g)) C fun y i e le n g J j=>I y i e le (fun b s q z=>n b s q fun f=>z ?_) (fun x hx => ?_) J j
 ·rw [List.map_append];exact List.mem_append_left _ f
 ·have a:x∈((T++F).map (·.1)).zip ((c e).2.1++F.map (·.2)):=hx
  rw [List.map_append,iL (by rw [List.length_map,w]),s9] at a
  rcases List.mem_append.mp a with a | a
  ·exact g x a
  ·exact n x.1 x.2 (k x (List.mem_append_right _ a)).1 fun f=>nd.2.2 x.1 f x.1 (List.mem_map_of_mem a) rfl
theorem aI.bind (O:B.Ok) {t:Sem α} {f : α→Sem β} {T:Ya} {v:Ye→α} {o:Ye→Yf} {N:Ye→Ya} {u:Ye→Ye→β} {o2 d2:Ye→Ye→Yf} {N2:Ye→Ye→Ya}
  (P:aI B m t T fun c=>(v c,o c,N c)) (lo:∀c,(o c).length=T.length)
  (F:∀c,aI B m (f (v c)) ((T.map (·.1)).zip (o c)++N c) fun e=>(u c e,o2 c e++d2 c e,N2 c e))
  (l2:∀c e,(o2 c e).length=T.length) (ld:∀c e,(d2 c e).length=(N c).length) :
  aI B m (t >>= f) T fun c=>(u (ev c) (od c),o2 (ev c) (od c),((N (ev c)).map (·.1)).zip (d2 (ev c) (od c))++N2 (ev c) (od c)):=by
 refine ⟨fun A hA h tk gs d os Q E nd Y S hR=>wpAny_bind (P.go A hA h tk gs d os _ E nd Y S fun h' Z c le kp i j J => ?_)⟩
 have mf:=jj (lo c)
 have w:∀a∈T.map (·.1),B.lo≤a:=fun a j=>by
  obtain ⟨p,i,rfl⟩:=List.mem_map.mp j
  exact (Y p i).2
 have K:∀a∈T.map (·.1),a<h.objs.size:=fun a j=>by
  obtain ⟨p,i,rfl⟩:=List.mem_map.mp j
  exact ij (Y p i).1
 have s:∀a∈(N c).map (·.1),h.objs.size≤a:=fun a n=>by
  obtain ⟨p,i,rfl⟩:=List.mem_map.mp n
  exact (j p i).2
 have X:∀a∈(N c).map (·.1),a<h'.objs.size:=fun a n=>by
  obtain ⟨p,i,rfl⟩:=List.mem_map.mp n
  exact ij (j p i).1
 have fe:((((T.map (·.1)).zip (o c))++N c).map (·.1))=T.map (·.1)++(N c).map (·.1):=by rw [List.map_append,mf]
 refine (F c).go A hA h' Z gs d os Q E ?_ (fun p g => ?_) (mR O S le w kp) fun G H e V I y k U => ?_
 ·rw [fe]
  exact List.nodup_append.mpr ⟨nd,J,fun a L b R=>Nat.ne_of_lt (Nat.lt_of_lt_of_le (K a L) (s b R))⟩
 ·rcases List.mem_append.mp g with g | g
  ·exact ⟨i p g,w _ (by rw [←mf];exact List.mem_map_of_mem g)⟩
  ·exact ⟨(j p g).1,Nat.le_trans S.2 (j p g).2⟩
 ·rw [fe] at I y
  have D:∀x∈(T.map (·.1)).zip (o2 c e)++((N c).map (·.1)).zip (d2 c e),G.get? x.1=some x.2:=fun x hx=>y x (by
   show x∈(T.map (·.1)++(N c).map (·.1)).zip (o2 c e++d2 c e)
   rw [iL (by rw [List.length_map,l2])];exact hx)
  have mz:=jj (ld c e)
  have z:=hR G H (lk c e) (Nat.le_trans le V) (fun b ob q hb=>I b ob (kp b ob q hb) fun C => ?_)
  ·simp only [u7,u8] at z
   refine z (fun x hx=>D x (List.mem_append_left _ hx)) (fun p g => ?_) ?_
   ·rcases List.mem_append.mp g with g | g
    ·exact ⟨D p (List.mem_append_right _ g),s _ (by rw [←mz];exact List.mem_map_of_mem g)⟩
    ·exact ⟨(k p g).1,Nat.le_trans le (k p g).2⟩
   ·rw [List.map_append,mz]
    refine List.nodup_append.mpr ⟨J,U,fun a L b R => ?_⟩
    obtain ⟨q,hq,rfl⟩:=List.mem_map.mp R
    exact Nat.ne_of_lt (Nat.lt_of_lt_of_le (X a L) (k q hq).2)
  ·rcases List.mem_append.mp C with C | C
   ·exact hb C
   ·exact absurd (ij q) (Nat.not_lt.mpr (s b C))
theorem aI.onRaise {t:Sem α} {k:Yd→Sem Unit} {T:Ya} {a:Ye→α×Yf×Ya} (h:aI B m t T a):aI B m (t.onRaise k) T a:=
 ⟨fun A n i e f d b Q E nd c g j=>wpAny_onRaise (h.go A n i e f d b Q _ nd c g j)⟩
theorem aI.standAt {p:Pos} {f:Unit→Sem β} {T:Ya} {a:Ye→β×Yf×Ya} (h:aI B m (f ()) T a):aI B m (standAt p >>= f) T a:=
 ⟨fun A n j e g d b Q E nd c i k=>wpAny_bind (wpAny_standAt (h.go A n j e g d b Q E nd c i k))⟩
theorem aL.ofM {c:Code} (t:fW c) {T:Ya} {b:Ye→Fin} {o:Ye→Yf} {N:Ye→Ya} {e:Ye→eZ} (h:aI B m (denote table c) T fun a=>(b a,o a,N a))
  (F:∀a,(match b a with | .done f=>(e a).1 = .ok f | .again j=>j.quiet=true∧(e a).1 = .error j)∧(e a).2=(o a,N a)):aL B (m+1) c T e:=by
 intro A u D w p d q R nd y x E
 refine codeAny_of_tree (h.go (A.under c) (u.under t) D w p d q _ _ nd y x fun n g a le H C G s => ?_)
 obtain ⟨i,k⟩:=F a
 have z:=E n g a le H (by rw [k];exact C) (by rw [k];exact G) (by rw [k];exact s)
 show match b a with | .done f=>R (.ok f) ⟨n,p,d,g,q⟩ | .again j=>j.quiet=true∧codeAny B.M A j R ⟨n,p,d,g,q⟩
 revert i
 cases b a with
 | done f=>intro i;rw [i] at z;exact z
 | again j=>intro i;rw [i.2] at z;exact ⟨i.1,z⟩
theorem aI.letGo {elts:List Expr} {x1:Nat} {pt:Pos} {z a:Addr} {e:Nat} {rest:Yb}:aI B m (letOwnedTupleGo (.Tuple elts x1 pt) (.ref z) (.ref a)) [(z,aW e (rawInt a) rest)] fun _=>((),[aW e .none rest],[]):=by
 refine ⟨fun A w c g o d p Q E nd t C u => ?_⟩
 have j:=(t _ (.head _)).1
 refine wpAny_letGo (s:=⟨c,o,d,g,p⟩) j ?_
 have i:=Heap.SameBut.update (h:=c) (a:=z) (f:=Obj.mapFields (·.setIfInBounds 0 .none))
 have k:(c.update z (Obj.mapFields (·.setIfInBounds 0 .none))).get? z=some (aW e .none rest):=by
  rw [Heap.get?_update_self _ j rfl]
  simp [aW,Obj.mapFields]
 refine u _ g id ?_ (fun b y q n=>(i.2 b fun e=>n (by rw [e];exact .head _)).trans q) (fun x hx => ?_) (fun _ h=>nomatch h) List.nodup_nil
 ·exact Nat.le_of_eq i.1.symm
 ·have:x=(z,aW e .none rest):=by simpa using hx
  rw [this];exact k
theorem aI.cons (O:B.Ok) {s:Stmt} {l:List Stmt} {c:Env} {T:Ya} {o:Ye→Yf} {N:Ye→Ya} {u:Ye→Ye→Flow} {o2 d2:Ye→Ye→Yf} {N2:Ye→Ye→Ya}
  (P:aI B m (PySem.exec s c) T fun a=>(Flow.next,o a,N a)) (lo:∀a,(o a).length=T.length)
  (F:∀a,aI B m (execs l c) ((T.map (·.1)).zip (o a)++N a) fun b=>(u a b,o2 a b++d2 a b,N2 a b))
  (d:∀a b,(o2 a b).length=T.length) (ld:∀a b,(d2 a b).length=(N a).length) :
  aI B m (execs (s::l) c) T fun a=>(u (ev a) (od a),o2 (ev a) (od a),((N (ev a)).map (·.1)).zip (d2 (ev a) (od a))++N2 (ev a) (od a)):=by
 rw [execs_cons]
 exact aI.bind O P lo F d ld
theorem lu (O:B.Ok) {elts:List Expr} {x1:Nat} {pt:Pos} {z:Addr} {d:List Stmt} {i:Env} {e:Nat} {rest:Yb} {T:Ya} {Z0:Obj} {o1:Ye→Yf} {V1:Ye→Obj} {o2:Ye→Ye→Yf} {V2:Ye→Ye→Obj} {o3:Ye→Ye→Ye→Yf} {w:Ye→eZ}
  (Q:fW (.forLoop (.Tuple elts x1 pt) (.ref z) d [] i))
  (P:aI B m (pyNext (.ref z)) ((z,Z0)::T) fun b=>(some (.ref (b 0)),aW e (rawInt (b 0)) rest::o1 b,[(b 0,V1 b)])) (n:∀b,(o1 b).length=T.length)
  (J:∀b,aI B m (assign (.Tuple elts x1 pt) i (.ref (b 0))) ((z,aW e .none rest)::((T.map (·.1)).zip (o1 b)++[(b 0,V1 b)])) fun c=>((),aW e .none rest::(o2 b c++[V2 b c]),[])) (t:∀b c,(o2 b c).length=T.length)
  (K:∀b c,aI B m (execs d i) ((z,aW e .none rest)::(T.map (·.1)).zip (o2 b c)) fun j=>(Flow.next,aW e .none rest::o3 b c j,[])) (l3:∀b c j,(o3 b c j).length=T.length)
  (I:∀b,w b=(.error (.forLoop (.Tuple elts x1 pt) (.ref z) d [] i),aW e .none rest::o3 (ev b) (ev (od b)) (od (od b)),[])) :
  aL B (m+1) (.forLoop (.Tuple elts x1 pt) (.ref z) d [] i) ((z,Z0)::T) w:=by
 have A:∀{l:Yf},l.length=T.length→((T.map (·.1)).zip l).length=T.length:=fun h=>by rw [List.length_zip,List.length_map,h,Nat.min_self]
 have G:∀{l:Yf},l.length=T.length→((T.map (·.1)).zip l).map (·.2)=l:=fun h=>List.map_snd_zip (by rw [List.length_map,h];exact Nat.le_refl _)
 have C:∀{l:Yf},l.length=T.length→((T.map (·.1)).zip l).map (·.1)=T.map (·.1):=fun h=>jj h
 have q:∀b c,aI B m (do
   match ←execs d i with
   | .next | .cont=>again (.forLoop (.Tuple elts x1 pt) (.ref z) d [] i)
   | .brk=>pure (.done .next)
   | .ret v=>pure (.done (.ret v))) ((z,aW e .none rest)::(T.map (·.1)).zip (o2 b c)) fun j=>(Fin.again (.forLoop (.Tuple elts x1 pt) (.ref z) d [] i),aW e .none rest::o3 b c j,[]):=fun b c=>by
  refine (aI.bind O (K b c) (fun j=>by rw [List.length_cons,List.length_cons,l3,A (t _ _)]) (u:=fun _ _=>Fin.again (.forLoop (.Tuple elts x1 pt) (.ref z) d [] i)) (o2:=fun j _=>aW e .none rest::o3 b c j) (d2:=fun _ _=>[]) (N2:=fun _ _=>[]) (fun j => ?_) (fun j _=>by rw [List.length_cons,List.length_cons,l3,A (t _ _)]) fun _ _=>rfl).co fun j=>⟨ev j,rfl,rfl,List.Sublist.refl _⟩
  have h:=aI.pur (B:=B) (m:=m) (Fin.again (.forLoop (.Tuple elts x1 pt) (.ref z) d [] i)) ((((z,aW e .none rest)::(T.map (·.1)).zip (o2 b c)).map (·.1)).zip (aW e .none rest::o3 b c j)++[])
  refine h.co fun D=>⟨D,rfl,?_,List.Sublist.refl _⟩
  show aW e .none rest::o3 b c j++[]=_
  rw [List.append_nil,List.append_nil,List.map_cons,List.zip_cons_cons,List.map_cons,C (t _ _),G (l3 _ _ _)]
 have s:∀b,aI B m (do
   assign (.Tuple elts x1 pt) i (.ref (b 0))
   match ←execs d i with
   | .next | .cont=>again (.forLoop (.Tuple elts x1 pt) (.ref z) d [] i)
   | .brk=>pure (.done .next)
   | .ret v=>pure (.done (.ret v))) ((z,aW e .none rest)::((T.map (·.1)).zip (o1 b)++[(b 0,V1 b)])) fun c=>(Fin.again (.forLoop (.Tuple elts x1 pt) (.ref z) d [] i),aW e .none rest::(o3 b (ev c) (od c)++[V2 b (ev c)]),[]):=fun b=>by
  have F:∀{l:Yf} {V:Obj},l.length=T.length→(aW e .none rest::(l++[V])).length=((z,aW e .none rest)::((T.map (·.1)).zip (o1 b)++[(b 0,V1 b)])).length:=fun h=>by simp [h,n]
  refine (aI.bind O (J b) (fun c=>F (t _ _)) (u:=fun _ _=>Fin.again (.forLoop (.Tuple elts x1 pt) (.ref z) d [] i)) (o2:=fun c j=>aW e .none rest::(o3 b c j++[V2 b c])) (d2:=fun _ _=>[]) (N2:=fun _ _=>[]) (fun c => ?_) (fun c j=>F (l3 _ _ _)) fun _ _=>rfl).co fun c=>⟨c,rfl,rfl,List.Sublist.refl _⟩
  have h:=(q b c).frame (fun j=>by rw [List.length_cons,List.length_cons,l3,A (t _ _)]) [(b 0,V2 b c)]
  have eT:(((z,aW e .none rest)::((T.map (·.1)).zip (o1 b)++[(b 0,V1 b)])).map (·.1)).zip (aW e .none rest::(o2 b c++[V2 b c]))++[]=((z,aW e .none rest)::(T.map (·.1)).zip (o2 b c))++[(b 0,V2 b c)]:=by
   rw [List.append_nil,List.map_cons,List.zip_cons_cons,List.map_append,C (n _),iL (by rw [List.length_map,t])]
   rfl
  rw [eT]
  refine h.co fun j=>⟨j,rfl,?_,List.Sublist.refl _⟩
  show aW e .none rest::(o3 b c j++[V2 b c])++[]=(aW e .none rest::o3 b c j)++[V2 b c]
  rw [List.append_nil];rfl
 have p:∀b,aI B m (do
   letOwnedTupleGo (.Tuple elts x1 pt) (.ref z) (.ref (b 0))
   assign (.Tuple elts x1 pt) i (.ref (b 0))
   match ←execs d i with
   | .next | .cont=>again (.forLoop (.Tuple elts x1 pt) (.ref z) d [] i)
   | .brk=>pure (.done .next)
   | .ret v=>pure (.done (.ret v))) ((((z,Z0)::T).map (·.1)).zip (aW e (rawInt (b 0)) rest::o1 b)++[(b 0,V1 b)]) fun c=>(Fin.again (.forLoop (.Tuple elts x1 pt) (.ref z) d [] i),(aW e .none rest::o3 b (ev c) (od c))++[V2 b (ev c)],[]):=fun b=>by
  have g:=(aI.letGo (B:=B) (m:=m) (elts:=elts) (x1:=x1) (pt:=pt) (z:=z) (a:=b 0) (e:=e) (rest:=rest)).frame (fun _=>rfl) ((T.map (·.1)).zip (o1 b)++[(b 0,V1 b)])
  have L:∀V:Obj,(([aW e .none rest]:Yf)++((T.map (·.1)).zip (o1 b)++[(b 0,V)]).map (·.2))=aW e .none rest::(o1 b++[V]):=fun V=>by rw [List.map_append,G (n _)];rfl
  refine (aI.bind O (v:=fun _=>()) (o:=fun _=>aW e .none rest::(o1 b++[V1 b])) (N:=fun _=>[]) (g.co fun a=>⟨a,rfl,(L _).symm,List.Sublist.refl _⟩) (fun _=>by simp [n]) (u:=fun _ _=>Fin.again (.forLoop (.Tuple elts x1 pt) (.ref z) d [] i)) (o2:=fun _ c=>aW e .none rest::(o3 b (ev c) (od c)++[V2 b (ev c)])) (d2:=fun _ _=>[]) (N2:=fun _ _=>[]) (fun _ => ?_) (fun _ c=>by simp [n,l3]) fun _ _=>rfl).co fun c=>⟨od c,rfl,rfl,List.Sublist.refl _⟩
  have eT:(([(z,aW e (rawInt (b 0)) rest)]++((T.map (·.1)).zip (o1 b)++[(b 0,V1 b)])).map (·.1)).zip (aW e .none rest::(o1 b++[V1 b]))++[]=(z,aW e .none rest)::((T.map (·.1)).zip (o1 b)++[(b 0,V1 b)]):=by
   rw [List.append_nil,List.map_append,List.map_append,C (n _),List.map_cons,List.map_nil,List.singleton_append,List.zip_cons_cons,iL (by rw [List.length_map,n])]
   rfl
  rw [eT]
  refine (s b).co fun j=>⟨j,rfl,?_,List.Sublist.refl _⟩
  show aW e .none rest::(o3 b (ev j) (od j)++[V2 b (ev j)])++[]=_
  rw [List.append_nil]
 have E:∀{l:Yf} {V:Obj},l.length=T.length→(V::l).length=((z,Z0)::T).length:=fun h=>by rw [List.length_cons,List.length_cons,h]
 have all:=aI.bind O (P.onRaise (k:=fun _=>standAt {pt with line:=0})) (fun b=>E (n b)) (f:=fun r=>match r with
  | none=>again (.block [] i)
  | some v=>do
   letOwnedTupleGo (.Tuple elts x1 pt) (.ref z) v
   assign (.Tuple elts x1 pt) i v
   match ←execs d i with
   | .next | .cont=>again (.forLoop (.Tuple elts x1 pt) (.ref z) d [] i)
   | .brk=>pure (.done .next)
   | .ret v=>pure (.done (.ret v))) p (fun b c=>E (l3 _ _ _)) (fun _ _=>rfl)
 have y:aI B m (denote table (.forLoop (.Tuple elts x1 pt) (.ref z) d [] i)) ((z,Z0)::T) fun b=>(Fin.again (.forLoop (.Tuple elts x1 pt) (.ref z) d [] i),aW e .none rest::o3 (ev b) (ev (od b)) (od (od b)),[]):=by
  show aI B m ((forTurn (.Tuple elts x1 pt) (.ref z) d [] i).onRaise (fun x=>do noteFrame x i;theTreesLotGoes x)) _ _
  refine aI.onRaise ?_
  unfold forTurn
  exact aI.standAt (all.co fun b=>⟨b,rfl,rfl,List.nil_sublist _⟩)
 exact aL.ofM Q y fun b=>⟨⟨rfl,by rw [I]⟩,by rw [I]⟩
end
def nm:Expr→Nat
 | .Tuple _ c _=>c
 | _=>0
def nq:Expr→Pos
 | .Tuple _ _ p=>p
 | _=>js
theorem Iv (w:Yc):sQ (de w)=true:=by kernel_rfl
theorem AN (w:Yc):fB (de w)=[dS w 0,dS w 1,dS w 2,dS w 3,dS w 4]:=by kernel_rfl
theorem vP (w:Yc):fT (de w) = .Tuple (nb (fT (de w))) (nm (fT (de w))) (nq (fT (de w))):=by kernel_rfl
theorem Iw (w:Yc):dS w 1 = .If (bN (dS w 1)) (po (dS w 1)) [] (pp (dS w 1)):=by kernel_rfl
theorem Ix (w:Yc):dS w 2 = .If (bN (dS w 2)) (po (dS w 2)) [] (pp (dS w 2)):=by kernel_rfl
theorem Iy (w:Yc):dS w 3 = .If (bN (dS w 3)) (po (dS w 3)) [] (pp (dS w 3)):=by kernel_rfl
theorem IA {B:bf} (O:B.Ok) {E4 y k C o H z t:Expr} {B1 B2 B3:List Stmt} {S4:Stmt} {P1 P2 P3 P4 P5 P6 P7 P8:Pos} {a:Env} (m5:behindInMarks .NotEq k=false) (m6:behindInMarks .NotEq o=false) (m8:behindInMarks .NotEq t=false)
  {T:Ya} {ra:Addr} {rv:Yb} {rn:Nat} {r:Yg} (hT:(ra,ab rv rn)∈T) (hrv:StrsAre rv r)
  (p4:aI B 4 (PySem.isTrue E4 a (eval E4 a)) T fun _=>(false,T.map (·.2),[]))
  {v5:Ye→Yb} {n5:Ye→Nat} (vQ:aI B 4 (eval y a) T fun f=>(.ref (f 0),T.map (·.2),[(f 0,ab (v5 f) (n5 f))])) (e5:∀f,StrsAre (v5 f) r)
  (p5r:aI B 4 (eval k a) T fun _=>(.ref ra,T.map (·.2),[]))
  {x6 y6:Str} {a6 b6 a6' P:Ye→Nat} (p6l:aI B 4 (eval C a) T fun f=>(.ref (f 0),T.map (·.2),[(f 0,az [.str x6 (a6 f),.str y6 (b6 f)] 0)]))
  (vR:aI B 4 (eval o a) T fun f=>(.ref (f 0),T.map (·.2),[(f 0,az [.str x6 (a6' f),.str y6 (P f)] 0)]))
  (p7:aI B 4 (PySem.isTrue H a (eval H a)) T fun _=>(false,T.map (·.2),[]))
  {v8 w8:Ye→Yb} {n8 L:Ye→Nat} {xs:Yg} (vT:aI B 4 (eval z a) T fun f=>(.ref (f 0),T.map (·.2),[(f 0,ab (v8 f) (n8 f))]))
  (vU:aI B 4 (eval t a) T fun f=>(.ref (f 0),T.map (·.2),[(f 0,ab (w8 f) (L f))])) (e8:∀f,StrsAre (v8 f) xs) (R:∀f,StrsAre (w8 f) xs)
  {Y:Ye→Yf} (p9:aI B 4 (exec S4 a) T fun f=>(.next,Y f,[])) (l9:∀f,(Y f).length=T.length) :
  aI B 4 (execs [.If (.BoolOp .Or [E4,.Compare y [.NotEq] [k] P1] P2) B1 [] P3,.If (.BoolOp .Or [.Compare C [.NotEq] [o] P4,H] P5) B2 [] P6,.If (.Compare z [.NotEq] [t] P7) B3 [] P8,S4] a) T fun f=>(.next,Y f,[]):=by
 refine ⟨fun A j g tk gs d os Q E nd hn hB hR => ?_⟩
 have Z:vN B g (T.map (·.1)):=It nd hn
 have N:=Iu hn hB
 have K:A.units<cLine:=by
  have:=j.2.2
  have e:cLine=9900:=rfl
  lia
 have u:∀{J:Heap},g.objs.size≤J.objs.size→∀x,J.objs.size≤x→x∉T.map (·.1):=fun le x hx hm=>Nat.lt_irrefl _ (Nat.lt_of_lt_of_le (Z.lt x hm) (Nat.le_trans le hx))
 have m:(T.map (·.2)).length=T.length:=List.length_map _
 have n:=s9 T
 refine wpAny_execs_cons (wpAny_If (wpAny_isTrue_BoolOp (wpAny_allTrue_Or_cons ?_)))
 refine aI.step O p4 (fun _=>m) j Z N fun J tk1 ax1 I _ _ _ => ?_
 replace I:ii B g T J:=n▸I
 show wpAny _ A (allTrue .Or [.Compare y [.NotEq] [k] P1] a) _ E _
 refine wpAny_allTrue_Or_cons (wpAny_isTrue_Compare1 ?_ m5)
 refine aI.step O vQ (fun _=>m) j Z I fun h2 tk2 ax2 V a2 k2 s2 => ?_
 replace V:ii B g T h2:=n▸V
 have l2:=a2 _ (.head _)
 refine aI.step O p5r (fun _=>m) j Z V fun h3 tk3 ax3 F _ k3 _ => ?_
 replace F:ii B g T h3:=n▸F
 refine vO (s:=⟨h3,gs,d,tk3,os⟩) (xs:=r) K (k3 _ _ l2.1 (u I.size _ l2.2)) (F.own _ hT) (e5 ax2) hrv ?_
 show wpAny _ A (allTrue .Or [] a) _ E _
 refine wpAny_allTrue_Or_nil ?_
 show wpAny _ A (execs [] a) _ E _
 refine wpAny_execs_nil ?_
 refine wpAny_execs_cons (wpAny_If (wpAny_isTrue_BoolOp (wpAny_allTrue_Or_cons (wpAny_isTrue_Compare1 ?_ m6))))
 refine aI.step O p6l (fun _=>m) j Z F fun h4 tk4 ax4 N4 a4 k4 s4 => ?_
 replace N4:ii B g T h4:=n▸N4
 have l4:=a4 _ (.head _)
 refine aI.step O vR (fun _=>m) j Z N4 fun h5 tk5 ax5 N5 a5 k5 _ => ?_
 replace N5:ii B g T h5:=n▸N5
 have l5:=a5 _ (.head _)
 refine Is (s:=⟨h5,gs,d,tk5,os⟩) (xs:=[x6,y6]) K (k5 _ _ l4.1 (u F.size _ l4.2)) l5.1 (.cons _ _ (.cons _ _ .nil)) (.cons _ _ (.cons _ _ .nil)) ?_
 show wpAny _ A (allTrue .Or [H] a) _ E _
 refine wpAny_allTrue_Or_cons ?_
 refine aI.step O p7 (fun _=>m) j Z N5 fun h6 tk6 ax6 G _ _ _ => ?_
 replace G:ii B g T h6:=n▸G
 show wpAny _ A (allTrue .Or [] a) _ E _
 refine wpAny_allTrue_Or_nil ?_
 show wpAny _ A (execs [] a) _ E _
 refine wpAny_execs_nil ?_
 refine wpAny_execs_cons (wpAny_If (wpAny_isTrue_Compare1 ?_ m8))
 refine aI.step O vT (fun _=>m) j Z G fun h7 tk7 ax7 U a7 k7 s7 => ?_
 replace U:ii B g T h7:=n▸U
 have l7:=a7 _ (.head _)
 refine aI.step O vU (fun _=>m) j Z U fun h8 tk8 ax8 S a8 k8 _ => ?_
 replace S:ii B g T h8:=n▸S
 have l8:=a8 _ (.head _)
 refine vO (s:=⟨h8,gs,d,tk8,os⟩) (xs:=xs) K (k8 _ _ l7.1 (u G.size _ l7.2)) l8.1 (e8 _) (R _) ?_
 show wpAny _ A (execs [] a) _ E _
 refine wpAny_execs_nil ?_
 refine wpAny_execs_cons ?_
 refine aI.step O p9 l9 j Z S fun h9 X D N9 _ _ _ => ?_
 show wpAny _ A (execs [] a) _ E _
 refine wpAny_execs_nil (hR h9 X D N9.size (fun b ob q hb=>N9.keep b ob q ?_) N9.own (fun _ h=>nomatch h) List.nodup_nil)
 rw [jj (l9 D)]
 exact hb
section
def c5 (w:Yc):Expr:=cW (c1 (bN (dS w 1))) 1
def c6 (w:Yc):Expr:=cW (c1 (bN (dS w 2))) 0
def c8 (w:Yc):Expr:=bN (dS w 3)
theorem IB (w:Yc):bN (dS w 1) = .BoolOp .Or [cW (c1 (bN (dS w 1))) 0,c5 w] (vh (bN (dS w 1))):=by kernel_rfl
theorem IC (w:Yc):bN (dS w 2) = .BoolOp .Or [c6 w,cW (c1 (bN (dS w 2))) 1] (vh (bN (dS w 2))):=by kernel_rfl
theorem ID (w:Yc):c5 w = .Compare (d1 (c5 w)) [.NotEq] [db (c5 w)] (na (c5 w)):=by kernel_rfl
theorem IE (w:Yc):c6 w = .Compare (d1 (c6 w)) [.NotEq] [db (c6 w)] (na (c6 w)):=by kernel_rfl
theorem IF (w:Yc):c8 w = .Compare (d1 (c8 w)) [.NotEq] [db (c8 w)] (na (c8 w)):=by kernel_rfl
theorem IG (w:Yc):behindInMarks .NotEq (db (c5 w))=false:=by kernel_rfl
theorem IH (w:Yc):behindInMarks .NotEq (db (c6 w))=false:=by kernel_rfl
theorem II (w:Yc):behindInMarks .NotEq (db (c8 w))=false:=by kernel_rfl
section
variable (b c:Bool) (w:Yc) {r:Yg} (hr:b7 r) (i:Nat) (vs ws hv:Yb) (p:af)
abbrev T6 (w:Yc) (r:Yg) (i:Nat) (vs ws hv:Yb) (p:af):Ya:=vM w r i vs ws hv p
abbrev O6 (w:Yc) (r:Yg) (i:Nat) (vs ws hv:Yb) (p:af):Yf:=AM w r i vs ws hv p fun _=>0
include hr
theorem vQ:aI (B0 (W b c w)) 4 (eval (d1 (c5 w)) (bm w p)) (T6 w r i vs ws hv p) fun e=>(.ref (e 0),O6 w r i vs ws hv p,[(e 0,ab (cO ((r.map ao).map b4) (fun i=>e (i+1)) 0) (r.map ao).length)]):=by
 rcases hr with ⟨a,f,rfl⟩ | ⟨a,f,d,g,rfl⟩
 ·exact Id b c w a i vs ws hv p f
 ·exact Ij b c w a d i vs ws hv p f g
theorem vR:aI (B0 (W b c w)) 4 (eval (db (c6 w)) (bm w p)) (T6 w r i vs ws hv p) fun e=>(.ref (e 0),O6 w r i vs ws hv p,[(e 0,az [.str (m4 (r.map ao)) (e 1),.str (m7 (r.map ao)) (e 2)] 0)]):=by
 rcases hr with ⟨a,f,rfl⟩ | ⟨a,f,d,g,rfl⟩
 ·exact Ie b c w a i vs ws hv p f
 ·exact Ik b c w a d i vs ws hv p f g
theorem p7:aI (B0 (W b c w)) 4 (isTrue (cW (c1 (bN (dS w 2))) 1) (bm w p) (eval (cW (c1 (bN (dS w 2))) 1) (bm w p))) (T6 w r i vs ws hv p) fun _=>(false,O6 w r i vs ws hv p,[]):=by
 rcases hr with ⟨a,e,rfl⟩ | ⟨a,e,d,f,rfl⟩
 ·exact Ig b c w a i vs ws hv p e
 ·exact Il b c w a d i vs ws hv p e f
theorem vT:aI (B0 (W b c w)) 4 (eval (d1 (c8 w)) (bm w p)) (T6 w r i vs ws hv p) fun e=>(.ref (e 0),O6 w r i vs ws hv p,[(e 0,ab (cO (cT (r.map ao)) (fun i=>e (i+1)) 0) (cT (r.map ao)).length)]):=by
 rcases hr with ⟨a,f,rfl⟩ | ⟨a,f,d,g,rfl⟩
 ·exact Ih b c w a i vs ws hv p f
 ·exact Im b c w a d i vs ws hv p f g
theorem vU:aI (B0 (W b c w)) 4 (eval (db (c8 w)) (bm w p)) (T6 w r i vs ws hv p) fun f=>(.ref (f 0),O6 w r i vs ws hv p,[(f 0,ab (cp (df r (fun i=>p 11 (i+1)) 0)) (cp (df r (fun i=>p 11 (i+1)) 0)).length)]):=by
 rcases hr with ⟨a,e,rfl⟩ | ⟨a,e,d,g,rfl⟩
 ·exact Ii b c w a i vs ws hv p e
 ·exact Io b c w a d i vs ws hv p e g
omit hr
theorem vV {r:Yg} (hr:b7 r):∀a∈r,a∈b1:=by
 rcases hr with ⟨a,e,rfl⟩ | ⟨a,e,d,hd,rfl⟩
 ·intro x hx
  have:x=a:=(by simpa using hx)
  rw [this];exact e
 ·intro x hx
  have:x=a∨x=d:=(by simpa using hx)
  rcases this with rfl | rfl
  ·exact e
  ·exact hd
theorem IJ {r:Yg} (hr:b7 r):(r.map ao).map b4=r:=by
 rw [List.map_map]
 have:∀a∈r,(b4 ∘ ao) a=id a:=fun a d=>vI a (vV hr a d)
 rw [List.map_congr_left this,List.map_id]
theorem AO (hr:b7 r) (d:hv.length≤90) (e:bk hv) :
  aI (B0 (W b c w)) 4 (execs [dS w 1,dS w 2,dS w 3,dS w 4] (bm w p)) (T6 w r i vs ws hv p) fun a=>(.next,kn w r i vs ws hv p a,[]):=by
 rw [Iw,Ix,Iy,IB,IC,ID,IE]
 rw [show bN (dS w 3)=c8 w from rfl,IF]
 exact IA (bG (W b c w)) (IG w) (IH w) (II w) (T:=T6 w r i vs ws hv p) (ra:=p 11 0) (by show aE r (p 11)∈T6 w r i vs ws hv p;simp [T6,vM]) (lr _ _ _)
  (Ic b c w r i vs ws hv p hr) (vQ b c w hr i vs ws hv p) (fun _=>by rw [IJ hr];exact lr _ _ _) (Ip b c w r i vs ws hv p)
  (Iq b c w r i vs ws hv p hr) (vR b c w hr i vs ws hv p) (p7 b c w hr i vs ws hv p) (xs:=jy r) (vT b c w hr i vs ws hv p) (vU b c w hr i vs ws hv p) (fun _=>by rw [←AE r (vV hr)];exact lr _ _ _) (fun _=>vJ _ _ _)
  (Ir b c w r i vs ws hv p d e).exec (fun _=>rfl)
end
end
section
theorem IK (b c:Bool) (w:Yc) (d:Obj) (u v:Yd) (i:Nat) (a e f:Yb) (g:a.length≤i) (p:af):aC (B0 (W b c w)) 5 (jr (de w) (p 1 0) (p 8 0) [p 9 0,p 13 0]) [(p 1 0,ba (p 2 0) (p 3 0)),(p 2 0,az [.ref (p 4 0),.ref (p 5 0)] 0),(p 3 0,az [u,v] 0),(p 4 0,am (.ref (p 6 0)) i),(p 5 0,am (.ref (p 7 0)) i),(p 6 0,ab a (p 6 1)),(p 7 0,ab e (p 7 1)),(p 8 0,d),(p 9 0,aJ (.ref (p 10 0))),(p 10 0,ab f (p 10 1))] (fun h=>(.next,[ba (p 2 0) (p 3 0),az [.ref (p 4 0),.ref (p 5 0)] 0,az [u,v] 0,am .none i,am (.ref (p 7 0)) i,ab a (p 6 1),ab e (p 7 1),d,aJ (.ref (p 10 0)),ab f (p 10 1)],[])):=
 aA (orcs:=[fJ 3 5 a i]) (aa (iJ (by decide) g) aq) 23 1 [1,0,1,0,94,1,1,2,1,1,1,0,4,2,1,0,11,0] [0,1,2,3,4,5,6,7,8,9] (fun _ _ _ _=>0) (hc:=aS (sO _ _ _ _))
end
structure gK where
 u:Yd
 v:Yd
 hv:Yb
 hn:Nat
 k:Option (Nat×Nat×Nat×Yd×Yd×Yd)
 n:Nat
abbrev iU:=Yg×(Nat→Nat)×(Nat→Nat)
def ta (p:af):List (Str×Nat×Yd):=[("script",p 8 2,.ref (p 8 3)),("rows",p 8 4,.ref (p 6 0)),("written",p 8 6,.ref (p 7 0))]
def kq (p:af):Option (Nat×Nat×Nat×Yd×Yd×Yd)→List (Str×Nat×Yd)
 | none=>ta p
 | some (f,d,t3,e,g,a)=>ta p++([("row",f,e),("parts",d,g),("path",t3,a)]:List (Str×Nat×Yd))
def ik (w:Yc) (p:af) (vs ws:Yb) (i:Nat) (s:gK):Ya:=
 [(p 1 0,ba (p 2 0) (p 3 0)),(p 2 0,az [.ref (p 4 0),.ref (p 5 0)] 0),(p 3 0,az [s.u,s.v] 0),(p 4 0,am (.ref (p 6 0)) i),(p 5 0,am (.ref (p 7 0)) i),(p 6 0,ab vs (p 6 1)),(p 7 0,ab ws (p 7 1)),(p 8 0,aG w (kq p s.k) s.n),(p 9 0,aJ (.ref (p 10 0))),(p 10 0,ab s.hv s.hn)]
def jA (d:iU):Ya:=[aE d.1 d.2.1,aE (d.1.map ao) d.2.2]
def nr (d:iU) (s:gK) (a:Ye):gK:=
 {u:=.ref (d.2.1 0),v:=.ref (d.2.2 0),hv:=iS s.hv (aU (d.1.map ao)) (a 3),hn:=a 4,
  k:=match s.k with
   | none=>some (a 0,a 1,a 2,.ref (d.2.1 0),.ref (d.2.2 0),.str (aU (d.1.map ao)) (a 3))
   | some (f,e,t3,_,_,_)=>some (f,e,t3,.ref (d.2.1 0),.ref (d.2.2 0),.str (aU (d.1.map ao)) (a 3)),
  n:=match s.k with
   | none=>s.n+1+1+1
   | some _=>s.n}
def pD (p:af) (d:iU) (n a f g e t3 h:Nat):af:=fun j i=>match j,i with
 | 11,i=>d.2.1 i
 | 12,i=>d.2.2 i
 | 14,_=>f
 | 8,1=>n
 | 8,8=>g
 | 8,10=>e
 | 8,12=>t3
 | 8,13=>h
 | 10,1=>a
 | j,i=>p j i
section
def im (w:Yc) (p:af):Code:=jr (de w) (p 1 0) (p 8 0) [p 9 0,p 13 0]
def tb (e d:Nat) (a b c:Nat):Nat→Nat:=fun i=>match i with | 0=>a | 1=>b | 2=>c | 3=>e | _=>d
theorem IL (w:Yc):fO (de w)=[]:=by kernel_rfl
section
variable (b c:Bool) (w:Yc) {r:Yg} (hr:b7 r) (i:Nat) (vs ws hv:Yb) (p:af) (g1 g2:Ye)
def tc (p:af):Yb:=[.bool false,.bool false,.ref (p 2 0),.ref (p 3 0)]
theorem IM (hr:b7 r) (j:hv.length≤90) (k:bk hv) (i n e g h f:Nat) :
  aI (B0 (W b c w)) 4 (execs (fB (de w)) (bm w p)) (AI w r i vs ws hv (pD p (r,g1,g2) n e g h f 0 0)) fun a=>(.next,kn w r i vs ws hv (pD p (r,g1,g2) (n+1) e g h f (ev a 1) (ev a 0)) (od a),[]):=by
 rw [AN]
 exact (aI.cons (bG (W b c w)) (H9 b c w r i vs ws hv (pD p (r,g1,g2) n e g h f 0 0) hr).exec (fun _=>rfl) (u:=fun _ _=>Flow.next) (o2:=fun a d=>kn w r i vs ws hv (pD p (r,g1,g2) (n+1) e g h f (a 1) (a 0)) d) (d2:=fun _ _=>[]) (N2:=fun _ _=>[])
  (fun a=>(AO b c w i vs ws hv (pD p (r,g1,g2) (n+1) e g h f (a 1) (a 0)) hr j k).co fun d=>⟨d,rfl,List.append_nil _,List.Sublist.refl _⟩) (fun _ _=>rfl) (fun _ _=>rfl)).co fun a=>⟨a,rfl,rfl,List.nil_sublist _⟩
theorem IN (j:Yd) (hr:b7 r) (k:hv.length≤90) (m:bk hv) (i n e g h f t3:Nat) :
  aI (B0 (W b c w)) 4 (execs (fB (de w)) (bm w p)) (AL w j r i vs ws hv (pD p (r,g1,g2) n e g h f t3 0)) fun a=>(.next,kn w r i vs ws hv (pD p (r,g1,g2) n e g h f t3 (ev a 0)) (od a),[]):=by
 rw [AN]
 exact (aI.cons (bG (W b c w)) (Ib b c w j r i vs ws hv (pD p (r,g1,g2) n e g h f t3 0) hr).exec (fun _=>rfl) (u:=fun _ _=>Flow.next) (o2:=fun a d=>kn w r i vs ws hv (pD p (r,g1,g2) n e g h f t3 (a 0)) d) (d2:=fun _ _=>[]) (N2:=fun _ _=>[])
  (fun a=>(AO b c w i vs ws hv (pD p (r,g1,g2) n e g h f t3 (a 0)) hr k m).co fun d=>⟨d,rfl,List.append_nil _,List.Sublist.refl _⟩) (fun _ _=>rfl) (fun _ _=>rfl)).co fun a=>⟨a,rfl,rfl,List.nil_sublist _⟩
theorem AP:im w p = .forLoop (.Tuple (nb (fT (de w))) (nm (fT (de w))) (nq (fT (de w)))) (.ref (p 1 0)) (fB (de w)) [] (bm w p):=by
 unfold im bm
 rw [vg (Iv w),IL,←vP]
theorem IO (hr:b7 r) (m:hv.length≤90) (q:bk hv) (u v:Yd) (n g:Nat) (k:vs[i]? = some (.ref (g1 0))) (s:ws[i]? = some (.ref (g2 0))) :
  aL (B0 (W b c w)) 5 (im w p) (ik w p vs ws i ⟨u,v,hv,g,none,n⟩++jA (r,g1,g2)) fun d=>(.error (im w p),bH (ik w p vs ws (i+1) (nr (r,g1,g2) ⟨u,v,hv,g,none,n⟩ (tb (ev (od (od d)) 0) (od (od (od d)) 0) (ev (od d) 0) (ev (od d) 1) (ev (od (od d)) 1))))++bH (jA (r,g1,g2)),[]):=by
 rw [AP]
 have j:=fun o=>H8 b c w r (i+1) vs ws hv (pD p (r,g1,g2) n g o 0 0 0 0)
 rw [vP] at j
 exact lu (bG (W b c w)) (e:=0) (rest:=tc p) (Z0:=ba (p 2 0) (p 3 0)) (T:=(ik w p vs ws i ⟨u,v,hv,g,none,n⟩).tail++jA (r,g1,g2))
  (o1:=fun d=>(vL w r (aG w (ta p) n) u v i vs ws hv (pD p (r,g1,g2) n g 0 0 0 0 0) d).tail) (V1:=fun d=>az [.ref (g1 0),.ref (g2 0)] 0)
  (o2:=fun d f=>(AH w r (i+1) vs ws hv (pD p (r,g1,g2) n g (d 0) 0 0 0 0) f).tail.dropLast) (V2:=fun _ _=>az [.ref (g1 0),.ref (g2 0)] 0)
  (o3:=fun d f h=>(kn w r (i+1) vs ws hv (pD p (r,g1,g2) (n+1+1+1) g (d 0) (f 0) (f 1) (ev h 1) (ev h 0)) (od h)).tail)
  (gQ (by intro id a e;cases e)) (AG b c w r (aG w (ta p) n) u v i vs ws hv (pD p (r,g1,g2) n g 0 0 0 0 0) k s) (fun _=>rfl)
  (fun d=>j (d 0)) (fun _ _=>rfl)
  (fun d f=>IM b c w vs ws hv p g1 g2 hr m q (i+1) (n+1+1) g (d 0) (f 0) (f 1)) (fun _ _ _=>rfl) fun d=>rfl
theorem IP (hr:b7 r) (y:hv.length≤90) (z:bk hv) (u v:Yd) (n g h f t3:Nat) (k m j:Yd) (t:vs[i]? = some (.ref (g1 0))) (x:ws[i]? = some (.ref (g2 0))) :
  aL (B0 (W b c w)) 5 (im w p) (ik w p vs ws i ⟨u,v,hv,g,some (h,f,t3,k,m,j),n⟩++jA (r,g1,g2)) fun d=>(.error (im w p),bH (ik w p vs ws (i+1) (nr (r,g1,g2) ⟨u,v,hv,g,some (h,f,t3,k,m,j),n⟩ (tb (ev (od (od d)) 0) (od (od (od d)) 0) 0 0 0)))++bH (jA (r,g1,g2)),[]):=by
 rw [AP]
 have s:=fun A=>Ia b c w k m j r (i+1) vs ws hv (pD p (r,g1,g2) n g A h f t3 0)
 rw [vP] at s
 exact lu (bG (W b c w)) (e:=0) (rest:=tc p) (Z0:=ba (p 2 0) (p 3 0)) (T:=(ik w p vs ws i ⟨u,v,hv,g,some (h,f,t3,k,m,j),n⟩).tail++jA (r,g1,g2))
  (o1:=fun d=>(vL w r (aG w (kq p (some (h,f,t3,k,m,j))) n) u v i vs ws hv (pD p (r,g1,g2) n g 0 0 0 0 0) d).tail) (V1:=fun d=>az [.ref (g1 0),.ref (g2 0)] 0)
  (o2:=fun d o=>(AJ w k m j r (i+1) vs ws hv (pD p (r,g1,g2) n g (d 0) h f t3 0) o).tail.dropLast) (V2:=fun _ _=>az [.ref (g1 0),.ref (g2 0)] 0)
  (o3:=fun d o q=>(kn w r (i+1) vs ws hv (pD p (r,g1,g2) n g (d 0) h f t3 (ev q 0)) (od q)).tail)
  (gQ (by intro id a e;cases e)) (AG b c w r (aG w (kq p (some (h,f,t3,k,m,j))) n) u v i vs ws hv (pD p (r,g1,g2) n g 0 0 0 0 0) t x) (fun _=>rfl)
  (fun d=>s (d 0)) (fun _ _=>rfl)
  (fun d o=>IN b c w vs ws hv p g1 g2 j hr y z (i+1) n g (d 0) h f t3) (fun _ _ _=>rfl) fun d=>rfl
def nt:Option (Nat×Nat×Nat×Yd×Yd×Yd)→Ye→Nat→Nat
 | none,a=>tb (ev (od (od a)) 0) (od (od (od a)) 0) (ev (od a) 0) (ev (od a) 1) (ev (od (od a)) 1)
 | some _,a=>tb (ev (od (od a)) 0) (od (od (od a)) 0) 0 0 0
end
theorem IQ (b c:Bool) (w:Yc) (p:af) {d:iU} {s:gK} {i:Nat} {vs ws:Yb} (hr:b7 d.1) (f:s.hv.length≤90) (g:bk s.hv) (a:vs[i]? = some (.ref (d.2.1 0))) (e:ws[i]? = some (.ref (d.2.2 0))) :
  aL (B0 (W b c w)) 5 (im w p) (ik w p vs ws i s++jA d) fun t=>(.error (im w p),bH (ik w p vs ws (i+1) (nr d s (nt s.k t)))++bH (jA d),[]):=by
 obtain ⟨u,v,hv,h,k,n⟩:=s
 obtain ⟨r,g1,g2⟩:=d
 cases k with
 | none=>exact IO b c w i vs ws hv p g1 g2 hr f g u v n h a e
 | some k=>
  obtain ⟨x,o,t3,j,q,m⟩:=k
  exact IP b c w i vs ws hv p g1 g2 hr f g u v n h x o t3 j q m a e
def AQ (w:Yc) (p:af) (vs ws:Yb) (s:gK):Yf:=[ba (p 2 0) (p 3 0),az [.ref (p 4 0),.ref (p 5 0)] 0,az [s.u,s.v] 0,am .none vs.length,am (.ref (p 7 0)) vs.length,ab vs (p 6 1),ab ws (p 7 1),aG w (kq p s.k) s.n,aJ (.ref (p 10 0)),ab s.hv s.hn]
theorem IR (b c:Bool) (w:Yc) (p:af) (s:gK) (vs ws:Yb):aL (B0 (W b c w)) 5 (im w p) (ik w p vs ws vs.length s) fun _=>(.ok .next,AQ w p vs ws s,[]):=
 IK b c w (aG w (kq p s.k) s.n) s.u s.v vs.length vs ws s.hv (Nat.le_refl _) fun j i=>match j,i with | 10,1=>s.hn | j,i=>p j i
end
section
variable {B:bf} {m:Nat}
def vW (j:Nat) (a:Yb) (v:Yd):aH:=iK "list.append" j a (fun _=>[v]) (fun _ _=>.none) fun _=>a++[v]
theorem AR {j:Nat} {a:Yb} {v:Yd} (e:a.length≤1000) (c:∃y t,v = .str y t):(vW j a v).Sure B m:=by
 obtain ⟨y,t,rfl⟩:=c
 refine lf fun p A s Q E b h => ?_
 have f:IsL s.heap (p 1 0) a.toArray (p 1 1):=b
 refine call_meets F.slot_list_append ⟨_,b,rfl⟩ F.entry_list_append (F.args_list_append_2 _ _) (list_append (p 1 0) a.toArray (p 1 1) (.str y t) (by rw [List.size_toArray];exact Nat.le_trans e (by decide))) ⟨b,?_⟩
 have d:Heap.SameBut (p 1 0) s.heap (s.heap.update (p 1 0) (Obj.mapSeq fun x=>x.push (.str y t))):=Heap.SameBut.update ..
 refine h _ (fun _=>p 1 1+1) s.toks d ?_
 refine (Heap.get?_update_self _ b rfl).trans ?_
 show some (Obj.mapSeq _ (ab a (p 1 1)))=some (ab (a++[.str y t]) (p 1 1+1))
 unfold Obj.mapSeq ab
 simp
end
def vX (L:Yb) (x:Str) (b:Nat) (j:Nat):aH:=bA (fun p=>.call (.ref 114) ⟨[.ref (p 1 0)],[]⟩) [j] (fun p=>[(p 1 0,ab L (p 1 1))]) (fun p a=>(.ret (.str x b),[ab (dB L) (a 0)],[]))
theorem AS {b c:Bool} {w:Yc} {m:Nat} {L:Yb} {x:Str} {a j:Nat} (e:0<L.length) (g:L.length≤90) (f:bk L) (hx:dO L = .str x a) (d:4≤m):(vX L x a j).Sure (B0 (W b c w)) m:=by
 have:=HF (b:=b) (c:=c) (w:=w) (j:=j) e g f d
 unfold Ar at this
 rw [hx] at this
 exact this
theorem IS {L:Yb} (a:0<L.length) (b:bk L):∃y t,dO L = .str y t:=by
 match L,a with
 | v::r,_=>exact b v (.head _)
section
theorem IT (b c:Bool) (w:Yc) (r:Yg) (i:Nat) (a d:Yb) (p:af) (h:a[i]? = some (.ref (p 5 0))) (k:d.length≤1000) (g:cB r):aL (B0 (W b c w)) 4 (bI (g4 w) (p 1 0) (p 3 0) (p 4 0) (p 6 0) []) [(p 1 0,am (.ref (p 2 0)) i),(p 2 0,ab a (p 2 1)),(p 3 0,ab d (p 3 1)),(p 4 0,aw w [] (0)),aE r (p 5)] (fun e=>(.error (bI (g4 w) (p 1 0) (p 3 0) (p 4 0) (p 6 0) []),[am (.ref (p 2 0)) (i+1),ab a (p 2 1),ab (d++[.str (aU r) (e 2)]) (e 0),aw w [("parts",e 1,.ref (p 5 0))] (1),(aE r (p 5)).2],[])):=
 aA (orcs:=[cA 0 1 a i (.ref (p 5 0)),pn r (p 5) 4,f2 2 d (aU r)]) (aa (cP (by decide) h) (aa (sM g (by decide)) (aa (gz k) aq))) 22 3 [1,2,4,3,0,4,0,3,4,1] [0,1,2,3,4] (fun n m f i=>match i with | 0=>(f 2).2.2 1 | 1=>(f 0).2.1+0 | j+2=>(f 1).2.2 j) (hc:=aS (dK _ _ _ _ _ _))
theorem IU (b c:Bool) (w:Yc) (k:Yd) (r:Yg) (i:Nat) (a d:Yb) (p:af) (h:a[i]? = some (.ref (p 5 0))) (m:d.length≤1000) (g:cB r):aL (B0 (W b c w)) 4 (bI (g4 w) (p 1 0) (p 3 0) (p 4 0) (p 6 0) []) [(p 1 0,am (.ref (p 2 0)) i),(p 2 0,ab a (p 2 1)),(p 3 0,ab d (p 3 1)),(p 4 0,aw w [("parts",p 4 2,k)] (p 4 1)),aE r (p 5)] (fun e=>(.error (bI (g4 w) (p 1 0) (p 3 0) (p 4 0) (p 6 0) []),[am (.ref (p 2 0)) (i+1),ab a (p 2 1),ab (d++[.str (aU r) (e 2)]) (e 0),aw w [("parts",p 4 2,.ref (p 5 0))] (p 4 1),(aE r (p 5)).2],[])):=
 aA (orcs:=[cA 0 1 a i (.ref (p 5 0)),pn r (p 5) 4,f2 2 d (aU r)]) (aa (cP (by decide) h) (aa (sM g (by decide)) (aa (gz m) aq))) 22 3 [1,2,4,3,0,4,0,3,4,1] [0,1,2,3,4] (fun n o f i=>match i with | 0=>(f 2).2.2 1 | 1=>(f 0).2.1+0 | j+2=>(f 1).2.2 j) (hc:=aS (dK _ _ _ _ _ _))
theorem IV (b c:Bool) (w:Yc) (e:Yd) (i:Nat) (a d:Yb) (f:a.length≤i) (p:af):aC (B0 (W b c w)) 4 (bI (g4 w) (p 1 0) (p 3 0) (p 4 0) (p 6 0) []) [(p 1 0,am (.ref (p 2 0)) i),(p 2 0,ab a (p 2 1)),(p 3 0,ab d (p 3 1)),(p 4 0,aw w [("parts",p 4 2,e)] (p 4 1))] (fun g=>(.next,[am .none i,ab a (p 2 1),ab d (p 3 1),aw w [("parts",p 4 2,e)] (p 4 1)],[])):=
 aA (orcs:=[fJ 0 1 a i]) (aa (iJ (by decide) f) aq) 7 1 [1,2,5] [0,1,2,3] (fun _ _ _ _=>0) (hc:=aS (dK _ _ _ _ _ _))
theorem IW (b:Bool) (w:Yc) (a c:Yb) (p:af):aL (B0 (W b false w)) 4 (bj (g4 w) (p 1 0) (p 3 0) (p 4 0) (p 6 0) []) [(p 1 0,am (.ref (p 2 0)) 0),(p 2 0,ab a (p 2 1)),(p 3 0,ab c (p 3 1)),(p 4 0,aw w [] (0))] (fun d=>(.error (bI (g4 w) (p 1 0) (p 3 0) (p 4 0) (p 6 0) []),[am (.ref (p 2 0)) 0,ab a (p 2 1),ab c (p 3 1),aw w [] (0)],[])):=
 aA (orcs:=[]) aq 14 0 [1,1,0,1,0,43,1,1] [0,1,2,3] (fun _ _ _ _=>0) (hc:=aS (bv _ _ _ _ _ _))
theorem IX (b:Bool) (w:Yc) (a c:Yb) (p:af):aL (B0 (W b true w)) 4 (bj (g4 w) (p 1 0) (p 3 0) (p 4 0) (p 6 0) []) [(p 1 0,am (.ref (p 2 0)) 0),(p 2 0,ab a (p 2 1)),(p 3 0,ab c (p 3 1)),(p 4 0,aw w [] (0))] (fun d=>(.error (bI (g4 w) (p 1 0) (p 3 0) (p 4 0) (p 6 0) []),[am (.ref (p 2 0)) 0,ab a (p 2 1),ab c (p 3 1),aw w [] (0)],[])):=
 aA (orcs:=[]) aq 4 0 [1] [0,1,2,3] (fun _ _ _ _=>0) (hc:=aS (bv _ _ _ _ _ _))
theorem IY (b c:Bool) (w:Yc) (x:Str) (e:Nat) (L:Yb) (i:Nat) (a d:Yb) (p:af) (h:a[i]? = some (.ref (p 5 0))) (q:d.length≤1000) (o:0<L.length) (k:L.length≤90) (m:bk L) (hx:dO L = .str x e):aL (B0 (W b c w)) 5 (bI (gJ w) (p 1 0) (p 3 0) (p 4 0) (p 6 0) [p 7 0]) [(p 1 0,am (.ref (p 2 0)) i),(p 2 0,ab a (p 2 1)),(p 3 0,ab d (p 3 1)),(p 4 0,aw w [] (0)),(p 7 0,aJ (.ref (p 8 0))),(p 8 0,ab L (p 8 1))] (fun g=>(.error (bI (gJ w) (p 1 0) (p 3 0) (p 4 0) (p 6 0) [p 7 0]),[am (.ref (p 2 0)) (i+1),ab a (p 2 1),ab (d++[.str x e]) (g 0),aw w [("row",g 1,.ref (p 5 0))] (1),aJ (.ref (p 8 0)),ab (dB L) (g 2)],[])):=
 aA (orcs:=[cA 0 1 a i (.ref (p 5 0)),vX L x e 5,vW 2 d (.str x e)]) (aa (cP (by decide) h) (aa (AS o k m hx (by decide)) (aa (AR q ⟨_,_,rfl⟩) aq))) 22 3 [1,2,4,3,0,5,0,3,4,1] [0,1,2,3,4,5] (fun n s f i=>match i with | 0=>(f 2).2.2 1 | 1=>(f 0).2.1+0 | j+2=>(f 1).2.2 j) (hc:=aS (dK _ _ _ _ _ _))
theorem IZ (b c:Bool) (w:Yc) (o:Yd) (x:Str) (e:Nat) (L:Yb) (i:Nat) (a d:Yb) (p:af) (h:a[i]? = some (.ref (p 5 0))) (s:d.length≤1000) (q:0<L.length) (k:L.length≤90) (m:bk L) (hx:dO L = .str x e):aL (B0 (W b c w)) 5 (bI (gJ w) (p 1 0) (p 3 0) (p 4 0) (p 6 0) [p 7 0]) [(p 1 0,am (.ref (p 2 0)) i),(p 2 0,ab a (p 2 1)),(p 3 0,ab d (p 3 1)),(p 4 0,aw w [("row",p 4 2,o)] (p 4 1)),(p 7 0,aJ (.ref (p 8 0))),(p 8 0,ab L (p 8 1))] (fun g=>(.error (bI (gJ w) (p 1 0) (p 3 0) (p 4 0) (p 6 0) [p 7 0]),[am (.ref (p 2 0)) (i+1),ab a (p 2 1),ab (d++[.str x e]) (g 0),aw w [("row",p 4 2,.ref (p 5 0))] (p 4 1),aJ (.ref (p 8 0)),ab (dB L) (g 2)],[])):=
 aA (orcs:=[cA 0 1 a i (.ref (p 5 0)),vX L x e 5,vW 2 d (.str x e)]) (aa (cP (by decide) h) (aa (AS q k m hx (by decide)) (aa (AR s ⟨_,_,rfl⟩) aq))) 22 3 [1,2,4,3,0,5,0,3,4,1] [0,1,2,3,4,5] (fun n t f i=>match i with | 0=>(f 2).2.2 1 | 1=>(f 0).2.1+0 | j+2=>(f 1).2.2 j) (hc:=aS (dK _ _ _ _ _ _))
theorem I0 (b c:Bool) (w:Yc) (e:Yd) (i:Nat) (a d:Yb) (f:a.length≤i) (p:af):aC (B0 (W b c w)) 5 (bI (gJ w) (p 1 0) (p 3 0) (p 4 0) (p 6 0) [p 7 0]) [(p 1 0,am (.ref (p 2 0)) i),(p 2 0,ab a (p 2 1)),(p 3 0,ab d (p 3 1)),(p 4 0,aw w [("row",p 4 2,e)] (p 4 1))] (fun g=>(.next,[am .none i,ab a (p 2 1),ab d (p 3 1),aw w [("row",p 4 2,e)] (p 4 1)],[])):=
 aA (orcs:=[fJ 0 1 a i]) (aa (iJ (by decide) f) aq) 7 1 [1,2,5] [0,1,2,3] (fun _ _ _ _=>0) (hc:=aS (dK _ _ _ _ _ _))
theorem I1 (b:Bool) (w:Yc) (a c:Yb) (p:af):aL (B0 (W b false w)) 5 (bj (gJ w) (p 1 0) (p 3 0) (p 4 0) (p 6 0) [p 7 0]) [(p 1 0,am (.ref (p 2 0)) 0),(p 2 0,ab a (p 2 1)),(p 3 0,ab c (p 3 1)),(p 4 0,aw w [] (0))] (fun d=>(.error (bI (gJ w) (p 1 0) (p 3 0) (p 4 0) (p 6 0) [p 7 0]),[am (.ref (p 2 0)) 0,ab a (p 2 1),ab c (p 3 1),aw w [] (0)],[])):=
 aA (orcs:=[]) aq 14 0 [1,1,0,1,0,43,1,1] [0,1,2,3] (fun _ _ _ _=>0) (hc:=aS (bv _ _ _ _ _ _))
theorem I2 (b:Bool) (w:Yc) (a c:Yb) (p:af):aL (B0 (W b true w)) 5 (bj (gJ w) (p 1 0) (p 3 0) (p 4 0) (p 6 0) [p 7 0]) [(p 1 0,am (.ref (p 2 0)) 0),(p 2 0,ab a (p 2 1)),(p 3 0,ab c (p 3 1)),(p 4 0,aw w [] (0))] (fun d=>(.error (bI (gJ w) (p 1 0) (p 3 0) (p 4 0) (p 6 0) [p 7 0]),[am (.ref (p 2 0)) 0,ab a (p 2 1),ab c (p 3 1),aw w [] (0)],[])):=
 aA (orcs:=[]) aq 4 0 [1] [0,1,2,3] (fun _ _ _ _=>0) (hc:=aS (bv _ _ _ _ _ _))
end
def dc:Obj:={cls:=.type "cell",data:=.cell none}
def sS (w:Yc) (i:Nat):Stmt:=gG (iP (ig w)) i
def aZ (w:Yc) (g:Ye):Obj:=
 {cls:=.type "dict",data:=.dict ((([("a",g 0,.str "a" (g 1)),("/",g 2,.str "=2F" (g 3)),(".",g 4,.str "=2E" (g 5)),("=",g 6,.str "=3D" (g 7)),(" ",g 8,.str "=20" (g 9)),("é",g 10,.str "=E9" (g 11))]:List (Str×Nat×Yd)).map fun e=>⟨reduceHash (w.params.strHash e.1.cps),.str e.1 e.2.1,e.2.2⟩).toArray) 6}
def AT:Yh→Bool
 | []=>true
 | c::l=>match Nat.blt c 128 with
  | true=>AT l
  | false=>false
def ec (x:Str):String:=match AT x.cps.toList with
 | true=>"str_ascii_iterator"
 | false=>"str_iterator"
def bJ (x:Str) (v:Yd) (i:Nat):Obj:={cls:=.type (ec x),data:=.fields #[v,.int (i:Int) 0]}
def cg (g:Ye) (c:Nat):Yd:=
 if c==97 then .str "a" (g 1) else if c==47 then .str "=2F" (g 3) else if c==46 then .str "=2E" (g 5) else if c==61 then .str "=3D" (g 7) else if c==32 then .str "=20" (g 9) else .str "=E9" (g 11)
def AU (g:Ye):Yh→Yb
 | []=>[]
 | c::l=>cg g c::AU g l
def dg (x:Str) (g:Ye):Yb:=AU g x.cps.toList
def AV:Yh→Nat
 | []=>0
 | c::l=>match l with
  | []=>c
  | d::r=>AV (d::r)
def cY (x:Str):Str:=⟨#[AV x.cps.toList]⟩
def ca (w:Yc) (j:Nat) (x:Str) (v:Ye→Yd):aH:=
 {code:=fun p=>.call (.builtin "dict.__getitem__") ⟨[.ref (p 1 0),.str x (p 0 1)],[]⟩,pl:=[j],objs:=fun p=>[(p 1 0,aZ w fun i=>p 1 (i+2))],strm:=true,out:=fun p a=>(.ret (v fun i=>p 1 (i+2)),[aZ w fun i=>p 1 (i+2)],[])}
def pA (w:Yc) (g:Ye):Array DictEntry:=((([("a",g 0,.str "a" (g 1)),("/",g 2,.str "=2F" (g 3)),(".",g 4,.str "=2E" (g 5)),("=",g 6,.str "=3D" (g 7)),(" ",g 8,.str "=20" (g 9)),("é",g 10,.str "=E9" (g 11))]:List (Str×Nat×Yd)).map fun e=>⟨reduceHash (w.params.strHash e.1.cps),.str e.1 e.2.1,e.2.2⟩).toArray)
theorem I3 (a:Program) (b c:Bool) (w:Yc) (g:Ye):KeysOf (strKind a (W b c w)) (pA w g):=by
 intro e d
 have:e∈(pA w g).toList:=Array.mem_toList_iff.mpr d
 unfold pA at this
 simp only [List.map_cons,List.map_nil,List.mem_cons,List.not_mem_nil,or_false] at this
 rcases this with rfl | rfl | rfl | rfl | rfl | rfl
 ·exact ⟨"a",by kernel_rfl,by kernel_rfl⟩
 ·exact ⟨"/",by kernel_rfl,by kernel_rfl⟩
 ·exact ⟨".",by kernel_rfl,by kernel_rfl⟩
 ·exact ⟨"=",by kernel_rfl,by kernel_rfl⟩
 ·exact ⟨" ",by kernel_rfl,by kernel_rfl⟩
 ·exact ⟨"é",by kernel_rfl,by kernel_rfl⟩
theorem cj {b c:Bool} {w:Yc} {m j:Nat} {x:Str} {v:Ye→Yd} (hx:∀g,findBy Value.isStrOf (pA w g) x=some (v g)):(ca w j x v).Sure (B0 (W b c w)) m:=by
 refine ⟨by simp [ca],fun p A t h n z d B g l k Q E nd o u q=>d7 ?_⟩
 have f:h.get? (p 1 0)=some (aZ w fun i=>p 1 (i+2)):=(o _ (.head _)).1
 have s:(strKind (B0 (W b c w)).prog (W b c w)).is x (.str x (p 0 1))=true:=by show (x==x)=true;exact beq_self_eq_true _
 refine call_meetsIn (T:="dict") F.slot_dict_getitem ⟨_,f,rfl⟩ F.entry_dict_getitem (F.args_dict_getitem_2 _ _) (meets_dict_getitem (PySem.strKind (B0 (W b c w)).prog (W b c w)) (p 1 0) s) ⟨_,_,⟨_,pA w fun i=>p 1 (i+2),_,f,⟨rfl,rfl,rfl⟩,rfl,I3 _ b c w _,fun _=>rfl⟩,hx _,?_⟩
 exact q h (n+1) id (fun e=>by cases e) (Nat.le_refl _) (fun _ _ e _=>e) (fun y a=>by
  have:y=(p 1 0,aZ w fun i=>p 1 (i+2)):=by simpa [ca] using a
  rw [this];exact f) (fun _ a=>nomatch a) List.nodup_nil
section
theorem I4 (b:Bool) (w:Yc) (p:af):aC (B0 (W b false w)) 2 (bj (c2 w) (p 1 0) (p 3 0) (p 4 0) (p 6 0) [p 13 0]) [(p 1 0,bJ "a" (.str "a" (p 1 1)) 0),(p 3 0,ab [] 0),(p 4 0,aw w [] (0)),(p 13 0,aJ (.ref (p 15 0))),(p 15 0,aZ w fun i=>p 15 (i+1))] (fun a=>(.next,[bJ "a" .none 1,ab (dg "a" fun i=>p 15 (i+1)) 1,aw w [("sign",a 0,.str (cY "a") (a 1))] (1),aJ (.ref (p 15 0)),aZ w fun i=>p 15 (i+1)],[])):=
 aA (orcs:=[ca w 4 "a" fun g=>cg g 97]) (aa (cj fun g=>by kernel_rfl) aq) 66 1 [1,1,0,1,0,86,1,0,1,0,1,0,87,1,1,1,0,3,2,4,3,5,5,5,2,0,2,0,26,2,1,2,0,1,0,1,0,87,1,1,1,0,7] [0,1,2,3,4] (fun n c f=>aB [c+1,c+0]) (hc:=aS (bv _ _ _ _ _ _))
theorem I5 (b:Bool) (w:Yc) (p:af):aC (B0 (W b false w)) 2 (bj (c2 w) (p 1 0) (p 3 0) (p 4 0) (p 6 0) [p 13 0]) [(p 1 0,bJ "/" (.str "/" (p 1 1)) 0),(p 3 0,ab [] 0),(p 4 0,aw w [] (0)),(p 13 0,aJ (.ref (p 15 0))),(p 15 0,aZ w fun i=>p 15 (i+1))] (fun a=>(.next,[bJ "/" .none 1,ab (dg "/" fun i=>p 15 (i+1)) 1,aw w [("sign",a 0,.str (cY "/") (a 1))] (1),aJ (.ref (p 15 0)),aZ w fun i=>p 15 (i+1)],[])):=
 aA (orcs:=[ca w 4 "/" fun g=>cg g 47]) (aa (cj fun g=>by kernel_rfl) aq) 66 1 [1,1,0,1,0,86,1,0,1,0,1,0,87,1,1,1,0,3,2,4,3,5,5,5,2,0,2,0,26,2,1,2,0,1,0,1,0,87,1,1,1,0,7] [0,1,2,3,4] (fun n c f=>aB [c+1,c+0]) (hc:=aS (bv _ _ _ _ _ _))
theorem I6 (b:Bool) (w:Yc) (p:af):aC (B0 (W b false w)) 2 (bj (c2 w) (p 1 0) (p 3 0) (p 4 0) (p 6 0) [p 13 0]) [(p 1 0,bJ "." (.str "." (p 1 1)) 0),(p 3 0,ab [] 0),(p 4 0,aw w [] (0)),(p 13 0,aJ (.ref (p 15 0))),(p 15 0,aZ w fun i=>p 15 (i+1))] (fun a=>(.next,[bJ "." .none 1,ab (dg "." fun i=>p 15 (i+1)) 1,aw w [("sign",a 0,.str (cY ".") (a 1))] (1),aJ (.ref (p 15 0)),aZ w fun i=>p 15 (i+1)],[])):=
 aA (orcs:=[ca w 4 "." fun g=>cg g 46]) (aa (cj fun g=>by kernel_rfl) aq) 66 1 [1,1,0,1,0,86,1,0,1,0,1,0,87,1,1,1,0,3,2,4,3,5,5,5,2,0,2,0,26,2,1,2,0,1,0,1,0,87,1,1,1,0,7] [0,1,2,3,4] (fun n c f=>aB [c+1,c+0]) (hc:=aS (bv _ _ _ _ _ _))
theorem I7 (b:Bool) (w:Yc) (p:af):aC (B0 (W b false w)) 2 (bj (c2 w) (p 1 0) (p 3 0) (p 4 0) (p 6 0) [p 13 0]) [(p 1 0,bJ "=" (.str "=" (p 1 1)) 0),(p 3 0,ab [] 0),(p 4 0,aw w [] (0)),(p 13 0,aJ (.ref (p 15 0))),(p 15 0,aZ w fun i=>p 15 (i+1))] (fun a=>(.next,[bJ "=" .none 1,ab (dg "=" fun i=>p 15 (i+1)) 1,aw w [("sign",a 0,.str (cY "=") (a 1))] (1),aJ (.ref (p 15 0)),aZ w fun i=>p 15 (i+1)],[])):=
 aA (orcs:=[ca w 4 "=" fun g=>cg g 61]) (aa (cj fun g=>by kernel_rfl) aq) 66 1 [1,1,0,1,0,86,1,0,1,0,1,0,87,1,1,1,0,3,2,4,3,5,5,5,2,0,2,0,26,2,1,2,0,1,0,1,0,87,1,1,1,0,7] [0,1,2,3,4] (fun n c f=>aB [c+1,c+0]) (hc:=aS (bv _ _ _ _ _ _))
theorem I8 (b:Bool) (w:Yc) (p:af):aC (B0 (W b false w)) 2 (bj (c2 w) (p 1 0) (p 3 0) (p 4 0) (p 6 0) [p 13 0]) [(p 1 0,bJ " " (.str " " (p 1 1)) 0),(p 3 0,ab [] 0),(p 4 0,aw w [] (0)),(p 13 0,aJ (.ref (p 15 0))),(p 15 0,aZ w fun i=>p 15 (i+1))] (fun a=>(.next,[bJ " " .none 1,ab (dg " " fun i=>p 15 (i+1)) 1,aw w [("sign",a 0,.str (cY " ") (a 1))] (1),aJ (.ref (p 15 0)),aZ w fun i=>p 15 (i+1)],[])):=
 aA (orcs:=[ca w 4 " " fun g=>cg g 32]) (aa (cj fun g=>by kernel_rfl) aq) 66 1 [1,1,0,1,0,86,1,0,1,0,1,0,87,1,1,1,0,3,2,4,3,5,5,5,2,0,2,0,26,2,1,2,0,1,0,1,0,87,1,1,1,0,7] [0,1,2,3,4] (fun n c f=>aB [c+1,c+0]) (hc:=aS (bv _ _ _ _ _ _))
theorem I9 (b:Bool) (w:Yc) (p:af):aC (B0 (W b false w)) 2 (bj (c2 w) (p 1 0) (p 3 0) (p 4 0) (p 6 0) [p 13 0]) [(p 1 0,bJ "é" (.str "é" (p 1 1)) 0),(p 3 0,ab [] 0),(p 4 0,aw w [] (0)),(p 13 0,aJ (.ref (p 15 0))),(p 15 0,aZ w fun i=>p 15 (i+1))] (fun a=>(.next,[bJ "é" .none 1,ab (dg "é" fun i=>p 15 (i+1)) 1,aw w [("sign",a 0,.str (cY "é") (a 1))] (1),aJ (.ref (p 15 0)),aZ w fun i=>p 15 (i+1)],[])):=
 aA (orcs:=[ca w 4 "é" fun g=>cg g 233]) (aa (cj fun g=>by kernel_rfl) aq) 66 1 [1,1,0,1,0,75,1,0,1,0,1,0,76,1,1,1,0,3,2,4,3,5,5,5,2,0,2,0,26,2,1,2,0,1,0,1,0,76,1,1,1,0,7] [0,1,2,3,4] (fun n c f=>aB [c+1,c+0]) (hc:=aS (bv _ _ _ _ _ _))
theorem Ja (b:Bool) (w:Yc) (p:af):aC (B0 (W b false w)) 2 (bj (c2 w) (p 1 0) (p 3 0) (p 4 0) (p 6 0) [p 13 0]) [(p 1 0,bJ "a/" (.str "a/" (p 1 1)) 0),(p 3 0,ab [] 0),(p 4 0,aw w [] (0)),(p 13 0,aJ (.ref (p 15 0))),(p 15 0,aZ w fun i=>p 15 (i+1))] (fun a=>(.next,[bJ "a/" .none 2,ab (dg "a/" fun i=>p 15 (i+1)) 2,aw w [("sign",a 0,.str (cY "a/") (a 1))] (1),aJ (.ref (p 15 0)),aZ w fun i=>p 15 (i+1)],[])):=
 aA (orcs:=[ca w 4 "a" fun g=>cg g 97,ca w 4 "/" fun g=>cg g 47]) (aa (cj fun g=>by kernel_rfl) (aa (cj fun g=>by kernel_rfl) aq)) 101 2 [1,1,0,1,0,86,1,0,1,0,1,0,87,1,1,1,0,3,2,4,3,5,5,5,2,0,2,0,26,2,1,2,0,1,0,1,0,87,1,1,1,0,3,2,4,3,5,5,5,3,0,2,0,26,2,1,2,0,1,0,1,0,87,1,1,1,0,7] [0,1,2,3,4] (fun n c f=>aB [c+1,(f 0).2.1+0]) (hc:=aS (bv _ _ _ _ _ _))
theorem Jb (b:Bool) (w:Yc) (p:af):aC (B0 (W b false w)) 2 (bj (c2 w) (p 1 0) (p 3 0) (p 4 0) (p 6 0) [p 13 0]) [(p 1 0,bJ "/." (.str "/." (p 1 1)) 0),(p 3 0,ab [] 0),(p 4 0,aw w [] (0)),(p 13 0,aJ (.ref (p 15 0))),(p 15 0,aZ w fun i=>p 15 (i+1))] (fun a=>(.next,[bJ "/." .none 2,ab (dg "/." fun i=>p 15 (i+1)) 2,aw w [("sign",a 0,.str (cY "/.") (a 1))] (1),aJ (.ref (p 15 0)),aZ w fun i=>p 15 (i+1)],[])):=
 aA (orcs:=[ca w 4 "/" fun g=>cg g 47,ca w 4 "." fun g=>cg g 46]) (aa (cj fun g=>by kernel_rfl) (aa (cj fun g=>by kernel_rfl) aq)) 101 2 [1,1,0,1,0,86,1,0,1,0,1,0,87,1,1,1,0,3,2,4,3,5,5,5,2,0,2,0,26,2,1,2,0,1,0,1,0,87,1,1,1,0,3,2,4,3,5,5,5,3,0,2,0,26,2,1,2,0,1,0,1,0,87,1,1,1,0,7] [0,1,2,3,4] (fun n c f=>aB [c+1,(f 0).2.1+0]) (hc:=aS (bv _ _ _ _ _ _))
theorem Jc (b:Bool) (w:Yc) (p:af):aC (B0 (W b false w)) 2 (bj (c2 w) (p 1 0) (p 3 0) (p 4 0) (p 6 0) [p 13 0]) [(p 1 0,bJ ".=" (.str ".=" (p 1 1)) 0),(p 3 0,ab [] 0),(p 4 0,aw w [] (0)),(p 13 0,aJ (.ref (p 15 0))),(p 15 0,aZ w fun i=>p 15 (i+1))] (fun a=>(.next,[bJ ".=" .none 2,ab (dg ".=" fun i=>p 15 (i+1)) 2,aw w [("sign",a 0,.str (cY ".=") (a 1))] (1),aJ (.ref (p 15 0)),aZ w fun i=>p 15 (i+1)],[])):=
 aA (orcs:=[ca w 4 "." fun g=>cg g 46,ca w 4 "=" fun g=>cg g 61]) (aa (cj fun g=>by kernel_rfl) (aa (cj fun g=>by kernel_rfl) aq)) 101 2 [1,1,0,1,0,86,1,0,1,0,1,0,87,1,1,1,0,3,2,4,3,5,5,5,2,0,2,0,26,2,1,2,0,1,0,1,0,87,1,1,1,0,3,2,4,3,5,5,5,3,0,2,0,26,2,1,2,0,1,0,1,0,87,1,1,1,0,7] [0,1,2,3,4] (fun n c f=>aB [c+1,(f 0).2.1+0]) (hc:=aS (bv _ _ _ _ _ _))
theorem Jd (b:Bool) (w:Yc) (p:af):aC (B0 (W b false w)) 2 (bj (c2 w) (p 1 0) (p 3 0) (p 4 0) (p 6 0) [p 13 0]) [(p 1 0,bJ "= " (.str "= " (p 1 1)) 0),(p 3 0,ab [] 0),(p 4 0,aw w [] (0)),(p 13 0,aJ (.ref (p 15 0))),(p 15 0,aZ w fun i=>p 15 (i+1))] (fun a=>(.next,[bJ "= " .none 2,ab (dg "= " fun i=>p 15 (i+1)) 2,aw w [("sign",a 0,.str (cY "= ") (a 1))] (1),aJ (.ref (p 15 0)),aZ w fun i=>p 15 (i+1)],[])):=
 aA (orcs:=[ca w 4 "=" fun g=>cg g 61,ca w 4 " " fun g=>cg g 32]) (aa (cj fun g=>by kernel_rfl) (aa (cj fun g=>by kernel_rfl) aq)) 101 2 [1,1,0,1,0,86,1,0,1,0,1,0,87,1,1,1,0,3,2,4,3,5,5,5,2,0,2,0,26,2,1,2,0,1,0,1,0,87,1,1,1,0,3,2,4,3,5,5,5,3,0,2,0,26,2,1,2,0,1,0,1,0,87,1,1,1,0,7] [0,1,2,3,4] (fun n c f=>aB [c+1,(f 0).2.1+0]) (hc:=aS (bv _ _ _ _ _ _))
theorem Je (b:Bool) (w:Yc) (p:af):aC (B0 (W b false w)) 2 (bj (c2 w) (p 1 0) (p 3 0) (p 4 0) (p 6 0) [p 13 0]) [(p 1 0,bJ " é" (.str " é" (p 1 1)) 0),(p 3 0,ab [] 0),(p 4 0,aw w [] (0)),(p 13 0,aJ (.ref (p 15 0))),(p 15 0,aZ w fun i=>p 15 (i+1))] (fun a=>(.next,[bJ " é" .none 2,ab (dg " é" fun i=>p 15 (i+1)) 2,aw w [("sign",a 0,.str (cY " é") (a 1))] (1),aJ (.ref (p 15 0)),aZ w fun i=>p 15 (i+1)],[])):=
 aA (orcs:=[ca w 4 " " fun g=>cg g 32,ca w 4 "é" fun g=>cg g 233]) (aa (cj fun g=>by kernel_rfl) (aa (cj fun g=>by kernel_rfl) aq)) 101 2 [1,1,0,1,0,75,1,0,1,0,1,0,76,1,1,1,0,3,2,4,3,5,5,5,2,0,2,0,26,2,1,2,0,1,0,1,0,76,1,1,1,0,3,2,4,3,5,5,5,3,0,2,0,26,2,1,2,0,1,0,1,0,76,1,1,1,0,7] [0,1,2,3,4] (fun n c f=>aB [c+1,(f 0).2.1+0]) (hc:=aS (bv _ _ _ _ _ _))
theorem Jf (b:Bool) (w:Yc) (p:af):aC (B0 (W b false w)) 2 (bj (c2 w) (p 1 0) (p 3 0) (p 4 0) (p 6 0) [p 13 0]) [(p 1 0,bJ "éa" (.str "éa" (p 1 1)) 0),(p 3 0,ab [] 0),(p 4 0,aw w [] (0)),(p 13 0,aJ (.ref (p 15 0))),(p 15 0,aZ w fun i=>p 15 (i+1))] (fun a=>(.next,[bJ "éa" .none 2,ab (dg "éa" fun i=>p 15 (i+1)) 2,aw w [("sign",a 0,.str (cY "éa") (a 1))] (1),aJ (.ref (p 15 0)),aZ w fun i=>p 15 (i+1)],[])):=
 aA (orcs:=[ca w 4 "é" fun g=>cg g 233,ca w 4 "a" fun g=>cg g 97]) (aa (cj fun g=>by kernel_rfl) (aa (cj fun g=>by kernel_rfl) aq)) 101 2 [1,1,0,1,0,75,1,0,1,0,1,0,76,1,1,1,0,3,2,4,3,5,5,5,2,0,2,0,26,2,1,2,0,1,0,1,0,76,1,1,1,0,3,2,4,3,5,5,5,3,0,2,0,26,2,1,2,0,1,0,1,0,76,1,1,1,0,7] [0,1,2,3,4] (fun n c f=>aB [c+1,(f 0).2.1+0]) (hc:=aS (bv _ _ _ _ _ _))
theorem Jg (b:Bool) (w:Yc) (p:af):aC (B0 (W b true w)) 2 (bj (c2 w) (p 1 0) (p 3 0) (p 4 0) (p 6 0) [p 13 0]) [(p 1 0,bJ "a" (.str "a" (p 1 1)) 0),(p 3 0,ab [] 0),(p 4 0,aw w [] (0)),(p 13 0,aJ (.ref (p 15 0))),(p 15 0,aZ w fun i=>p 15 (i+1))] (fun a=>(.next,[bJ "a" .none 1,ab (dg "a" fun i=>p 15 (i+1)) 1,aw w [("sign",a 0,.str (cY "a") (a 1))] (1),aJ (.ref (p 15 0)),aZ w fun i=>p 15 (i+1)],[])):=
 aA (orcs:=[ca w 4 "a" fun g=>cg g 97]) (aa (cj fun g=>by kernel_rfl) aq) 56 1 [0,1,0,1,0,87,1,1,1,0,3,2,4,3,5,5,5,2,0,2,0,26,2,1,2,0,1,0,1,0,87,1,1,1,0,7] [0,1,2,3,4] (fun n c f=>aB [c+1,c+0]) (hc:=aS (bv _ _ _ _ _ _))
theorem Jh (b:Bool) (w:Yc) (p:af):aC (B0 (W b true w)) 2 (bj (c2 w) (p 1 0) (p 3 0) (p 4 0) (p 6 0) [p 13 0]) [(p 1 0,bJ "/" (.str "/" (p 1 1)) 0),(p 3 0,ab [] 0),(p 4 0,aw w [] (0)),(p 13 0,aJ (.ref (p 15 0))),(p 15 0,aZ w fun i=>p 15 (i+1))] (fun a=>(.next,[bJ "/" .none 1,ab (dg "/" fun i=>p 15 (i+1)) 1,aw w [("sign",a 0,.str (cY "/") (a 1))] (1),aJ (.ref (p 15 0)),aZ w fun i=>p 15 (i+1)],[])):=
 aA (orcs:=[ca w 4 "/" fun g=>cg g 47]) (aa (cj fun g=>by kernel_rfl) aq) 56 1 [0,1,0,1,0,87,1,1,1,0,3,2,4,3,5,5,5,2,0,2,0,26,2,1,2,0,1,0,1,0,87,1,1,1,0,7] [0,1,2,3,4] (fun n c f=>aB [c+1,c+0]) (hc:=aS (bv _ _ _ _ _ _))
theorem Ji (b:Bool) (w:Yc) (p:af):aC (B0 (W b true w)) 2 (bj (c2 w) (p 1 0) (p 3 0) (p 4 0) (p 6 0) [p 13 0]) [(p 1 0,bJ "." (.str "." (p 1 1)) 0),(p 3 0,ab [] 0),(p 4 0,aw w [] (0)),(p 13 0,aJ (.ref (p 15 0))),(p 15 0,aZ w fun i=>p 15 (i+1))] (fun a=>(.next,[bJ "." .none 1,ab (dg "." fun i=>p 15 (i+1)) 1,aw w [("sign",a 0,.str (cY ".") (a 1))] (1),aJ (.ref (p 15 0)),aZ w fun i=>p 15 (i+1)],[])):=
 aA (orcs:=[ca w 4 "." fun g=>cg g 46]) (aa (cj fun g=>by kernel_rfl) aq) 56 1 [0,1,0,1,0,87,1,1,1,0,3,2,4,3,5,5,5,2,0,2,0,26,2,1,2,0,1,0,1,0,87,1,1,1,0,7] [0,1,2,3,4] (fun n c f=>aB [c+1,c+0]) (hc:=aS (bv _ _ _ _ _ _))
theorem Jj (b:Bool) (w:Yc) (p:af):aC (B0 (W b true w)) 2 (bj (c2 w) (p 1 0) (p 3 0) (p 4 0) (p 6 0) [p 13 0]) [(p 1 0,bJ "=" (.str "=" (p 1 1)) 0),(p 3 0,ab [] 0),(p 4 0,aw w [] (0)),(p 13 0,aJ (.ref (p 15 0))),(p 15 0,aZ w fun i=>p 15 (i+1))] (fun a=>(.next,[bJ "=" .none 1,ab (dg "=" fun i=>p 15 (i+1)) 1,aw w [("sign",a 0,.str (cY "=") (a 1))] (1),aJ (.ref (p 15 0)),aZ w fun i=>p 15 (i+1)],[])):=
 aA (orcs:=[ca w 4 "=" fun g=>cg g 61]) (aa (cj fun g=>by kernel_rfl) aq) 56 1 [0,1,0,1,0,87,1,1,1,0,3,2,4,3,5,5,5,2,0,2,0,26,2,1,2,0,1,0,1,0,87,1,1,1,0,7] [0,1,2,3,4] (fun n c f=>aB [c+1,c+0]) (hc:=aS (bv _ _ _ _ _ _))
theorem Jk (b:Bool) (w:Yc) (p:af):aC (B0 (W b true w)) 2 (bj (c2 w) (p 1 0) (p 3 0) (p 4 0) (p 6 0) [p 13 0]) [(p 1 0,bJ " " (.str " " (p 1 1)) 0),(p 3 0,ab [] 0),(p 4 0,aw w [] (0)),(p 13 0,aJ (.ref (p 15 0))),(p 15 0,aZ w fun i=>p 15 (i+1))] (fun a=>(.next,[bJ " " .none 1,ab (dg " " fun i=>p 15 (i+1)) 1,aw w [("sign",a 0,.str (cY " ") (a 1))] (1),aJ (.ref (p 15 0)),aZ w fun i=>p 15 (i+1)],[])):=
 aA (orcs:=[ca w 4 " " fun g=>cg g 32]) (aa (cj fun g=>by kernel_rfl) aq) 56 1 [0,1,0,1,0,87,1,1,1,0,3,2,4,3,5,5,5,2,0,2,0,26,2,1,2,0,1,0,1,0,87,1,1,1,0,7] [0,1,2,3,4] (fun n c f=>aB [c+1,c+0]) (hc:=aS (bv _ _ _ _ _ _))
theorem Jl (b:Bool) (w:Yc) (p:af):aC (B0 (W b true w)) 2 (bj (c2 w) (p 1 0) (p 3 0) (p 4 0) (p 6 0) [p 13 0]) [(p 1 0,bJ "é" (.str "é" (p 1 1)) 0),(p 3 0,ab [] 0),(p 4 0,aw w [] (0)),(p 13 0,aJ (.ref (p 15 0))),(p 15 0,aZ w fun i=>p 15 (i+1))] (fun a=>(.next,[bJ "é" .none 1,ab (dg "é" fun i=>p 15 (i+1)) 1,aw w [("sign",a 0,.str (cY "é") (a 1))] (1),aJ (.ref (p 15 0)),aZ w fun i=>p 15 (i+1)],[])):=
 aA (orcs:=[ca w 4 "é" fun g=>cg g 233]) (aa (cj fun g=>by kernel_rfl) aq) 56 1 [0,1,0,1,0,76,1,1,1,0,3,2,4,3,5,5,5,2,0,2,0,26,2,1,2,0,1,0,1,0,76,1,1,1,0,7] [0,1,2,3,4] (fun n c f=>aB [c+1,c+0]) (hc:=aS (bv _ _ _ _ _ _))
theorem Jm (b:Bool) (w:Yc) (p:af):aC (B0 (W b true w)) 2 (bj (c2 w) (p 1 0) (p 3 0) (p 4 0) (p 6 0) [p 13 0]) [(p 1 0,bJ "a/" (.str "a/" (p 1 1)) 0),(p 3 0,ab [] 0),(p 4 0,aw w [] (0)),(p 13 0,aJ (.ref (p 15 0))),(p 15 0,aZ w fun i=>p 15 (i+1))] (fun a=>(.next,[bJ "a/" .none 2,ab (dg "a/" fun i=>p 15 (i+1)) 2,aw w [("sign",a 0,.str (cY "a/") (a 1))] (1),aJ (.ref (p 15 0)),aZ w fun i=>p 15 (i+1)],[])):=
 aA (orcs:=[ca w 4 "a" fun g=>cg g 97,ca w 4 "/" fun g=>cg g 47]) (aa (cj fun g=>by kernel_rfl) (aa (cj fun g=>by kernel_rfl) aq)) 91 2 [0,1,0,1,0,87,1,1,1,0,3,2,4,3,5,5,5,2,0,2,0,26,2,1,2,0,1,0,1,0,87,1,1,1,0,3,2,4,3,5,5,5,3,0,2,0,26,2,1,2,0,1,0,1,0,87,1,1,1,0,7] [0,1,2,3,4] (fun n c f=>aB [c+1,(f 0).2.1+0]) (hc:=aS (bv _ _ _ _ _ _))
theorem Jn (b:Bool) (w:Yc) (p:af):aC (B0 (W b true w)) 2 (bj (c2 w) (p 1 0) (p 3 0) (p 4 0) (p 6 0) [p 13 0]) [(p 1 0,bJ "/." (.str "/." (p 1 1)) 0),(p 3 0,ab [] 0),(p 4 0,aw w [] (0)),(p 13 0,aJ (.ref (p 15 0))),(p 15 0,aZ w fun i=>p 15 (i+1))] (fun a=>(.next,[bJ "/." .none 2,ab (dg "/." fun i=>p 15 (i+1)) 2,aw w [("sign",a 0,.str (cY "/.") (a 1))] (1),aJ (.ref (p 15 0)),aZ w fun i=>p 15 (i+1)],[])):=
 aA (orcs:=[ca w 4 "/" fun g=>cg g 47,ca w 4 "." fun g=>cg g 46]) (aa (cj fun g=>by kernel_rfl) (aa (cj fun g=>by kernel_rfl) aq)) 91 2 [0,1,0,1,0,87,1,1,1,0,3,2,4,3,5,5,5,2,0,2,0,26,2,1,2,0,1,0,1,0,87,1,1,1,0,3,2,4,3,5,5,5,3,0,2,0,26,2,1,2,0,1,0,1,0,87,1,1,1,0,7] [0,1,2,3,4] (fun n c f=>aB [c+1,(f 0).2.1+0]) (hc:=aS (bv _ _ _ _ _ _))
theorem Jo (b:Bool) (w:Yc) (p:af):aC (B0 (W b true w)) 2 (bj (c2 w) (p 1 0) (p 3 0) (p 4 0) (p 6 0) [p 13 0]) [(p 1 0,bJ ".=" (.str ".=" (p 1 1)) 0),(p 3 0,ab [] 0),(p 4 0,aw w [] (0)),(p 13 0,aJ (.ref (p 15 0))),(p 15 0,aZ w fun i=>p 15 (i+1))] (fun a=>(.next,[bJ ".=" .none 2,ab (dg ".=" fun i=>p 15 (i+1)) 2,aw w [("sign",a 0,.str (cY ".=") (a 1))] (1),aJ (.ref (p 15 0)),aZ w fun i=>p 15 (i+1)],[])):=
 aA (orcs:=[ca w 4 "." fun g=>cg g 46,ca w 4 "=" fun g=>cg g 61]) (aa (cj fun g=>by kernel_rfl) (aa (cj fun g=>by kernel_rfl) aq)) 91 2 [0,1,0,1,0,87,1,1,1,0,3,2,4,3,5,5,5,2,0,2,0,26,2,1,2,0,1,0,1,0,87,1,1,1,0,3,2,4,3,5,5,5,3,0,2,0,26,2,1,2,0,1,0,1,0,87,1,1,1,0,7] [0,1,2,3,4] (fun n c f=>aB [c+1,(f 0).2.1+0]) (hc:=aS (bv _ _ _ _ _ _))
theorem Jp (b:Bool) (w:Yc) (p:af):aC (B0 (W b true w)) 2 (bj (c2 w) (p 1 0) (p 3 0) (p 4 0) (p 6 0) [p 13 0]) [(p 1 0,bJ "= " (.str "= " (p 1 1)) 0),(p 3 0,ab [] 0),(p 4 0,aw w [] (0)),(p 13 0,aJ (.ref (p 15 0))),(p 15 0,aZ w fun i=>p 15 (i+1))] (fun a=>(.next,[bJ "= " .none 2,ab (dg "= " fun i=>p 15 (i+1)) 2,aw w [("sign",a 0,.str (cY "= ") (a 1))] (1),aJ (.ref (p 15 0)),aZ w fun i=>p 15 (i+1)],[])):=
 aA (orcs:=[ca w 4 "=" fun g=>cg g 61,ca w 4 " " fun g=>cg g 32]) (aa (cj fun g=>by kernel_rfl) (aa (cj fun g=>by kernel_rfl) aq)) 91 2 [0,1,0,1,0,87,1,1,1,0,3,2,4,3,5,5,5,2,0,2,0,26,2,1,2,0,1,0,1,0,87,1,1,1,0,3,2,4,3,5,5,5,3,0,2,0,26,2,1,2,0,1,0,1,0,87,1,1,1,0,7] [0,1,2,3,4] (fun n c f=>aB [c+1,(f 0).2.1+0]) (hc:=aS (bv _ _ _ _ _ _))
theorem Jq (b:Bool) (w:Yc) (p:af):aC (B0 (W b true w)) 2 (bj (c2 w) (p 1 0) (p 3 0) (p 4 0) (p 6 0) [p 13 0]) [(p 1 0,bJ " é" (.str " é" (p 1 1)) 0),(p 3 0,ab [] 0),(p 4 0,aw w [] (0)),(p 13 0,aJ (.ref (p 15 0))),(p 15 0,aZ w fun i=>p 15 (i+1))] (fun a=>(.next,[bJ " é" .none 2,ab (dg " é" fun i=>p 15 (i+1)) 2,aw w [("sign",a 0,.str (cY " é") (a 1))] (1),aJ (.ref (p 15 0)),aZ w fun i=>p 15 (i+1)],[])):=
 aA (orcs:=[ca w 4 " " fun g=>cg g 32,ca w 4 "é" fun g=>cg g 233]) (aa (cj fun g=>by kernel_rfl) (aa (cj fun g=>by kernel_rfl) aq)) 91 2 [0,1,0,1,0,76,1,1,1,0,3,2,4,3,5,5,5,2,0,2,0,26,2,1,2,0,1,0,1,0,76,1,1,1,0,3,2,4,3,5,5,5,3,0,2,0,26,2,1,2,0,1,0,1,0,76,1,1,1,0,7] [0,1,2,3,4] (fun n c f=>aB [c+1,(f 0).2.1+0]) (hc:=aS (bv _ _ _ _ _ _))
theorem Jr (b:Bool) (w:Yc) (p:af):aC (B0 (W b true w)) 2 (bj (c2 w) (p 1 0) (p 3 0) (p 4 0) (p 6 0) [p 13 0]) [(p 1 0,bJ "éa" (.str "éa" (p 1 1)) 0),(p 3 0,ab [] 0),(p 4 0,aw w [] (0)),(p 13 0,aJ (.ref (p 15 0))),(p 15 0,aZ w fun i=>p 15 (i+1))] (fun a=>(.next,[bJ "éa" .none 2,ab (dg "éa" fun i=>p 15 (i+1)) 2,aw w [("sign",a 0,.str (cY "éa") (a 1))] (1),aJ (.ref (p 15 0)),aZ w fun i=>p 15 (i+1)],[])):=
 aA (orcs:=[ca w 4 "é" fun g=>cg g 233,ca w 4 "a" fun g=>cg g 97]) (aa (cj fun g=>by kernel_rfl) (aa (cj fun g=>by kernel_rfl) aq)) 91 2 [0,1,0,1,0,76,1,1,1,0,3,2,4,3,5,5,5,2,0,2,0,26,2,1,2,0,1,0,1,0,76,1,1,1,0,3,2,4,3,5,5,5,3,0,2,0,26,2,1,2,0,1,0,1,0,76,1,1,1,0,7] [0,1,2,3,4] (fun n c f=>aB [c+1,(f 0).2.1+0]) (hc:=aS (bv _ _ _ _ _ _))
end
def vY (x:Str):String:=if x.cps.all (· < 128) then "str_ascii_iterator" else "str_iterator"
def vZ (x:Str):aH:={code:=fun p=>.call (.builtin "str.__iter__") ⟨[.str x (p 0 0)],[]⟩,strm:=true,out:=fun p a=>(.ret (.ref (a 0)),[],[(a 0,bJ x (.str x (p 0 0)) 0)])}
theorem Js {B:bf} {m:Nat} {x:Str} (e:vY x=ec x):(vZ x).Sure B m:=by
 refine ⟨List.nodup_nil,fun p A j h a s d t g l k Q E nd u o f=>d7 ?_⟩
 refine wpAny_call_entry F.slot_str_iter (typeIs_str _ x (p 0 0)) F.entry_str_iter ?_ (F.args_str_iter_1 _)
 show wpAny _ _ (do ret (←newFields (if (true&&x.cps.all (· < 128))=true then "str_ascii_iterator" else "str_iterator") [.str x (p 0 0),rawInt 0])) _ _ _
 have i:(if (true&&x.cps.all (· < 128))=true then "str_ascii_iterator" else "str_iterator")=ec x:=by rw [←e,Bool.true_and];rfl
 rw [i]
 refine wpAny_bind (wpAny_newObj_type (wpAny_pure ⟨_,rfl,?_⟩))
 exact f (h.push (bJ x (.str x (p 0 0)) 0)) a (fun _=>h.objs.size) (fun e=>by cases e) (by show h.objs.size≤(h.objs.push _).size;rw [Array.size_push];lia) (fun b n e _=>Heap.get?_push_of_some _ e) (fun _ hx=>nomatch hx)
  (fun q c=>by
   have:q=(h.objs.size,bJ x (.str x (p 0 0)) 0):=by simpa [vZ] using c
   rw [this];exact ⟨Heap.get?_push_size _ rfl,Nat.le_refl _⟩) (by simp [vZ])
def iV:Yg:=["a","/",".","="," ","é"]
def iW:Yg:=["a/","/.",".=","= "," é","éa"]
def AW (c:Nat):Str:=if c==97 then "a" else if c==47 then "=2F" else if c==46 then "=2E" else if c==61 then "=3D" else if c==32 then "=20" else "=E9"
def kr (x:Str):Str:=AW ((bW x.cps.toList 0).getD 0)
def ks (x:Str):Str:=AW ((bW x.cps.toList 1).getD 0)
def AX (w:Yc) (x:Str) (p:af):Ya:=[(p 1 0,bJ x (.str x (p 1 1)) 0),(p 3 0,ab [] 0),(p 4 0,aw w [] 0),(p 13 0,aJ (.ref (p 15 0))),(p 15 0,aZ w fun i=>p 15 (i+1))]
def Jt (w:Yc) (x:Str) (p:af) (a:Ye):Flow×Yf×Ya:=(.next,[bJ x .none 1,ab [.str (ao x) (a 2)] 1,aw w [("sign",a 0,.str (cY x) (a 1))] 1,aJ (.ref (p 15 0)),aZ w fun i=>p 15 (i+1)],[])
def Ju (w:Yc) (x:Str) (p:af) (a:Ye):Flow×Yf×Ya:=(.next,[bJ x .none 2,ab [.str (kr x) (a 2),.str (ks x) (a 3)] 2,aw w [("sign",a 0,.str (cY x) (a 1))] 1,aJ (.ref (p 15 0)),aZ w fun i=>p 15 (i+1)],[])
section
def AY (w:Yc) (p:af):Code:=bj (c2 w) (p 1 0) (p 3 0) (p 4 0) (p 6 0) [p 13 0]
def f8 (a b c d:Nat):Nat→Nat:=fun i=>match i with | 0=>a | 1=>b | 2=>c | _=>d
theorem g5 {B:bf} {m:Nat} {c:Code} {b:Ya} {o f:Ye→Flow×Yf×Ya} (h:aC B m c b o) (e:∀d,∃g,f g=o d):aC B m c b f:=aL.re (out:=_) h fun d=>by
 obtain ⟨a,i⟩:=e d
 exact ⟨a,by show lM (f a)=lM (o d);rw [i]⟩
theorem Jv (b c:Bool) (w:Yc) (p:af):∀x∈iV,aC (B0 (W b c w)) 2 (AY w p) (AX w x p) (Jt w x p):=by
 unfold iV
 refine fc (g5 (by cases c;exact I4 b w p;exact Jg b w p) fun a=>⟨f8 (a 0) (a 1) (p 15 2) 0,by kernel_rfl⟩) ?_
 refine fc (g5 (by cases c;exact I5 b w p;exact Jh b w p) fun a=>⟨f8 (a 0) (a 1) (p 15 4) 0,by kernel_rfl⟩) ?_
 refine fc (g5 (by cases c;exact I6 b w p;exact Ji b w p) fun a=>⟨f8 (a 0) (a 1) (p 15 6) 0,by kernel_rfl⟩) ?_
 refine fc (g5 (by cases c;exact I7 b w p;exact Jj b w p) fun a=>⟨f8 (a 0) (a 1) (p 15 8) 0,by kernel_rfl⟩) ?_
 refine fc (g5 (by cases c;exact I8 b w p;exact Jk b w p) fun a=>⟨f8 (a 0) (a 1) (p 15 10) 0,by kernel_rfl⟩) ?_
 refine fc (g5 (by cases c;exact I9 b w p;exact Jl b w p) fun a=>⟨f8 (a 0) (a 1) (p 15 12) 0,by kernel_rfl⟩) ?_
 exact fn
theorem Jw (b c:Bool) (w:Yc) (p:af):∀x∈iW,aC (B0 (W b c w)) 2 (AY w p) (AX w x p) (Ju w x p):=by
 unfold iW
 refine fc (g5 (by cases c;exact Ja b w p;exact Jm b w p) fun a=>⟨f8 (a 0) (a 1) (p 15 2) (p 15 4),by kernel_rfl⟩) ?_
 refine fc (g5 (by cases c;exact Jb b w p;exact Jn b w p) fun a=>⟨f8 (a 0) (a 1) (p 15 4) (p 15 6),by kernel_rfl⟩) ?_
 refine fc (g5 (by cases c;exact Jc b w p;exact Jo b w p) fun a=>⟨f8 (a 0) (a 1) (p 15 6) (p 15 8),by kernel_rfl⟩) ?_
 refine fc (g5 (by cases c;exact Jd b w p;exact Jp b w p) fun a=>⟨f8 (a 0) (a 1) (p 15 8) (p 15 10),by kernel_rfl⟩) ?_
 refine fc (g5 (by cases c;exact Je b w p;exact Jq b w p) fun a=>⟨f8 (a 0) (a 1) (p 15 10) (p 15 12),by kernel_rfl⟩) ?_
 refine fc (g5 (by cases c;exact Jf b w p;exact Jr b w p) fun a=>⟨f8 (a 0) (a 1) (p 15 12) (p 15 2),by kernel_rfl⟩) ?_
 exact fn
def pB (a:String) (v:Yd) (i:Nat):Obj:={cls:=.type a,data:=.fields #[v,.int (i:Int) 0]}
def jB (b:String) (x:Str):aH:={code:=fun p=>.call (.builtin "str.__iter__") ⟨[.str x (p 0 0)],[]⟩,strm:=true,out:=fun p a=>(.ret (.ref (a 0)),[],[(a 0,pB b (.str x (p 0 0)) 0)])}
theorem ku {B:bf} {m:Nat} {a:String} {x:Str} (e:vY x=ec x∧ec x=a):(jB a x).Sure B m:=by
 obtain ⟨e,rfl⟩:=e
 exact Js e
def pC (w:Yc) (b:String) (x:Str) (c:Yh):aH:=bA (fun p=>bj (c2 w) (p 1 0) (p 2 0) (p 3 0) (p 0 3) [p 4 0]) c
 (fun p=>[(p 1 0,pB b (.str x (p 1 1)) 0),(p 2 0,ab [] 0),(p 3 0,aw w [] 0),(p 4 0,aJ (.ref (p 5 0))),(p 5 0,aZ w fun i=>p 5 (i+2))])
 (fun p a=>(.next,[pB b .none 1,ab [.str (ao x) (a 2)] 1,aw w [("sign",a 0,.str (cY x) (a 1))] 1,aJ (.ref (p 5 0)),aZ w fun i=>p 5 (i+2)],[]))
def pE (w:Yc) (b:String) (x:Str) (c:Yh):aH:=bA (fun p=>bj (c2 w) (p 1 0) (p 2 0) (p 3 0) (p 0 3) [p 4 0]) c
 (fun p=>[(p 1 0,pB b (.str x (p 1 1)) 0),(p 2 0,ab [] 0),(p 3 0,aw w [] 0),(p 4 0,aJ (.ref (p 5 0))),(p 5 0,aZ w fun i=>p 5 (i+2))])
 (fun p a=>(.next,[pB b .none 2,ab [.str (kr x) (a 2),.str (ks x) (a 3)] 2,aw w [("sign",a 0,.str (cY x) (a 1))] 1,aJ (.ref (p 5 0)),aZ w fun i=>p 5 (i+2)],[]))
def AZ (p:af):af:=fun j i=>match j,i with | 3,_=>p 2 0 | 4,_=>p 3 0 | 6,_=>p 0 3 | 13,_=>p 4 0 | 15,0=>p 5 0 | 15,i+1=>p 5 (i+2) | j,i=>p j i
theorem td {b c:Bool} {w:Yc} {m:Nat} {a:String} {x:Str} {d:Yh} (f:d.Nodup) (hx:x∈iV) (e:ec x=a) (g:2≤m):(pC w a x d).Sure (B0 (W b c w)) m:=by
 subst e
 exact (bS f fun p=>Jv b c w (AZ p) x hx).le g
theorem te {b c:Bool} {w:Yc} {m:Nat} {a:String} {x:Str} {d:Yh} (f:d.Nodup) (hx:x∈iW) (e:ec x=a) (g:2≤m):(pE w a x d).Sure (B0 (W b c w)) m:=by
 subst e
 exact (bS f fun p=>Jw b c w (AZ p) x hx).le g
theorem tf:∀x∈b1,ec x="str_ascii_iterator"∨ec x="str_iterator" := by decide +kernel
theorem kw:∀x∈iV,Txt.join "" [ao x]=ao x∧JoinOk "" [ao x]=true:=by decide +kernel
theorem kx:∀x∈iW,Txt.join "" [kr x,ks x]=ao x∧JoinOk "" [kr x,ks x]=true:=by decide +kernel
theorem ky:∀x∈b1,vY x=ec x:=by decide +kernel
theorem A0:∀x∈b1,x=""∨x∈iV∨x∈iW:=by decide +kernel
theorem kz:∀x∈iV,x∈b1∧(x.cps.toList==("" : Str).cps.toList)=false:=by decide +kernel
theorem kA:∀x∈iW,x∈b1∧(x.cps.toList==("" : Str).cps.toList)=false:=by decide +kernel
end
section
theorem Jx (b c:Bool) (w:Yc) (g i:Nat) (a d:Yb) (p:af) (h:a[i]? = some (.str "" g)) (j:d.length≤1000):aL (B0 (W b c w)) 4 (bI (cC w) (p 1 0) (p 3 0) (p 4 0) (p 6 0) [p 13 0]) [(p 1 0,am (.ref (p 2 0)) i),(p 2 0,ab a (p 2 1)),(p 3 0,ab d (p 3 1)),(p 4 0,aw w [] (0)),(p 13 0,aJ (.ref (p 15 0))),(p 15 0,aZ w fun i=>p 15 (i+1))] (fun e=>(.error (bI (cC w) (p 1 0) (p 3 0) (p 4 0) (p 6 0) [p 13 0]),[am (.ref (p 2 0)) (i+1),ab a (p 2 1),ab (d++[.str "=" (e 2)]) (e 0),aw w [("name",e 1,.str "" g)] 1,aJ (.ref (p 15 0)),aZ w fun i=>p 15 (i+1)],[])):=
 aA (orcs:=[cA 0 1 a i (.str "" g),o2 "str.__eq__" "" "" fun _=>.bool true,f2 2 d "="]) (aa (cP (by decide) h) (aa (cv (by kernel_rfl)) (aa (gz j) aq))) 21 3 [1,2,4,3,4,3,4,1] [0,1,2,3,4,5] (fun n k f i=>match i with | 0=>(f 2).2.2 1 | 1=>(f 0).2.1+0 | _=>(f 1).2.1+0) (hc:=aS (dK _ _ _ _ _ _))
theorem Jy (b c:Bool) (w:Yc) (j:Yd) (e i:Nat) (a d:Yb) (p:af) (h:a[i]? = some (.str "" e)) (k:d.length≤1000):aL (B0 (W b c w)) 4 (bI (cC w) (p 1 0) (p 3 0) (p 4 0) (p 6 0) [p 13 0]) [(p 1 0,am (.ref (p 2 0)) i),(p 2 0,ab a (p 2 1)),(p 3 0,ab d (p 3 1)),(p 4 0,aw w [("name",p 4 2,j)] (p 4 1)),(p 13 0,aJ (.ref (p 15 0))),(p 15 0,aZ w fun i=>p 15 (i+1))] (fun g=>(.error (bI (cC w) (p 1 0) (p 3 0) (p 4 0) (p 6 0) [p 13 0]),[am (.ref (p 2 0)) (i+1),ab a (p 2 1),ab (d++[.str "=" (g 2)]) (g 0),aw w [("name",p 4 2,.str "" e)] (p 4 1),aJ (.ref (p 15 0)),aZ w fun i=>p 15 (i+1)],[])):=
 aA (orcs:=[cA 0 1 a i (.str "" e),o2 "str.__eq__" "" "" fun _=>.bool true,f2 2 d "="]) (aa (cP (by decide) h) (aa (cv (by kernel_rfl)) (aa (gz k) aq))) 21 3 [1,2,4,3,4,3,4,1] [0,1,2,3,4,5] (fun n m f i=>match i with | 0=>(f 2).2.2 1 | 1=>(f 0).2.1+0 | _=>(f 1).2.1+0) (hc:=aS (dK _ _ _ _ _ _))
theorem Jz (b c:Bool) (w:Yc) (x:Str) (g i:Nat) (a d:Yb) (p:af) (j:a[i]? = some (.str x g)) (k:d.length≤1000) (hx:x∈iV) (h:ec x="str_ascii_iterator"):aL (B0 (W b c w)) 4 (bI (cC w) (p 1 0) (p 3 0) (p 4 0) (p 6 0) [p 13 0]) [(p 1 0,am (.ref (p 2 0)) i),(p 2 0,ab a (p 2 1)),(p 3 0,ab d (p 3 1)),(p 4 0,aw w [] (0)),(p 13 0,aJ (.ref (p 15 0))),(p 15 0,aZ w fun i=>p 15 (i+1))] (fun e=>(.error (bI (cC w) (p 1 0) (p 3 0) (p 4 0) (p 6 0) [p 13 0]),[am (.ref (p 2 0)) (i+1),ab a (p 2 1),ab (d++[.str (ao x) (e 2)]) (e 0),aw w [("name",e 1,.str x g)] 1,aJ (.ref (p 15 0)),aZ w fun i=>p 15 (i+1)],[])):=
 aA (orcs:=[cA 0 1 a i (.str x g),o2 "str.__eq__" x "" fun _=>.bool false,jB "str_ascii_iterator" x,pC w "str_ascii_iterator" x [6,7,8,4,5],bx 7 "" [ao x] (ao x),f2 2 d (ao x)]) (aa (cP (by decide) j) (aa (cv (kz x hx).2) (aa (ku ⟨ky x (kz x hx).1,h⟩) (aa (td (by decide) hx h (by decide)) (aa (bB (kw x hx).1 (kw x hx).2) (aa (gz k) aq)))))) 40 6 [1,2,4,3,4,3,4,4,7,5,9,9,8,6,7,1] [0,1,2,3,4,5] (fun n m f i=>match i with | 0=>(f 5).2.2 1 | 1=>(f 0).2.1+0 | _=>(f 4).2.2 0) (hc:=aS (dK _ _ _ _ _ _))
theorem JA (b c:Bool) (w:Yc) (k:Yd) (x:Str) (e i:Nat) (a d:Yb) (p:af) (j:a[i]? = some (.str x e)) (m:d.length≤1000) (hx:x∈iV) (g:ec x="str_ascii_iterator"):aL (B0 (W b c w)) 4 (bI (cC w) (p 1 0) (p 3 0) (p 4 0) (p 6 0) [p 13 0]) [(p 1 0,am (.ref (p 2 0)) i),(p 2 0,ab a (p 2 1)),(p 3 0,ab d (p 3 1)),(p 4 0,aw w [("name",p 4 2,k)] (p 4 1)),(p 13 0,aJ (.ref (p 15 0))),(p 15 0,aZ w fun i=>p 15 (i+1))] (fun h=>(.error (bI (cC w) (p 1 0) (p 3 0) (p 4 0) (p 6 0) [p 13 0]),[am (.ref (p 2 0)) (i+1),ab a (p 2 1),ab (d++[.str (ao x) (h 2)]) (h 0),aw w [("name",p 4 2,.str x e)] (p 4 1),aJ (.ref (p 15 0)),aZ w fun i=>p 15 (i+1)],[])):=
 aA (orcs:=[cA 0 1 a i (.str x e),o2 "str.__eq__" x "" fun _=>.bool false,jB "str_ascii_iterator" x,pC w "str_ascii_iterator" x [6,7,8,4,5],bx 7 "" [ao x] (ao x),f2 2 d (ao x)]) (aa (cP (by decide) j) (aa (cv (kz x hx).2) (aa (ku ⟨ky x (kz x hx).1,g⟩) (aa (td (by decide) hx g (by decide)) (aa (bB (kw x hx).1 (kw x hx).2) (aa (gz m) aq)))))) 40 6 [1,2,4,3,4,3,4,4,7,5,9,9,8,6,7,1] [0,1,2,3,4,5] (fun n o f i=>match i with | 0=>(f 5).2.2 1 | 1=>(f 0).2.1+0 | _=>(f 4).2.2 0) (hc:=aS (dK _ _ _ _ _ _))
theorem JB (b c:Bool) (w:Yc) (x:Str) (g i:Nat) (a d:Yb) (p:af) (j:a[i]? = some (.str x g)) (k:d.length≤1000) (hx:x∈iW) (h:ec x="str_ascii_iterator"):aL (B0 (W b c w)) 4 (bI (cC w) (p 1 0) (p 3 0) (p 4 0) (p 6 0) [p 13 0]) [(p 1 0,am (.ref (p 2 0)) i),(p 2 0,ab a (p 2 1)),(p 3 0,ab d (p 3 1)),(p 4 0,aw w [] (0)),(p 13 0,aJ (.ref (p 15 0))),(p 15 0,aZ w fun i=>p 15 (i+1))] (fun e=>(.error (bI (cC w) (p 1 0) (p 3 0) (p 4 0) (p 6 0) [p 13 0]),[am (.ref (p 2 0)) (i+1),ab a (p 2 1),ab (d++[.str (ao x) (e 2)]) (e 0),aw w [("name",e 1,.str x g)] 1,aJ (.ref (p 15 0)),aZ w fun i=>p 15 (i+1)],[])):=
 aA (orcs:=[cA 0 1 a i (.str x g),o2 "str.__eq__" x "" fun _=>.bool false,jB "str_ascii_iterator" x,pE w "str_ascii_iterator" x [6,7,8,4,5],bx 7 "" [kr x,ks x] (ao x),f2 2 d (ao x)]) (aa (cP (by decide) j) (aa (cv (kA x hx).2) (aa (ku ⟨ky x (kA x hx).1,h⟩) (aa (te (by decide) hx h (by decide)) (aa (bB (kx x hx).1 (kx x hx).2) (aa (gz k) aq)))))) 40 6 [1,2,4,3,4,3,4,4,7,5,9,9,8,6,7,1] [0,1,2,3,4,5] (fun n m f i=>match i with | 0=>(f 5).2.2 1 | 1=>(f 0).2.1+0 | _=>(f 4).2.2 0) (hc:=aS (dK _ _ _ _ _ _))
theorem JC (b c:Bool) (w:Yc) (k:Yd) (x:Str) (e i:Nat) (a d:Yb) (p:af) (j:a[i]? = some (.str x e)) (m:d.length≤1000) (hx:x∈iW) (g:ec x="str_ascii_iterator"):aL (B0 (W b c w)) 4 (bI (cC w) (p 1 0) (p 3 0) (p 4 0) (p 6 0) [p 13 0]) [(p 1 0,am (.ref (p 2 0)) i),(p 2 0,ab a (p 2 1)),(p 3 0,ab d (p 3 1)),(p 4 0,aw w [("name",p 4 2,k)] (p 4 1)),(p 13 0,aJ (.ref (p 15 0))),(p 15 0,aZ w fun i=>p 15 (i+1))] (fun h=>(.error (bI (cC w) (p 1 0) (p 3 0) (p 4 0) (p 6 0) [p 13 0]),[am (.ref (p 2 0)) (i+1),ab a (p 2 1),ab (d++[.str (ao x) (h 2)]) (h 0),aw w [("name",p 4 2,.str x e)] (p 4 1),aJ (.ref (p 15 0)),aZ w fun i=>p 15 (i+1)],[])):=
 aA (orcs:=[cA 0 1 a i (.str x e),o2 "str.__eq__" x "" fun _=>.bool false,jB "str_ascii_iterator" x,pE w "str_ascii_iterator" x [6,7,8,4,5],bx 7 "" [kr x,ks x] (ao x),f2 2 d (ao x)]) (aa (cP (by decide) j) (aa (cv (kA x hx).2) (aa (ku ⟨ky x (kA x hx).1,g⟩) (aa (te (by decide) hx g (by decide)) (aa (bB (kx x hx).1 (kx x hx).2) (aa (gz m) aq)))))) 40 6 [1,2,4,3,4,3,4,4,7,5,9,9,8,6,7,1] [0,1,2,3,4,5] (fun n o f i=>match i with | 0=>(f 5).2.2 1 | 1=>(f 0).2.1+0 | _=>(f 4).2.2 0) (hc:=aS (dK _ _ _ _ _ _))
theorem JD (b c:Bool) (w:Yc) (x:Str) (g i:Nat) (a d:Yb) (p:af) (j:a[i]? = some (.str x g)) (k:d.length≤1000) (hx:x∈iV) (h:ec x="str_iterator"):aL (B0 (W b c w)) 4 (bI (cC w) (p 1 0) (p 3 0) (p 4 0) (p 6 0) [p 13 0]) [(p 1 0,am (.ref (p 2 0)) i),(p 2 0,ab a (p 2 1)),(p 3 0,ab d (p 3 1)),(p 4 0,aw w [] (0)),(p 13 0,aJ (.ref (p 15 0))),(p 15 0,aZ w fun i=>p 15 (i+1))] (fun e=>(.error (bI (cC w) (p 1 0) (p 3 0) (p 4 0) (p 6 0) [p 13 0]),[am (.ref (p 2 0)) (i+1),ab a (p 2 1),ab (d++[.str (ao x) (e 2)]) (e 0),aw w [("name",e 1,.str x g)] 1,aJ (.ref (p 15 0)),aZ w fun i=>p 15 (i+1)],[])):=
 aA (orcs:=[cA 0 1 a i (.str x g),o2 "str.__eq__" x "" fun _=>.bool false,jB "str_iterator" x,pC w "str_iterator" x [6,7,8,4,5],bx 7 "" [ao x] (ao x),f2 2 d (ao x)]) (aa (cP (by decide) j) (aa (cv (kz x hx).2) (aa (ku ⟨ky x (kz x hx).1,h⟩) (aa (td (by decide) hx h (by decide)) (aa (bB (kw x hx).1 (kw x hx).2) (aa (gz k) aq)))))) 40 6 [1,2,4,3,4,3,4,4,7,5,9,9,8,6,7,1] [0,1,2,3,4,5] (fun n m f i=>match i with | 0=>(f 5).2.2 1 | 1=>(f 0).2.1+0 | _=>(f 4).2.2 0) (hc:=aS (dK _ _ _ _ _ _))
theorem JE (b c:Bool) (w:Yc) (k:Yd) (x:Str) (e i:Nat) (a d:Yb) (p:af) (j:a[i]? = some (.str x e)) (m:d.length≤1000) (hx:x∈iV) (g:ec x="str_iterator"):aL (B0 (W b c w)) 4 (bI (cC w) (p 1 0) (p 3 0) (p 4 0) (p 6 0) [p 13 0]) [(p 1 0,am (.ref (p 2 0)) i),(p 2 0,ab a (p 2 1)),(p 3 0,ab d (p 3 1)),(p 4 0,aw w [("name",p 4 2,k)] (p 4 1)),(p 13 0,aJ (.ref (p 15 0))),(p 15 0,aZ w fun i=>p 15 (i+1))] (fun h=>(.error (bI (cC w) (p 1 0) (p 3 0) (p 4 0) (p 6 0) [p 13 0]),[am (.ref (p 2 0)) (i+1),ab a (p 2 1),ab (d++[.str (ao x) (h 2)]) (h 0),aw w [("name",p 4 2,.str x e)] (p 4 1),aJ (.ref (p 15 0)),aZ w fun i=>p 15 (i+1)],[])):=
 aA (orcs:=[cA 0 1 a i (.str x e),o2 "str.__eq__" x "" fun _=>.bool false,jB "str_iterator" x,pC w "str_iterator" x [6,7,8,4,5],bx 7 "" [ao x] (ao x),f2 2 d (ao x)]) (aa (cP (by decide) j) (aa (cv (kz x hx).2) (aa (ku ⟨ky x (kz x hx).1,g⟩) (aa (td (by decide) hx g (by decide)) (aa (bB (kw x hx).1 (kw x hx).2) (aa (gz m) aq)))))) 40 6 [1,2,4,3,4,3,4,4,7,5,9,9,8,6,7,1] [0,1,2,3,4,5] (fun n o f i=>match i with | 0=>(f 5).2.2 1 | 1=>(f 0).2.1+0 | _=>(f 4).2.2 0) (hc:=aS (dK _ _ _ _ _ _))
theorem JF (b c:Bool) (w:Yc) (x:Str) (g i:Nat) (a d:Yb) (p:af) (j:a[i]? = some (.str x g)) (k:d.length≤1000) (hx:x∈iW) (h:ec x="str_iterator"):aL (B0 (W b c w)) 4 (bI (cC w) (p 1 0) (p 3 0) (p 4 0) (p 6 0) [p 13 0]) [(p 1 0,am (.ref (p 2 0)) i),(p 2 0,ab a (p 2 1)),(p 3 0,ab d (p 3 1)),(p 4 0,aw w [] (0)),(p 13 0,aJ (.ref (p 15 0))),(p 15 0,aZ w fun i=>p 15 (i+1))] (fun e=>(.error (bI (cC w) (p 1 0) (p 3 0) (p 4 0) (p 6 0) [p 13 0]),[am (.ref (p 2 0)) (i+1),ab a (p 2 1),ab (d++[.str (ao x) (e 2)]) (e 0),aw w [("name",e 1,.str x g)] 1,aJ (.ref (p 15 0)),aZ w fun i=>p 15 (i+1)],[])):=
 aA (orcs:=[cA 0 1 a i (.str x g),o2 "str.__eq__" x "" fun _=>.bool false,jB "str_iterator" x,pE w "str_iterator" x [6,7,8,4,5],bx 7 "" [kr x,ks x] (ao x),f2 2 d (ao x)]) (aa (cP (by decide) j) (aa (cv (kA x hx).2) (aa (ku ⟨ky x (kA x hx).1,h⟩) (aa (te (by decide) hx h (by decide)) (aa (bB (kx x hx).1 (kx x hx).2) (aa (gz k) aq)))))) 40 6 [1,2,4,3,4,3,4,4,7,5,9,9,8,6,7,1] [0,1,2,3,4,5] (fun n m f i=>match i with | 0=>(f 5).2.2 1 | 1=>(f 0).2.1+0 | _=>(f 4).2.2 0) (hc:=aS (dK _ _ _ _ _ _))
theorem JG (b c:Bool) (w:Yc) (k:Yd) (x:Str) (e i:Nat) (a d:Yb) (p:af) (j:a[i]? = some (.str x e)) (m:d.length≤1000) (hx:x∈iW) (g:ec x="str_iterator"):aL (B0 (W b c w)) 4 (bI (cC w) (p 1 0) (p 3 0) (p 4 0) (p 6 0) [p 13 0]) [(p 1 0,am (.ref (p 2 0)) i),(p 2 0,ab a (p 2 1)),(p 3 0,ab d (p 3 1)),(p 4 0,aw w [("name",p 4 2,k)] (p 4 1)),(p 13 0,aJ (.ref (p 15 0))),(p 15 0,aZ w fun i=>p 15 (i+1))] (fun h=>(.error (bI (cC w) (p 1 0) (p 3 0) (p 4 0) (p 6 0) [p 13 0]),[am (.ref (p 2 0)) (i+1),ab a (p 2 1),ab (d++[.str (ao x) (h 2)]) (h 0),aw w [("name",p 4 2,.str x e)] (p 4 1),aJ (.ref (p 15 0)),aZ w fun i=>p 15 (i+1)],[])):=
 aA (orcs:=[cA 0 1 a i (.str x e),o2 "str.__eq__" x "" fun _=>.bool false,jB "str_iterator" x,pE w "str_iterator" x [6,7,8,4,5],bx 7 "" [kr x,ks x] (ao x),f2 2 d (ao x)]) (aa (cP (by decide) j) (aa (cv (kA x hx).2) (aa (ku ⟨ky x (kA x hx).1,g⟩) (aa (te (by decide) hx g (by decide)) (aa (bB (kx x hx).1 (kx x hx).2) (aa (gz m) aq)))))) 40 6 [1,2,4,3,4,3,4,4,7,5,9,9,8,6,7,1] [0,1,2,3,4,5] (fun n o f i=>match i with | 0=>(f 5).2.2 1 | 1=>(f 0).2.1+0 | _=>(f 4).2.2 0) (hc:=aS (dK _ _ _ _ _ _))
theorem JH (b c:Bool) (w:Yc) (e:Yd) (i:Nat) (a d:Yb) (f:a.length≤i) (p:af):aC (B0 (W b c w)) 4 (bI (cC w) (p 1 0) (p 3 0) (p 4 0) (p 6 0) [p 13 0]) [(p 1 0,am (.ref (p 2 0)) i),(p 2 0,ab a (p 2 1)),(p 3 0,ab d (p 3 1)),(p 4 0,aw w [("name",p 4 2,e)] (p 4 1))] (fun g=>(.next,[am .none i,ab a (p 2 1),ab d (p 3 1),aw w [("name",p 4 2,e)] (p 4 1)],[])):=
 aA (orcs:=[fJ 0 1 a i]) (aa (iJ (by decide) f) aq) 7 1 [1,2,5] [0,1,2,3] (fun _ _ _ _=>0) (hc:=aS (dK _ _ _ _ _ _))
theorem JI (b:Bool) (w:Yc) (a c:Yb) (p:af):aL (B0 (W b false w)) 4 (bj (cC w) (p 1 0) (p 3 0) (p 4 0) (p 6 0) [p 13 0]) [(p 1 0,am (.ref (p 2 0)) 0),(p 2 0,ab a (p 2 1)),(p 3 0,ab c (p 3 1)),(p 4 0,aw w [] (0))] (fun d=>(.error (bI (cC w) (p 1 0) (p 3 0) (p 4 0) (p 6 0) [p 13 0]),[am (.ref (p 2 0)) 0,ab a (p 2 1),ab c (p 3 1),aw w [] (0)],[])):=
 aA (orcs:=[]) aq 14 0 [1,1,0,1,0,43,1,1] [0,1,2,3] (fun _ _ _ _=>0) (hc:=aS (bv _ _ _ _ _ _))
theorem JJ (b:Bool) (w:Yc) (a c:Yb) (p:af):aL (B0 (W b true w)) 4 (bj (cC w) (p 1 0) (p 3 0) (p 4 0) (p 6 0) [p 13 0]) [(p 1 0,am (.ref (p 2 0)) 0),(p 2 0,ab a (p 2 1)),(p 3 0,ab c (p 3 1)),(p 4 0,aw w [] (0))] (fun d=>(.error (bI (cC w) (p 1 0) (p 3 0) (p 4 0) (p 6 0) [p 13 0]),[am (.ref (p 2 0)) 0,ab a (p 2 1),ab c (p 3 1),aw w [] (0)],[])):=
 aA (orcs:=[]) aq 4 0 [1] [0,1,2,3] (fun _ _ _ _=>0) (hc:=aS (bv _ _ _ _ _ _))
end
abbrev SD:=Str×Nat
def pF (d:SD):Yd:=.str d.1 d.2
def pH (d:SD) (a:Ye):Yd:=.str (ao d.1) (a 2)
def nu {δ : Type} (_ : δ) (_:Ye):Ya:=[]
def pI (r:Yg) (g:Ye) (a:Ye):ic:=b5 (d0 pF pH) (df r (fun i=>g (i+1)) 0) ⟨[],0,none⟩ a
def nv (r:Yg) (g a:Ye):Obj:=ab (c0 pH (df r (fun i=>g (i+1)) 0) a) (pI r g a).t
theorem pJ (g:Ye):∀(r:Yg) (i:Nat),(df r g i).length=r.length
 | [],_=>rfl
 | _::r,i=>by show (df r g (i+1)).length+1=_;rw [pJ g r];rfl
theorem A1 (g:Ye):∀(r:Yg) (i:Nat),cO r g i=(df r g i).map pF
 | [],_=>rfl
 | x::r,i=>by show Value.str x (g i)::cO r g (i+1)=Value.str x (g i)::(df r g (i+1)).map pF;rw [A1 g r]
theorem v0 (g:Ye):∀(r:Yg) (i:Nat) (d:SD),d∈df r g i→d.1∈r
 | [],_,_,h=>by cases h
 | x::r,i,d,h=>by
  rcases List.mem_cons.mp h with rfl | h
  ·exact .head _
  ·exact .tail _ (v0 g r (i+1) d h)
theorem A2:∀(b:List SD) (a:Ye),StrsAre (c0 pH b a) (b.map fun d=>ao d.1)
 | [],_=>.nil
 | d::r,a=>.cons _ _ (A2 r (od a))
theorem A3 (g:Ye):∀(r:Yg) (i:Nat),(df r g i).map (fun d=>ao d.1)=r.map ao
 | [],_=>rfl
 | x::r,i=>by show ao x::(df r g (i+1)).map _=ao x::r.map ao;rw [A3 g r]
theorem pK {δ : Type}:∀(b:List δ) (a:Ye),fN nu b a=[]
 | [],_=>rfl
 | _::r,a=>pK r (od a)
def JK:Option (Nat×Nat×Yd)→Nat
 | none=>0
 | some (k,_,_)=>k
def JL:Option (Nat×Nat×Yd)→Nat
 | none=>0
 | some (_,n,_)=>n
def JM:Option (Nat×Nat×Yd)→Yd
 | none=>.none
 | some (_,_,v)=>v
def ed (w:Yc) (a:Str) (v:Option (Nat×Nat×Yd)):Obj:=aw w [(a,JK v,JM v)] (JL v)
theorem A4 {δ : Type} (a : δ→Yd) (b : δ→Ye→Yd):∀(e:List δ) (s:ic) (c:Ye),s.v.isSome=true→(b5 (d0 a b) e s c).v.isSome=true
 | [],_,_,h=>h
 | d::r,s,c,h=>A4 a b r _ _ (by
  show (ll s.v (a d) (ev c 1)).isSome=true
  cases s.v <;> rfl)
theorem pL {δ : Type} (w:Yc) (f:Str) (b : δ→Yd) (a : δ→Ye→Yd) (c:List δ) (t:Nat) (e:Ye) (g:0<c.length):eP w f (b5 (d0 b a) c ⟨[],t,none⟩ e).v=ed w f (b5 (d0 b a) c ⟨[],t,none⟩ e).v:=by
 have h:(b5 (d0 b a) c ⟨[],t,none⟩ e).v.isSome=true:=by
  cases c with
  | nil=>exact absurd g (Nat.lt_irrefl _)
  | cons d r=>exact A4 b a r _ _ rfl
 revert h
 cases (b5 (d0 b a) c ⟨[],t,none⟩ e).v with
 | none=>intro h;cases h
 | some x=>intro _;rfl
def JN (b:af→Code) (w:Yc) (c:Yh) (r:Yg) (g:Ye):aH:=bA b c
 (fun p=>[(p 1 0,am (.ref (p 2 0)) 0),(p 2 0,(aE r g).2),(p 3 0,ab [] 0),(p 4 0,aw w [] 0),(p 5 0,aJ (.ref (p 6 0))),(p 6 0,aZ w fun i=>p 6 (i+2))])
 (fun p a=>(.next,[am .none r.length,(aE r g).2,nv r g a,ed w "name" (pI r g a).v,aJ (.ref (p 6 0)),aZ w fun i=>p 6 (i+2)],[]))
section
def th (w:Yc) (a:Yh) (r:Yg) (g:Ye):aH:=JN (fun p=>bj (cC w) (p 1 0) (p 3 0) (p 4 0) (p 0 3) [p 5 0]) w a r g
def gL (p:af) (t n k:Nat):af:=fun j i=>match j,i with | 3,1=>t | 4,1=>n | 4,2=>k | 6,_=>p 0 3 | 13,_=>p 5 0 | 15,0=>p 6 0 | 15,i+1=>p 6 (i+2) | j,i=>p j i
theorem JO (b c:Bool) (w:Yc) (p:af) {x:Str} (hx:x∈b1) (f i t n k:Nat) (a d:Yb) (g:a[i]? = some (.str x f)) (j:d.length≤1000) :
  aL (B0 (W b c w)) 4 (bI (cC w) (p 1 0) (p 3 0) (p 4 0) (p 0 3) [p 5 0]) [(p 1 0,am (.ref (p 2 0)) i),(p 2 0,ab a (p 2 1)),(p 3 0,ab d t),(p 4 0,aw w [] 0),(p 5 0,aJ (.ref (p 6 0))),(p 6 0,aZ w fun i=>p 6 (i+2))] fun m=>
   (.error (bI (cC w) (p 1 0) (p 3 0) (p 4 0) (p 0 3) [p 5 0]),[am (.ref (p 2 0)) (i+1),ab a (p 2 1),ab (d++[.str (ao x) (m 2)]) (m 0),aw w [("name",m 1,.str x f)] 1,aJ (.ref (p 6 0)),aZ w fun i=>p 6 (i+2)],[]):=by
 rcases A0 x hx with rfl | h | h
 ·exact Jx b c w f i a d (gL p t n k) g j
 ·rcases tf x hx with e | e
  ·exact Jz b c w x f i a d (gL p t n k) g j h e
  ·exact JD b c w x f i a d (gL p t n k) g j h e
 ·rcases tf x hx with e | e
  ·exact JB b c w x f i a d (gL p t n k) g j h e
  ·exact JF b c w x f i a d (gL p t n k) g j h e
theorem JP (b c:Bool) (w:Yc) (p:af) {x:Str} (hx:x∈b1) (g:Yd) (f i t n k:Nat) (a d:Yb) (j:a[i]? = some (.str x f)) (m:d.length≤1000) :
  aL (B0 (W b c w)) 4 (bI (cC w) (p 1 0) (p 3 0) (p 4 0) (p 0 3) [p 5 0]) [(p 1 0,am (.ref (p 2 0)) i),(p 2 0,ab a (p 2 1)),(p 3 0,ab d t),(p 4 0,aw w [("name",k,g)] n),(p 5 0,aJ (.ref (p 6 0))),(p 6 0,aZ w fun i=>p 6 (i+2))] fun o=>
   (.error (bI (cC w) (p 1 0) (p 3 0) (p 4 0) (p 0 3) [p 5 0]),[am (.ref (p 2 0)) (i+1),ab a (p 2 1),ab (d++[.str (ao x) (o 2)]) (o 0),aw w [("name",k,.str x f)] n,aJ (.ref (p 6 0)),aZ w fun i=>p 6 (i+2)],[]):=by
 rcases A0 x hx with rfl | h | h
 ·exact Jy b c w g f i a d (gL p t n k) j m
 ·rcases tf x hx with e | e
  ·exact JA b c w g x f i a d (gL p t n k) j m h e
  ·exact JE b c w g x f i a d (gL p t n k) j m h e
 ·rcases tf x hx with e | e
  ·exact JC b c w g x f i a d (gL p t n k) j m h e
  ·exact JG b c w g x f i a d (gL p t n k) j m h e
def kB (w:Yc) (p:af):Ya:=[(p 5 0,aJ (.ref (p 6 0))),(p 6 0,aZ w fun i=>p 6 (i+2))]
theorem A5 {b c:Bool} {w:Yc} {m:Nat} {C:Yh} {r:Yg} {g:Nat→Nat} (R:C.Nodup) (z:b7 r) (I:4≤m):(th w C r g).Sure (B0 (W b c w)) m:=by
 refine (aH.Sure.le ?_ I:aH.Sure (B0 (W b c w)) m _)
 refine ⟨R,fun p A G h H O d S g' l k Q E nd T N X=>x_call (hd:=none) ?_ (by intro e;cases e)⟩
 have s:∀a∈r,a∈b1:=vV z
 have F:0<r.length:=by rcases z with ⟨a,_,rfl⟩ | ⟨a,_,d,_,rfl⟩ <;> simp
 have J:r.length≤500:=by rcases z with ⟨a,_,rfl⟩ | ⟨a,_,d,_,rfl⟩ <;> simp
 have ndS:((kB w p).map (·.1)).Nodup:=by
  have:(kB w p).Sublist ((th w C r g).objs p):=by
   show (kB w p).Sublist ([_,_,_,_]++kB w p)
   exact List.sublist_append_right _ _
  exact List.Sublist.nodup (this.map _) nd
 have B:=pj (bG (W b c w)) (m:=4) (st:=bj (cC w) (p 1 0) (p 3 0) (p 4 0) (p 0 3) [p 5 0]) (lp:=bI (cC w) (p 1 0) (p 3 0) (p 4 0) (p 0 3) [p 5 0]) w "name" (p 1 0) (p 2 0) (p 3 0) (p 4 0) r.length 0 (cO r (fun i=>g (i+1)) 0) (kB w p) pF (fun _=>kB w p) pH nu (df r (fun i=>g (i+1)) 0) (A1 _ _ _) (by rw [pJ];exact F) (by rw [pJ];exact J)
  (by
   cases c
   ·exact JI b w _ [] (fun j i=>match j,i with | 2,1=>r.length | j,i=>gL p 0 0 0 j i)
   ·exact JJ b w _ [] (fun j i=>match j,i with | 2,1=>r.length | j,i=>gL p 0 0 0 j i))
  (fun i d o t u hx y=>JO b c w (fun j i=>match j,i with | 2,1=>r.length | j,i=>p j i) (s _ (v0 _ _ _ d u)) d.2 i t 0 0 _ o hx y)
  (fun i d o t k n v u hx y=>JP b c w (fun j i=>match j,i with | 2,1=>r.length | j,i=>p j i) (s _ (v0 _ _ _ d u)) v d.2 i t n k _ o hx y)
  (fun i o t k n v L=>JH b c w v i _ o L (fun j i=>match j,i with | 2,1=>r.length | j,i=>gL p t n k j i))
  (fun d u=>⟨fun q U=>U,ndS⟩)
 refine B A G h H O d S _ nd T N fun K D f le Y V y P => ?_
 refine X K D f (fun e=>by cases e) le Y (fun x hx=>V x ?_) (fun _ h=>nomatch h) List.nodup_nil
 show x∈((([(p 1 0,am (.ref (p 2 0)) 0),(p 2 0,(aE r g).2),(p 3 0,ab [] 0),(p 4 0,aw w [] 0)]++kB w p).map (·.1)).zip ([am .none (df r (fun i=>g (i+1)) 0).length,(aE r g).2,nv r g f,eP w "name" (pI r g f).v]++bH (kB w p)))
 have Z:eP w "name" (pI r g f).v=ed w "name" (pI r g f).v:=pL w "name" pF pH _ 0 f (by rw [pJ];exact F)
 rw [pJ,Z]
 exact hx
end
section
theorem JQ (b c:Bool) (w:Yc) (r:Yg) (i:Nat) (d e:Yb) (p:af) (h:d[i]? = some (.ref (p 5 0))) (k:e.length≤1000) (g:b7 r):aL (B0 (W b c w)) 5 (bI (g3 w) (p 1 0) (p 3 0) (p 4 0) (p 6 0) [p 13 0]) [(p 1 0,am (.ref (p 2 0)) i),(p 2 0,ab d (p 2 1)),(p 3 0,ab e (p 3 1)),(p 4 0,aw w [] (0)),aE r (p 5),(p 13 0,aJ (.ref (p 15 0))),(p 15 0,aZ w fun i=>p 15 (i+1))] (fun a=>(.error (bI (g3 w) (p 1 0) (p 3 0) (p 4 0) (p 6 0) [p 13 0]),[am (.ref (p 2 0)) (i+1),ab d (p 2 1),ab (e++[.ref (a 2)]) (a 0),aw w [("row",a 1,.ref (p 5 0))] 1,(aE r (p 5)).2,aJ (.ref (p 15 0)),aZ w fun i=>p 15 (i+1)],[(a 2,nv r (p 5) fun i=>a (i+3))])):=
 aA (orcs:=[cA 0 1 d i (.ref (p 5 0)),th w [7,4,8,9,5,6] r (p 5),lj 2 e]) (aa (cP (by decide) h) (aa (A5 (by decide) g (by decide)) (aa (m0 k) aq))) 34 3 [1,2,4,3,4,5,5,0,5,0,23,8,3,10,10,9,4,1] [0,1,2,3,4,5,6,8] (fun n m f i=>match i with | 0=>(f 2).2.2 1 | 1=>(f 0).2.1+0 | 2=>(f 0).1+1 | j+3=>(f 1).2.2 j) (hc:=aS (dK _ _ _ _ _ _))
theorem JR (b c:Bool) (w:Yc) (k:Yd) (r:Yg) (i:Nat) (a e:Yb) (p:af) (h:a[i]? = some (.ref (p 5 0))) (m:e.length≤1000) (g:b7 r):aL (B0 (W b c w)) 5 (bI (g3 w) (p 1 0) (p 3 0) (p 4 0) (p 6 0) [p 13 0]) [(p 1 0,am (.ref (p 2 0)) i),(p 2 0,ab a (p 2 1)),(p 3 0,ab e (p 3 1)),(p 4 0,aw w [("row",p 4 2,k)] (p 4 1)),aE r (p 5),(p 13 0,aJ (.ref (p 15 0))),(p 15 0,aZ w fun i=>p 15 (i+1))] (fun d=>(.error (bI (g3 w) (p 1 0) (p 3 0) (p 4 0) (p 6 0) [p 13 0]),[am (.ref (p 2 0)) (i+1),ab a (p 2 1),ab (e++[.ref (d 2)]) (d 0),aw w [("row",p 4 2,.ref (p 5 0))] (p 4 1),(aE r (p 5)).2,aJ (.ref (p 15 0)),aZ w fun i=>p 15 (i+1)],[(d 2,nv r (p 5) fun i=>d (i+3))])):=
 aA (orcs:=[cA 0 1 a i (.ref (p 5 0)),th w [7,4,8,9,5,6] r (p 5),lj 2 e]) (aa (cP (by decide) h) (aa (A5 (by decide) g (by decide)) (aa (m0 m) aq))) 34 3 [1,2,4,3,4,5,5,0,5,0,23,8,3,10,10,9,4,1] [0,1,2,3,4,5,6,8] (fun n o f i=>match i with | 0=>(f 2).2.2 1 | 1=>(f 0).2.1+0 | 2=>(f 0).1+1 | j+3=>(f 1).2.2 j) (hc:=aS (dK _ _ _ _ _ _))
theorem JS (b c:Bool) (w:Yc) (e:Yd) (i:Nat) (a d:Yb) (f:a.length≤i) (p:af):aC (B0 (W b c w)) 5 (bI (g3 w) (p 1 0) (p 3 0) (p 4 0) (p 6 0) [p 13 0]) [(p 1 0,am (.ref (p 2 0)) i),(p 2 0,ab a (p 2 1)),(p 3 0,ab d (p 3 1)),(p 4 0,aw w [("row",p 4 2,e)] (p 4 1))] (fun g=>(.next,[am .none i,ab a (p 2 1),ab d (p 3 1),aw w [("row",p 4 2,e)] (p 4 1)],[])):=
 aA (orcs:=[fJ 0 1 a i]) (aa (iJ (by decide) f) aq) 7 1 [1,2,5] [0,1,2,3] (fun _ _ _ _=>0) (hc:=aS (dK _ _ _ _ _ _))
theorem JT (b:Bool) (w:Yc) (a c:Yb) (p:af):aL (B0 (W b false w)) 5 (bj (g3 w) (p 1 0) (p 3 0) (p 4 0) (p 6 0) [p 13 0]) [(p 1 0,am (.ref (p 2 0)) 0),(p 2 0,ab a (p 2 1)),(p 3 0,ab c (p 3 1)),(p 4 0,aw w [] (0))] (fun d=>(.error (bI (g3 w) (p 1 0) (p 3 0) (p 4 0) (p 6 0) [p 13 0]),[am (.ref (p 2 0)) 0,ab a (p 2 1),ab c (p 3 1),aw w [] (0)],[])):=
 aA (orcs:=[]) aq 14 0 [1,1,0,1,0,43,1,1] [0,1,2,3] (fun _ _ _ _=>0) (hc:=aS (bv _ _ _ _ _ _))
theorem JU (b:Bool) (w:Yc) (a c:Yb) (p:af):aL (B0 (W b true w)) 5 (bj (g3 w) (p 1 0) (p 3 0) (p 4 0) (p 6 0) [p 13 0]) [(p 1 0,am (.ref (p 2 0)) 0),(p 2 0,ab a (p 2 1)),(p 3 0,ab c (p 3 1)),(p 4 0,aw w [] (0))] (fun d=>(.error (bI (g3 w) (p 1 0) (p 3 0) (p 4 0) (p 6 0) [p 13 0]),[am (.ref (p 2 0)) 0,ab a (p 2 1),ab c (p 3 1),aw w [] (0)],[])):=
 aA (orcs:=[]) aq 4 0 [1] [0,1,2,3] (fun _ _ _ _=>0) (hc:=aS (bv _ _ _ _ _ _))
end
theorem aL.nd {B:bf} {m:Nat} {c:Code} {a:Ya} {out:Ye→eZ} (h:(a.map (·.1)).Nodup→aL B m c a out):aL B m c a out:=
 fun A i g e f d b R nd=>h nd A i g e f d b R nd
theorem JV {R:Yi} {g:Nat→Nat} {x:Addr×Obj} (h:x∈be R g) {l:Ya} (nd:((l++be R g).map (·.1)).Nodup):((x::l).map (·.1)).Nodup:=by
 rw [List.map_append,List.nodup_append] at nd
 rw [List.map_cons,List.nodup_cons]
 exact ⟨fun a=>nd.2.2 _ a _ (List.mem_map_of_mem h) rfl,nd.1⟩
def nw (d:RD) (a:Ye):Ya:=[(a 2,nv d.1 d.2 fun i=>a (i+3))]
def nx (R:Yi) (g:Ye) (b:Nat) (a:Ye):ic:=b5 (d0 f3 eQ) (b9 R g) ⟨[],b,none⟩ a
def JW (b:af→Code) (w:Yc) (c:Yh) (R:Yi) (g:Ye):aH:=bA b c
 (fun p=>[(p 1 0,am (.ref (p 2 0)) 0),(p 2 0,ab (aT R g) (p 2 1)),(p 3 0,ab [] (p 3 1)),(p 4 0,aw w [] 0),(p 5 0,aJ (.ref (p 6 0))),(p 6 0,aZ w fun i=>p 6 (i+2))])
 (fun p a=>(.next,[am .none R.length,ab (aT R g) (p 2 1),ab (c0 eQ (b9 R g) a) (nx R g (p 3 1) a).t,ed w "row" (nx R g (p 3 1) a).v,aJ (.ref (p 6 0)),aZ w fun i=>p 6 (i+2)],fN nw (b9 R g) a))
section
def A6 (w:Yc) (a:Yh) (R:Yi) (g:Ye):aH:=JW (fun p=>bj (g3 w) (p 1 0) (p 3 0) (p 4 0) (p 0 3) [p 5 0]) w a R g
def pM (p:af) (d:Ye) (t n k:Nat):af:=fun j i=>match j,i with | 3,1=>t | 4,1=>n | 4,2=>k | 5,i=>d i | 6,_=>p 0 3 | 13,_=>p 5 0 | 15,0=>p 6 0 | 15,i+1=>p 6 (i+2) | j,i=>p j i
theorem JX {b c:Bool} {w:Yc} {m:Nat} {y:Yh} {R:Yi} {g:Nat→Nat} (C:y.Nodup) (u:∀r∈R,b7 r) (x:0<R.length) (A:R.length≤500) (z:5≤m):(A6 w y R g).SureF (B0 (W b c w)) m (be R g):=by
 refine (pd C (fun _ _=>rfl) fun p=>aL.nd fun nd => ?_:aH.SureF (B0 (W b c w)) 5 _ _).le z
 have h:(([(p 5 0,aJ (.ref (p 6 0))),(p 6 0,aZ w fun i=>p 6 (i+2))]++be R g).map (·.1)).Nodup:=by
  refine List.Sublist.nodup (List.Sublist.map _ ?_) nd
  show List.Sublist _ ([_,_,_,_]++([_,_]++be R g))
  exact List.sublist_append_right _ _
 have j:=pj (bG (W b c w)) (m:=5) (st:=bj (g3 w) (p 1 0) (p 3 0) (p 4 0) (p 0 3) [p 5 0]) (lp:=bI (g3 w) (p 1 0) (p 3 0) (p 4 0) (p 0 3) [p 5 0]) w "row" (p 1 0) (p 2 0) (p 3 0) (p 4 0) (p 2 1) (p 3 1) (aT R g) ([(p 5 0,aJ (.ref (p 6 0))),(p 6 0,aZ w fun i=>p 6 (i+2))]++be R g) f3 (fun d=>[aE d.1 d.2,(p 5 0,aJ (.ref (p 6 0))),(p 6 0,aZ w fun i=>p 6 (i+2))]) eQ nw (b9 R g) (sJ _ _).symm (by rw [f4];exact x) (by rw [f4];exact A)
  (by
   cases c
   ·exact JT b w _ [] (pM p id (p 3 1) 0 0)
   ·exact JU b w _ [] (pM p id (p 3 1) 0 0))
  (fun i d e t a hx s=>JQ b c w d.1 i _ e (pM p d.2 t 0 0) hx s (u _ (iN _ _ d a).2))
  (fun i d e t k n v a hx s=>JR b c w v d.1 i _ e (pM p d.2 t n k) hx s (u _ (iN _ _ d a).2))
  (fun i e t k n v B=>JS b c w v i _ e B (pM p id t n k))
  (fun d a=>⟨fun q o=>by
   rcases List.mem_cons.mp o with rfl | o
   ·exact List.mem_append_right _ (iN _ _ d a).1
   ·exact List.mem_append_left _ o,JV (iN _ _ d a).1 h⟩)
 refine aL.re (out:=_) j fun f=>⟨f,?_⟩
 have D:eP w "row" (nx R g (p 3 1) f).v=ed w "row" (nx R g (p 3 1) f).v:=pL w "row" f3 eQ _ _ f (by rw [f4];exact x)
 show (_,[am .none R.length,_,_,ed w "row" (nx R g (p 3 1) f).v,_,_]++_,_)=_
 rw [f4,←D]
 rfl
end
def bT (R:Yi) (g:Ye) (b:Nat) (a:Ye):ic:=b5 (d0 f3 eQ) (b9 R g) ⟨[],b,none⟩ a
def JY (b:af→Code) (w:Yc) (c:Yh) (R:Yi) (g:Ye):aH:=bA b c
 (fun p=>[(p 1 0,am (.ref (p 2 0)) 0),(p 2 0,ab (aT R g) (p 2 1)),(p 3 0,ab [] (p 3 1)),(p 4 0,aw w [] 0)])
 (fun p a=>(.next,[am .none R.length,ab (aT R g) (p 2 1),ab (aT (R.map (·.map ao)) a) (bT R g (p 3 1) a).t,ed w "row" (bT R g (p 3 1) a).v],be (R.map (·.map ao)) a))
section
def A7 (w:Yc) (a:Yh) (R:Yi) (g:Ye):aH:=JY (fun p=>fd (fM w) (p 1 0) (p 3 0) (p 4 0) (p 0 3)) w a R g
theorem JZ {b c:Bool} {w:Yc} {m:Nat} {y:Yh} {R:Yi} {g:Nat→Nat} (C:y.Nodup) (u:∀r∈R,b7 r) (x:0<R.length) (A:R.length≤500) (z:3≤m):(A7 w y R g).SureF (B0 (W b c w)) m (be R g):=by
 refine (pd C (fun _ _=>rfl) fun p => ?_:aH.SureF (B0 (W b c w)) 3 _ _).le z
 have o:=pj (bG (W b c w)) (m:=3) (st:=fd (fM w) (p 1 0) (p 3 0) (p 4 0) (p 0 3)) (lp:=dZ (fM w) (p 1 0) (p 3 0) (p 4 0) (p 0 3)) w "row" (p 1 0) (p 2 0) (p 3 0) (p 4 0) (p 2 1) (p 3 1) (aT R g) (be R g) f3 m2 eQ (sI fun d=>d.1.map ao) (b9 R g) (sJ _ _).symm (by rw [f4];exact x) (by rw [f4];exact A)
  (by
   cases c
   ·exact FY b w _ [] (fun j i=>match j,i with | 6,_=>p 0 3 | j,i=>p j i)
   ·exact FZ b w _ [] (fun j i=>match j,i with | 6,_=>p 0 3 | j,i=>p j i))
  (fun i d e t f hx s=>FV b c w d.1 i _ e (fun j k=>match j,k with | 3,1=>t | 5,k=>d.2 k | 6,_=>p 0 3 | j,k=>p j k) hx s (u _ (iN _ _ d f).2))
  (fun i d e t k n v f hx s=>FW b c w v d.1 i _ e (fun j a=>match j,a with | 3,1=>t | 4,1=>n | 4,2=>k | 5,a=>d.2 a | 6,_=>p 0 3 | j,a=>p j a) hx s (u _ (iN _ _ d f).2))
  (fun i e t k n v B=>FX b c w v i _ e B (fun j a=>match j,a with | 3,1=>t | 4,1=>n | 4,2=>k | 6,_=>p 0 3 | j,a=>p j a))
  (fun d f=>⟨fun q D=>by
   have:q=aE d.1 d.2:=by simpa [m2] using D
   rw [this]
   exact (iN _ _ d f).1,by simp [m2]⟩)
 refine aL.re (out:=_) o fun h=>⟨h,?_⟩
 have E:eP w "row" (bT R g (p 3 1) h).v=ed w "row" (bT R g (p 3 1) h).v:=pL w "row" f3 eQ _ _ h (by rw [f4];exact x)
 rw [vb fun d=>d.1.map ao,vc,zz (fun r=>r.map ao),f4]
 show (_,[_,_,_,ed w "row" (bT R g (p 3 1) h).v]++_,_)=_
 rw [←E]
 rfl
end
def f9:Yi→Ye→Ye→List iU
 | [],_,_=>[]
 | r::l,g,g'=>(r,(fun i=>ev g (i+2)),(fun i=>ev g' (i+2)))::f9 l (od g) (od g')
theorem nz:∀(R:Yi) (g a:Ye),(f9 R g a).length=R.length
 | [],_,_=>rfl
 | _::l,g,a=>by show (f9 l (od g) (od a)).length+1=_;rw [nz l];rfl
theorem v9:∀(R:Yi) (g a:Ye),(f9 R g a).map (fun d=>Value.ref (d.2.1 0))=aT R g
 | [],_,_=>rfl
 | r::l,g,a=>by show Value.ref (ev g 2)::(f9 l (od g) (od a)).map _=Value.ref (ev g 2)::aT l (od g);rw [v9 l]
theorem A8:∀(R:Yi) (g a:Ye),(f9 R g a).map (fun d=>Value.ref (d.2.2 0))=aT (R.map (·.map ao)) a
 | [],_,_=>rfl
 | r::l,g,a=>by show Value.ref (ev a 2)::(f9 l (od g) (od a)).map _=Value.ref (ev a 2)::aT (l.map (·.map ao)) (od a);rw [A8 l]
theorem A9:∀(R:Yi) (g e:Ye) (d:iU),d∈f9 R g e→aE d.1 d.2.1∈be R g∧aE (d.1.map ao) d.2.2∈be (R.map (·.map ao)) e∧d.1∈R
 | [],_,_,_,h=>by cases h
 | r::l,g,e,d,h=>by
  rcases List.mem_cons.mp h with rfl | h
  ·exact ⟨.head _,.head _,.head _⟩
  ·obtain ⟨a,b,c⟩:=A9 l (od g) (od e) d h
   exact ⟨.tail _ a,.tail _ b,.tail _ c⟩
theorem Ba (f:Yg→Str):∀(R:Yi) (g a:Ye),(f9 R g a).map (fun d=>f d.1)=R.map f
 | [],_,_=>rfl
 | r::l,g,a=>by show f r::(f9 l (od g) (od a)).map _=f r::l.map f;rw [Ba f l]
def kT (j:Nat):Option (Nat×Nat×Nat×Yd×Yd×Yd)→Nat
 | none=>0
 | some (a,b,c,_,_,_)=>aB [a,b,c] j
def kV (j:Nat):Option (Nat×Nat×Nat×Yd×Yd×Yd)→Yd
 | none=>.none
 | some (_,_,_,a,b,c)=>match j with | 0=>a | 1=>b | _=>c
def ti (p:af) (k:Option (Nat×Nat×Nat×Yd×Yd×Yd)):List (Str×Nat×Yd):=[("script",p 8 2,.ref (p 8 3)),("rows",p 8 4,.ref (p 6 0)),("written",p 8 6,.ref (p 7 0)),("row",kT 0 k,kV 0 k),("parts",kT 1 k,kV 1 k),("path",kT 2 k,kV 2 k)]
theorem J0 (p:af) {k:Option (Nat×Nat×Nat×Yd×Yd×Yd)} (h:k.isSome=true):kq p k=ti p k:=by
 cases k with
 | none=>cases h
 | some x=>rfl
def gM (d:iU) (s:gK) (a:Ye):gK:=nr d s (nt s.k a)
theorem Bb:∀(b:List iU) (s:gK) (a:Ye),s.k.isSome=true→(b5 gM b s a).k.isSome=true
 | [],_,_,h=>h
 | d::r,s,a,h=>Bb r _ _ (by
  show (nr d s (nt s.k (ev a))).k.isSome=true
  obtain ⟨u,v,e,c,k,n⟩:=s
  cases k <;> rfl)
theorem J1 (a:List iU) (s:gK) (b:Ye) (c:0<a.length):(b5 gM a s b).k.isSome=true:=by
 cases a with
 | nil=>exact absurd c (Nat.lt_irrefl _)
 | cons d r=>exact Bb r _ _ (by
   show (nr d s (nt s.k (ev b))).k.isSome=true
   obtain ⟨u,v,f,e,k,n⟩:=s
   cases k <;> rfl)
theorem Bc {a:Yb} (h:Hp a) (d:bk a) (e:a.length≤90) (x:Str) (t:Nat):Hp (iS a x t)∧bk (iS a x t)∧(iS a x t).length=a.length+1∧((iS a x t).map sv).Perm (a.map sv++[x]):=by
 obtain ⟨q1,q2⟩:=Hv h d e x t
 refine ⟨q1,fun v c => ?_,?_,?_⟩
 ·rcases List.mem_append.mp (q2.mem_iff.mp c) with b | b
  ·exact d v b
  ·exact ⟨x,t,by simpa using b⟩
 ·have:=q2.length_eq
  rw [List.length_append] at this
  exact this
 ·have:=q2.map sv
  rw [List.map_append] at this
  exact this
theorem Bd:∀(b:List iU) (s:gK) (a:Ye),Hp s.hv→bk s.hv→s.hv.length+b.length≤90→
  Hp (b5 gM b s a).hv∧bk (b5 gM b s a).hv∧(b5 gM b s a).hv.length=s.hv.length+b.length∧((b5 gM b s a).hv.map sv).Perm (s.hv.map sv++b.map fun d=>aU (d.1.map ao))
 | [],s,a,h,c,_=>⟨h,c,rfl,by rw [List.map_nil,List.append_nil];exact List.Perm.refl _⟩
 | d::r,s,a,h,c,hb=>by
  rw [List.length_cons] at hb
  obtain ⟨j,m,e,i⟩:=Bc h c (by lia) (aU (d.1.map ao)) (nt s.k (ev a) 3)
  obtain ⟨f,k,n,g⟩:=Bd r (gM d s (ev a)) (od a) j m (by
   show (iS s.hv _ _).length+_≤90
   rw [e];lia)
  refine ⟨f,k,?_,?_⟩
  ·show (b5 gM r (gM d s (ev a)) (od a)).hv.length=_
   rw [n]
   show (iS s.hv _ _).length+_=_
   rw [e,List.length_cons];lia
  ·show ((b5 gM r (gM d s (ev a)) (od a)).hv.map sv).Perm _
   refine g.trans ?_
   rw [List.map_cons]
   have:=i.append_right (r.map fun d=>aU (d.1.map ao))
   rw [List.append_assoc] at this
   exact this
section
def qD (p:af):af:=fun j i=>match j,i with | 13,_=>p 0 4 | j,i=>p j i
def tj (p:af):gK:=⟨.none,.none,[],p 10 1,none,p 8 1⟩
def fD (R:Yi) (g b:Ye) (p:af) (a:Ye):gK:=b5 gM (f9 R g b) (tj p) a
def J2 (c:af→Code) (w:Yc) (d:Yh) (R:Yi) (g a:Ye):aH:=bA c d
 (fun p=>ik w (qD p) (aT R g) (aT (R.map (·.map ao)) a) 0 (tj p))
 (fun p b=>(.next,[ba (p 2 0) (p 3 0),az [.ref (p 4 0),.ref (p 5 0)] 0,az [(fD R g a p b).u,(fD R g a p b).v] 0,am .none R.length,am (.ref (p 7 0)) R.length,ab (aT R g) (p 6 1),ab (aT (R.map (·.map ao)) a) (p 7 1),aG w (ti p (fD R g a p b).k) (fD R g a p b).n,aJ (.ref (p 10 0)),ab (fD R g a p b).hv (fD R g a p b).hn],[]))
def Be (w:Yc) (a:Yh) (R:Yi) (g b:Ye):aH:=J2 (fun p=>im w (qD p)) w a R g b
theorem J3 {b c:Bool} {w:Yc} {m:Nat} {A:Yh} {R:Yi} {g a:Nat→Nat} (K:A.Nodup) (J:∀r∈R,b7 r) (N:0<R.length) (P:R.length≤90) (E:5≤m):(Be w A R g a).SureF (B0 (W b c w)) m (be R g++be (R.map (·.map ao)) a):=by
 refine (pd K (fun _ _=>rfl) fun p=>aL.nd fun nd => ?_:aH.SureF (B0 (W b c w)) 5 _ _).le E
 have ndS:((be R g++be (R.map (·.map ao)) a).map (·.1)).Nodup:=List.Sublist.nodup (List.Sublist.map _ (List.sublist_append_right _ _)) nd
 have z:(aT R g).length=R.length:=by rw [←v9 R g a,List.length_map,nz]
 have L:=sH (bG (W b c w)) (m:=5) (code:=im w (qD p)) (be R g++be (R.map (·.map ao)) a) (fun i s=>ik w (qD p) (aT R g) (aT (R.map (·.map ao)) a) i s) (fun s=>AQ w (qD p) (aT R g) (aT (R.map (·.map ao)) a) s) gM jA nu
  (fun i d _=>d∈f9 R g a∧(aT R g)[i]? = some (.ref (d.2.1 0))∧(aT (R.map (·.map ao)) a)[i]? = some (.ref (d.2.2 0))) (fun i s=>s.hv.length=i∧Hp s.hv∧bk s.hv) R.length (fun _ _ _ _=>rfl)
  (fun i d s O o u=>by
   obtain ⟨y,x,C⟩:=A9 R g a d u.1
   refine ⟨fun q t => ?_,?_,fun n => ?_,IQ b c w (qD p) (J _ C) (by have:=o.1;lia) o.2.2 u.2.1 u.2.2⟩
   ·rcases List.mem_cons.mp t with rfl | t
    ·exact List.mem_append_left _ y
    ·have:q=aE (d.1.map ao) d.2.2:=by simpa using t
     rw [this];exact List.mem_append_right _ x
   ·rw [List.map_append,List.nodup_append] at ndS
    have H:=ndS.2.2 _ (List.mem_map_of_mem (f:=(·.1)) y) _ (List.mem_map_of_mem (f:=(·.1)) x)
    show [(aE d.1 d.2.1).1,(aE (d.1.map ao) d.2.2).1].Nodup
    rw [List.nodup_cons]
    exact ⟨fun h=>H (by simpa using h),by simp⟩
   ·obtain ⟨F,G,D,_⟩:=Bc o.2.1 o.2.2 (by have:=o.1;lia) (aU (d.1.map ao)) (nt s.k n 3)
    exact ⟨by show (iS s.hv _ _).length=i+1;rw [D,o.1],F,G⟩)
  (fun s o=>by
   have:=IR b c w (qD p) s (aT R g) (aT (R.map (·.map ao)) a)
   rw [z] at this
   exact this)
  (fun _ _=>rfl) (f9 R g a) 0 (tj p) (by rw [nz];lia) ⟨rfl,(fun j _ I=>absurd I (Nat.not_lt_zero j)),fun _ h=>nomatch h⟩
  (fun k d e _=>⟨List.mem_of_getElem? e,by rw [←v9 R g a,Nat.zero_add,List.getElem?_map,e];rfl,by rw [←A8 R g a,Nat.zero_add,List.getElem?_map,e];rfl⟩)
 refine aL.re (out:=_) L fun n=>⟨n,?_⟩
 rw [pK]
 have B:kq (qD p) (fD R g a p n).k=ti p (fD R g a p n).k:=J0 (qD p) (J1 _ _ n (by rw [nz];exact N))
 show (_,[_,_,_,am .none R.length,am _ R.length,_,_,aG w (ti p (fD R g a p n).k) _,_,_]++_,_)=(_,[_,_,_,am .none (aT R g).length,am _ (aT R g).length,_,_,aG w (kq (qD p) (fD R g a p n).k) _,_,_]++_,_)
 rw [z,B]
 rfl
end
section
open PySem PySem.W PySem.W.X PyProof.Rows Srt
section
def lz (b:Yh) (R:Yi) (g:Ye):aH:=bA (fun p=>.call (.builtin "sorted") ⟨[.ref (p 1 0)],[]⟩) b (fun p=>[(p 1 0,ab (aT R g) (p 1 1))])
 (fun p a=>(.ret (.ref (a 0)),[ab (aT R g) (p 1 1)],[(a 0,ab (f6 (aT R g) (perm R)) (a 1))]))
theorem wa {B:bf} {m:Nat} {J:Yh} {R:Yi} {g:Nat→Nat} (np:J.Nodup) (h2:2≤R.length) (h64:R.length<64) (hm:1≤m):(lz J R g).SureF B m (be R g):=by
 refine ⟨np,fun p A P h w G d I g' l k Q E nd hn hB hS _ _ hR=>d7 ?_⟩
 have K:h.get? (p 1 0)=some (ab (aT R g) (p 1 1)):=(hn _ (.head _)).1
 have O:=ls R g
 have c:∀i,i<R.length→∃a z,(aT R g).getD i .none = .ref a∧h.get? a=some (ab (cO (R.getD i []) z 0) (R.getD i []).length):=fun i f=>by
  obtain ⟨D,e1,L,Y,_⟩:=vE R g i R[i] (List.getElem?_eq_getElem f)
  have q:=(hS _ Y).1
  refine ⟨D.2 0,fun j=>D.2 (j+1),?_,?_⟩
  ·simp [List.getD,L]
  ·have:R.getD i []=R[i]:=by simp [List.getD,f]
   rw [this];exact q
 have hu:A.units<9100:=by have:=P.2.2;lia
 refine Hs (s:=⟨h,G,d,w,I⟩) (vs:=aT R g) (n:=p 1 1) (lt:=fun i j=>aP (R.getD i []) (R.getD j [])) K (by lia) (by lia) (vz fun i=>R.getD i []) (fun H hH i j f hj C U => ?_) (fun v X => ?_) (fun V e F N o => ?_)
 ·obtain ⟨a,z,u,y⟩:=c i (by lia)
  obtain ⟨b,gj,T,Z⟩:=c j (by lia)
  unfold kas_ask
  rw [u,T]
  refine HV (s:=⟨H,G,d,w,I⟩) ?_ (hH _ _ y) (hH _ _ Z) U
  show A.units+1+1<cLine
  have:cLine=9900:=rfl
  lia
 ·obtain ⟨i,f,e⟩:=List.getElem_of_mem X
  obtain ⟨a,z,u,y⟩:=c i (by lia)
  refine ⟨a,_,?_,y,rfl⟩
  rw [←e,←u]
  simp [List.getD,f]
 ·have ep:ff (fun i j=>aP (R.getD i []) (R.getD j [])) (kas_sort (aT R g).length)=ff (fun i j=>aP (R.getD i []) (R.getD j [])) (kas_sort R.length):=by rw [O]
  rw [ep] at o
  refine hR V w (fun i=>match i with | 0=>h.objs.size+1 | _=>e) (fun e=>by cases e) N (fun b S q _=>F b S q) (fun x hx => ?_) (fun x hx => ?_) (by simp [lz,bA])
  ·have t:x=(p 1 0,ab (aT R g) (p 1 1)):=by simpa [lz,bA] using hx
   rw [t]
   exact F _ _ K
  ·have:x=(h.objs.size+1,ab (f6 (aT R g) (perm R)) e):=by simpa [lz,bA] using hx
   subst this
   exact ⟨o,Nat.le_succ _⟩
def cz (R:Yi) (g:Ye):List RD:=(perm R).map fun i=>(b9 R g).getD i ([],id)
theorem wb {R:Yi} (h:0<R.length) {i:Nat} (a:i∈perm R):i<R.length:=List.mem_range.mp ((nj R h).mem_iff.mp a)
theorem Bf {R:Yi} (h:0<R.length):(perm R).length=R.length:=by rw [(nj R h).length_eq,List.length_range]
theorem wc {R:Yi} (g:Ye) (h:0<R.length):(cz R g).map f3=f6 (aT R g) (perm R):=by
 unfold cz f6
 rw [List.map_map]
 refine List.map_congr_left fun i c => ?_
 have b:=wb h c
 show f3 ((b9 R g).getD i ([],id))=(aT R g).getD i .none
 rw [←sJ]
 have a:i<(b9 R g).length:=by rw [f4];exact b
 simp [List.getD,a]
theorem pN {R:Yi} {g:Nat→Nat} (h:0<R.length) {d:RD} (b:d∈cz R g):aE d.1 d.2∈be R g∧d.1∈R:=by
 obtain ⟨i,c,rfl⟩:=List.mem_map.mp b
 have a:i<(b9 R g).length:=by rw [f4];exact wb h c
 have:(b9 R g).getD i ([],id)=(b9 R g)[i]:=by simp [List.getD,a]
 rw [this]
 exact iN R g _ (List.getElem_mem a)
theorem wd:∀(R:Yi) (g:Ye) (i:Nat),((b9 R g)[i]?).map (·.1)=R[i]?
 | [],_,_=>rfl
 | r::l,g,0=>rfl
 | r::l,g,i+1=>wd l (od g) i
theorem Bg {R:Yi} (g:Ye) (h:0<R.length):(cz R g).map (·.1)=ih R:=by
 unfold cz ih
 rw [List.map_map]
 refine List.map_congr_left fun i c => ?_
 show ((b9 R g).getD i ([],id)).1=R.getD i []
 have:=wd R g i
 have b:=wb h c
 have a:i<(b9 R g).length:=by rw [f4];exact b
 rw [List.getElem?_eq_getElem a,List.getElem?_eq_getElem b] at this
 have e:((b9 R g)[i]).1=R[i]:=Option.some.inj this
 simp only [List.getD,List.getElem?_eq_getElem a,List.getElem?_eq_getElem b,Option.getD_some]
 exact e
theorem jD {R:Yi} (g:Ye) (h:0<R.length):(cz R g).length=R.length:=by unfold cz;rw [List.length_map,Bf h]
def gc (d:RD) (ax:Ye):Yd:=.str (aU d.1) (ax 2)
theorem Bh:∀(b:List RD) (a:Ye),StrsAre (c0 gc b a) (b.map fun d=>aU d.1)
 | [],_=>.nil
 | d::r,a=>.cons _ _ (Bh r (od a))
def eT (R:Yi) (g:Ye) (b:Nat) (a:Ye):ic:=b5 (d0 f3 gc) (cz R g) ⟨[],b,none⟩ a
def J4 (b:af→Code) (w:Yc) (c:Yh) (R:Yi) (g:Ye):aH:=bA b c
 (fun p=>[(p 1 0,am (.ref (p 2 0)) 0),(p 2 0,ab (f6 (aT R g) (perm R)) (p 2 1)),(p 3 0,ab [] (p 3 1)),(p 4 0,aw w [] 0)])
 (fun p a=>(.next,[am .none R.length,ab (f6 (aT R g) (perm R)) (p 2 1),ab (c0 gc (cz R g) a) (eT R g (p 3 1) a).t,ed w "parts" (eT R g (p 3 1) a).v],[]))
def Bi (w:Yc) (a:Yh) (R:Yi) (g:Ye):aH:=J4 (fun p=>bj (g4 w) (p 1 0) (p 3 0) (p 4 0) (p 0 3) []) w a R g
def qE (p:af) (d:Ye) (t n k:Nat):af:=fun j i=>match j,i with | 3,1=>t | 4,1=>n | 4,2=>k | 5,i=>d i | 6,_=>p 0 3 | j,i=>p j i
theorem J5 {b c:Bool} {w:Yc} {m:Nat} {u:Yh} {R:Yi} {g:Nat→Nat} (A:u.Nodup) (s:∀r∈R,cB r) (a:0<R.length) (y:R.length≤500) (x:4≤m):(Bi w u R g).SureF (B0 (W b c w)) m (be R g):=by
 refine (pd A (fun _ _=>rfl) fun p => ?_:aH.SureF (B0 (W b c w)) 4 _ _).le x
 have j:=pj (bG (W b c w)) (m:=4) (st:=bj (g4 w) (p 1 0) (p 3 0) (p 4 0) (p 0 3) []) (lp:=bI (g4 w) (p 1 0) (p 3 0) (p 4 0) (p 0 3) []) w "parts" (p 1 0) (p 2 0) (p 3 0) (p 4 0) (p 2 1) (p 3 1) (f6 (aT R g) (perm R)) (be R g) f3 m2 gc nu (cz R g) (wc g a).symm (by rw [jD g a];exact a) (by rw [jD g a];exact y)
  (by
   cases c
   ·exact IW b w _ [] (qE p id (p 3 1) 0 0)
   ·exact IX b w _ [] (qE p id (p 3 1) 0 0))
  (fun i d e t f hx o=>IT b c w d.1 i _ e (qE p d.2 t 0 0) hx o (s _ (pN a f).2))
  (fun i d e t k n v f hx o=>IU b c w v d.1 i _ e (qE p d.2 t n k) hx o (s _ (pN a f).2))
  (fun i e t k n v z=>IV b c w v i _ e z (qE p id t n k))
  (fun d f=>⟨fun q B=>by
   have:q=aE d.1 d.2:=by simpa [m2] using B
   rw [this]
   exact (pN a f).1,by simp [m2]⟩)
 refine aL.re (out:=_) j fun h=>⟨h,?_⟩
 have C:eP w "parts" (eT R g (p 3 1) h).v=ed w "parts" (eT R g (p 3 1) h).v:=pL w "parts" f3 gc _ _ h (by rw [jD g a];exact a)
 rw [jD g a,pK]
 show (_,[_,_,_,ed w "parts" (eT R g (p 3 1) h).v]++_,_)=_
 rw [←C]
 rfl
end
end
section
open PySem PySem.W PySem.W.X PyProof.Rows Srt
structure nA where
 c:ic
 L:Yb
 hn:Nat
def g6 (d:Yd) (s:nA) (a:Ye):nA:=⟨⟨s.c.as++[dO s.L],a 0,ll s.c.v d (a 1)⟩,dB s.L,a 2⟩
theorem Bj:∀(b:Yb) (s:nA) (a:Ye),(b5 g6 b s a).L=fS b.length s.L∧(b5 g6 b s a).c.as=s.c.as++fR b.length s.L
 | [],s,_=>⟨rfl,(List.append_nil _).symm⟩
 | d::r,s,a=>by
  obtain ⟨f,e⟩:=Bj r (g6 d s (ev a)) (od a)
  refine ⟨f,?_⟩
  show (b5 g6 r (g6 d s (ev a)) (od a)).c.as=s.c.as++(dO s.L::fR r.length (dB s.L))
  rw [e]
  show s.c.as++[dO s.L]++_=_
  rw [←List.append_cons]
  rfl
theorem Bk:∀(b:Yb) (s:nA) (a:Ye),s.c.v.isSome=true→(b5 g6 b s a).c.v.isSome=true
 | [],_,_,h=>h
 | d::r,s,a,h=>Bk r _ _ (by
  show (ll s.c.v d (ev a 1)).isSome=true
  cases s.c.v <;> rfl)
theorem J6 (w:Yc) (e:Str) (a:Yb) (s:nA) (b:Ye) (f:0<a.length):eP w e (b5 g6 a s b).c.v=ed w e (b5 g6 a s b).c.v:=by
 have h:(b5 g6 a s b).c.v.isSome=true:=by
  cases a with
  | nil=>exact absurd f (Nat.lt_irrefl _)
  | cons d r=>exact Bk r _ _ (by
   show (ll s.c.v d (ev b 1)).isSome=true
   cases s.c.v <;> rfl)
 revert h
 cases (b5 g6 a s b).c.v with
 | none=>intro h;cases h
 | some x=>intro _;rfl
section
def eR (p:af) (b L:Yb) (a:Ye):nA:=b5 g6 b ⟨⟨[],p 3 1,none⟩,L,p 6 1⟩ a
def J7 (d:af→Code) (w:Yc) (e:Yh) (a L:Yb):aH:=bA d e
 (fun p=>[(p 1 0,am (.ref (p 2 0)) 0),(p 2 0,ab a (p 2 1)),(p 3 0,ab [] (p 3 1)),(p 4 0,aw w [] 0),(p 5 0,aJ (.ref (p 6 0))),(p 6 0,ab L (p 6 1))])
 (fun p b=>(.next,[am .none a.length,ab a (p 2 1),ab (fR a.length L) (eR p a L b).c.t,ed w "row" (eR p a L b).c.v,aJ (.ref (p 6 0)),ab (fS a.length L) (eR p a L b).hn],[]))
def Bl (w:Yc) (b:Yh) (a L:Yb):aH:=J7 (fun p=>bj (gJ w) (p 1 0) (p 3 0) (p 4 0) (p 0 3) [p 5 0]) w b a L
def qF (p:af) (a t n k b:Nat):af:=fun j i=>match j,i with | 3,1=>t | 4,1=>n | 4,2=>k | 5,_=>a | 6,_=>p 0 3 | 7,_=>p 5 0 | 8,0=>p 6 0 | 8,1=>b | j,i=>p j i
theorem J8 {b c:Bool} {w:Yc} {m:Nat} {N:Yh} {f L:Yb} (np:N.Nodup) (U:∀v∈f,∃a,v = .ref a) (K:0<f.length) (hl:L.length=f.length) (hb:L.length≤90) (S:Hp L) (Y:bk L) (R:5≤m):(Bl w N f L).Sure (B0 (W b c w)) m:=by
 refine (bS np fun p => ?_:aH.Sure (B0 (W b c w)) 5 _).le R
 have O:=bG (W b c w)
 have LL:=sH O (m:=5) (code:=bI (gJ w) (p 1 0) (p 3 0) (p 4 0) (p 0 3) [p 5 0]) [] (fun i s=>[(p 1 0,am (.ref (p 2 0)) i),(p 2 0,ab f (p 2 1)),(p 3 0,ab s.c.as s.c.t),(p 4 0,eP w "row" s.c.v),(p 5 0,aJ (.ref (p 6 0))),(p 6 0,ab s.L s.hn)])
  (fun s=>[am .none f.length,ab f (p 2 1),ab s.c.as s.c.t,eP w "row" s.c.v,aJ (.ref (p 6 0)),ab s.L s.hn]) g6 (fun _=>[]) nu (fun i d _=>d∈f∧f[i]? = some d) (fun i s=>s.c.as.length=i∧(0<i→s.c.v.isSome=true)∧s.L.length+i=f.length∧Hp s.L∧bk s.L) f.length (fun _ _ _ _=>rfl)
  (fun i d s hi B H=>by
   obtain ⟨⟨y,t,v⟩,j,F⟩:=s
   obtain ⟨G,i2,I,i4,E⟩:=B
   have A:0<j.length:=by simp only at I;lia
   have C:j.length≤90:=by simp only at I;lia
   obtain ⟨q1,q2⟩:=vB i4 E A C
   have ql:(dB j).length+1=j.length:=by have:=q2.length_eq;rw [List.length_cons] at this;exact this
   obtain ⟨x,J,hx⟩:=IS A E
   obtain ⟨a,V⟩:=U d H.1
   refine ⟨(fun _ h=>nomatch h),List.nodup_nil,fun q=>⟨?_,fun _ => ?_,?_,q1,fun u X=>E u (q2.mem_iff.mp (.tail _ X))⟩,?_⟩
   ·show (y++[dO j]).length=i+1
    rw [List.length_append];simp only at G;rw [G];rfl
   ·show (ll v d (q 1)).isSome=true
    cases v <;> rfl
   ·show (dB j).length+(i+1)=f.length
    simp only at I;lia
   ·subst V
    have D:y.length≤1000:=by simp only at G;lia
    cases v with
    | none=>
     have:=IY b c w x J j i f y (qF p a t 0 0 F) H.2 D A C E hx
     show aL _ _ _ _ fun q=>(_,[_,_,ab (y++[dO j]) _,_,_,_]++[],[])
     rw [hx]
     exact this
    | some z=>
     obtain ⟨k,n,v⟩:=z
     have:=IZ b c w v x J j i f y (qF p a t n k F) H.2 D A C E hx
     show aL _ _ _ _ fun q=>(_,[_,_,ab (y++[dO j]) _,_,_,_]++[],[])
     rw [hx]
     exact this)
  (fun s B=>by
   obtain ⟨⟨y,t,v⟩,j,F⟩:=s
   cases v with
   | none=>have:=B.2.1 K;cases this
   | some z=>
    obtain ⟨k,n,v⟩:=z
    exact aL.lift (need:=[(p 1 0,am (.ref (p 2 0)) f.length),(p 2 0,ab f (p 2 1)),(p 3 0,ab y t),(p 4 0,aw w [("row",k,v)] n)]) (src:=[]) [(p 5 0,aJ (.ref (p 6 0))),(p 6 0,ab j F)] (k:=fun _=>.ok .next) (o:=fun _=>[am .none f.length,ab f (p 2 1),ab y t,aw w [("row",k,v)] n]) (ads:=fun _=>[]) (I0 b c w v f.length f y (Nat.le_refl _) (qF p 0 t n k F)) (fun _=>rfl) (fun _ h=>nomatch h) List.nodup_nil)
  (fun _ _=>rfl) f 0 ⟨⟨[],p 3 1,none⟩,L,p 6 1⟩ (by lia) ⟨rfl,fun h=>absurd h (Nat.lt_irrefl _),by lia,S,Y⟩ (fun k d e _=>⟨List.mem_of_getElem? e,by rw [Nat.zero_add];exact e⟩)
 have T:aL (B0 (W b c w)) 5 (bj (gJ w) (p 1 0) (p 3 0) (p 4 0) (p 0 3) [p 5 0]) ([(p 1 0,am (.ref (p 2 0)) 0),(p 2 0,ab f (p 2 1)),(p 3 0,ab [] (p 3 1)),(p 4 0,aw w [] 0)]++[(p 5 0,aJ (.ref (p 6 0))),(p 6 0,ab L (p 6 1))]) fun _=>(.error (bI (gJ w) (p 1 0) (p 3 0) (p 4 0) (p 0 3) [p 5 0]),[am (.ref (p 2 0)) 0,ab f (p 2 1),ab [] (p 3 1),aw w [] 0]++[aJ (.ref (p 6 0)),ab L (p 6 1)],[]):=
  aL.lift [(p 5 0,aJ (.ref (p 6 0))),(p 6 0,ab L (p 6 1))] (src:=[]) (k:=fun _=>.error _) (o:=fun _=>[am (.ref (p 2 0)) 0,ab f (p 2 1),ab [] (p 3 1),aw w [] 0]) (ads:=fun _=>[]) (by
   cases c
   ·exact I1 b w f [] (qF p 0 (p 3 1) 0 0 (p 6 1))
   ·exact I2 b w f [] (qF p 0 (p 3 1) 0 0 (p 6 1))) (fun _=>rfl) (fun _ h=>nomatch h) List.nodup_nil
 refine aL.andThen O T (fun _=>rfl) (fun _=>rfl) (out2:=fun _ q=>(.ok .next,[am .none f.length,ab f (p 2 1),ab (eR p f L q).c.as (eR p f L q).c.t,eP w "row" (eR p f L q).c.v,aJ (.ref (p 6 0)),ab (eR p f L q).L (eR p f L q).hn],[])) (fun _ => ?_) (fun _ g=>⟨g,?_⟩)
 ·exact aL.re LL fun q=>⟨q,by rw [pK];rfl⟩
 ·obtain ⟨Q,P⟩:=Bj f ⟨⟨[],p 3 1,none⟩,L,p 6 1⟩ g
  have Z:=J6 w "row" f ⟨⟨[],p 3 1,none⟩,L,p 6 1⟩ g K
  show (_,[_,_,ab (fR f.length L) _,ed w "row" (eR p f L g).c.v,_,ab (fS f.length L) _],_)=(_,[_,_,ab (eR p f L g).c.as _,eP w "row" (eR p f L g).c.v,_,ab (eR p f L g).L _],_)
  rw [show (eR p f L g).c.as=fR f.length L from P,show (eR p f L g).L=fS f.length L from Q,show eP w "row" (eR p f L g).c.v=_ from Z]
  rfl
end
end
section
open SeqAt MeetsSeq3
abbrev c7:=Int×Nat
abbrev bu:=Yi
section
variable {B:bf} {m:Nat}
def lA (d e:Nat) (a b:af→Yb):aH:=
 {code:=fun p=>.call (.builtin "list.__add__") ⟨[.ref (p 1 0),.ref (p 2 0)],[]⟩,pl:=[d,e],objs:=fun p=>[(p 1 0,ab (a p) (p 1 1)),(p 2 0,ab (b p) (p 2 1))],strm:=true,
  out:=fun p c=>(.ret (.ref (c 0)),[ab (a p) (p 1 1),ab (b p) (p 2 1)],[(c 0,ab (a p++b p) 0)])}
theorem Bm {u n:Nat} {a c:af→Yb} (x:u≠n) (z:∀p,(a p).length+(c p).length≤1000):(lA u n a c).Sure B m:=by
 refine ⟨by simp [lA,x],fun p A D h f s d t g H k Q E nd w _ C=>d7 ?_⟩
 have j:h.get? (p 1 0)=some (ab (a p) (p 1 1)):=(w _ (.head _)).1
 have o:h.get? (p 2 0)=some (ab (c p) (p 2 1)):=(w _ (.tail _ (.head _))).1
 refine call_meets F.slot_list_add (show Shared.TypeIs ⟨h,s,d,f,t⟩ (.ref (p 1 0)) "list" from ⟨_,j,rfl⟩) F.entry_list_add (F.args_list_add_2 _ _) (AutoSeq1.list___add___list_list_0 (p 1 0) (a p).toArray (p 1 1) (p 2 0) (c p).toArray (p 2 1) (by rw [List.size_toArray,List.size_toArray];exact Nat.le_trans (z p) (by decide))) ⟨j,o,?_⟩
 have e:({cls:=.type "list",data:=.seq ((a p).toArray++(c p).toArray)}:Obj)=ab (a p++c p) 0:=by unfold ab;simp
 show wpAny B.M A (k (.ok (.ret (.ref h.objs.size)))) Q E ⟨h.push {cls:=.type "list",data:=.seq ((a p).toArray++(c p).toArray)},s,d,f,t⟩
 rw [e]
 refine C _ f (fun _=>h.objs.size) (fun e=>by cases e) (by rw [Heap.size_push];exact Nat.le_succ _) (fun b G q _=>Heap.get?_push_of_some _ q) (fun y i => ?_) (fun y i => ?_) (by simp [lA])
 ·have:y=(p 1 0,ab (a p) (p 1 1))∨y=(p 2 0,ab (c p) (p 2 1)):=by simpa [lA] using i
  rcases this with rfl | rfl
  ·exact Heap.get?_push_of_some _ j
  ·exact Heap.get?_push_of_some _ o
 ·have:y=(h.objs.size,ab (a p++c p) 0):=by simpa [lA] using i
  subst this
  exact ⟨Heap.get?_push_size _ rfl,Nat.le_refl _⟩
end
def J9:List Int:=[131,6,14,8,37,75]
def jE (f:Ye):List c7:=[(131,f 2),(6,f 3),(14,f 4),(8,f 5),(37,f 6),(75,f 7)]
def kC (f:Ye):Yb:=[.int 131 (f 2),.int 6 (f 3),.int 14 (f 4),.int 8 (f 5),.int 37 (f 6),.int 75 (f 7)]
theorem Ka (f:Ye):(jE f).map cx=kC f:=rfl
def eU (a:List c7):Yi:=((a.take 6).map (·.1)++J9).map fK
def nB (l:List c7) (c:List c7) (b:Nat) (a:Ye):ic:=b5 (d0 cx eQ) (c.take 6++l) ⟨[],b,none⟩ a
def Kb (c:af→Code) (w:Yc) (d:Yh) (a:List c7):aH:=bA c d
 (fun p=>[(p 1 0,am (.ref (p 2 0)) 0),(p 2 0,ab ((a.take 6).map cx++kC (p 5)) (p 2 1)),(p 3 0,ab [] (p 3 1)),(p 4 0,aw w [] 0),(p 5 0,ab (kC (p 5)) (p 5 1))])
 (fun p b=>(.next,[am .none (eU a).length,ab ((a.take 6).map cx++kC (p 5)) (p 2 1),ab (aT (eU a) b) (nB (jE (p 5)) a (p 3 1) b).t,ed w "x" (nB (jE (p 5)) a (p 3 1) b).v,ab (kC (p 5)) (p 5 1)],be (eU a) b))
theorem Bn (f:Ye) (a:List c7):(a.take 6++jE f).map (fun d=>fK d.1)=eU a:=by
 unfold eU
 rw [List.map_append,List.map_append,List.map_map]
 rfl
theorem pR (f:Ye) (a:List c7):(a.take 6++jE f).length=(eU a).length:=by rw [←Bn f a,List.length_map]
theorem we (a:List c7):6≤(eU a).length∧(eU a).length≤12:=by
 rw [←pR id a,List.length_append,List.length_take]
 show 6≤min 6 a.length+6∧min 6 a.length+6≤12
 lia
theorem Kc (a:List c7):slicePick (a.map cx).toArray none (some 6) none=((a.take 6).map cx).toArray:=by
 have:=slicePick_upto' (a.map cx).toArray 6
 rw [List.map_take]
 exact this
theorem wf {R:Yi} (a:∀r∈R,b7 r):∀r∈R.map (·.map ao),cB r:=fun r h=>by
 obtain ⟨q,b,rfl⟩:=List.mem_map.mp h
 exact gF (a q b)
theorem Bp (D:Yb):slicePick D.toArray (some 1) none none=(D.drop 1).toArray:=slicePick_from' D.toArray 1
theorem Bq:∀(R:Yi) (g:Ye),∀v∈aT R g,∃a,v = .ref a
 | [],_,_,h=>by cases h
 | _::l,g,v,h=>by
  rcases List.mem_cons.mp h with rfl | h
  ·exact ⟨_,rfl⟩
  ·exact Bq l (od g) v h
def Br (L:Yb) (y x:Str) (b j:Nat):aH:=bA (fun p=>.call (.ref 121) ⟨[.ref (p 1 0),.str y (p 0 1)],[]⟩) [j] (fun p=>[(p 1 0,ab L (p 1 1))]) (fun p a=>(.ret (.str x b),[ab (cI L y (p 0 1)) (a 0)],[]))
theorem Kd {b c:Bool} {w:Yc} {m:Nat} {L:Yb} {y x:Str} {a j:Nat} (e:0<L.length) (g:L.length≤90) (f:bk L) (hx:dO L = .str x a) (d:4≤m):(Br L y x a j).Sure (B0 (W b c w)) m:=by
 have:=HH (b:=b) (c:=c) (w:=w) (y:=y) (j:=j) e g f d
 unfold Au at this
 rw [hx] at this
 exact this
section
def Bs (w:Yc) (b:Yh) (a:List c7):aH:=Kb (fun p=>fd (fL w) (p 1 0) (p 3 0) (p 4 0) (p 0 3)) w b a
theorem Ke {b c:Bool} {w:Yc} {m:Nat} {s:Yh} {e:List c7} (A:s.Nodup) (x:2≤m):(Bs w s e).Sure (B0 (W b c w)) m:=by
 refine (bS A fun p => ?_:aH.Sure (B0 (W b c w)) 2 _).le x
 have u:=we e
 have o:=pj (bG (W b c w)) (m:=2) (st:=fd (fL w) (p 1 0) (p 3 0) (p 4 0) (p 0 3)) (lp:=dZ (fL w) (p 1 0) (p 3 0) (p 4 0) (p 0 3)) w "x" (p 1 0) (p 2 0) (p 3 0) (p 4 0) (p 2 1) (p 3 1) ((e.take 6).map cx++kC (p 5)) [(p 5 0,ab (kC (p 5)) (p 5 1))] cx (fun _=>[]) eQ (sI fun d=>fK d.1) (e.take 6++jE (p 5)) (by rw [List.map_append,Ka]) (by rw [pR];lia) (by rw [pR];lia)
  (by
   cases c
   ·exact FO b w _ [] (fun j i=>match j,i with | 5,_=>p 0 3 | j,i=>p j i)
   ·exact FP b w _ [] (fun j i=>match j,i with | 5,_=>p 0 3 | j,i=>p j i))
  (fun i d f t z hx q=>FL b c w d.1 d.2 i _ f hx q (fun j k=>match j,k with | 3,1=>t | 5,_=>p 0 3 | j,k=>p j k))
  (fun i d f t k n v z hx q=>FM b c w v d.1 d.2 i _ f hx q (fun j a=>match j,a with | 3,1=>t | 4,1=>n | 4,2=>k | 5,_=>p 0 3 | j,a=>p j a))
  (fun i f t k n v y=>FN b c w v i _ f y (fun j a=>match j,a with | 3,1=>t | 4,1=>n | 4,2=>k | 5,_=>p 0 3 | j,a=>p j a))
  (fun d _=>⟨(fun _ h=>nomatch h),List.nodup_nil⟩)
 refine aL.re (out:=_) o fun g=>⟨g,?_⟩
 have C:eP w "x" (nB (jE (p 5)) e (p 3 1) g).v=ed w "x" (nB (jE (p 5)) e (p 3 1) g).v:=pL w "x" cx eQ _ _ g (by rw [pR];lia)
 rw [vb fun d=>fK d.1,vc,Bn,pR]
 show (_,[_,_,_,ed w "x" (nB (jE (p 5)) e (p 3 1) g).v,_],_)=_
 rw [←C]
 rfl
end
end
section
open SeqAt MeetsSeq3
open AutoSeq1 (wpAny_loadPart')
theorem Kf (a:Yg):aP a []=false:=by cases a <;> rfl
theorem Kg (l b:Addr) (a j:Yb) (m J:Yg) (n n2:Nat) (L:StrsAre a m) (N:StrsAre j J) (k:Nat) :
  ∀i:Nat,i≤m.length→i≤J.length→m.length-i=k→Meets (Builtin.«list.__eq__.loop» ⟨[.ref l,.ref b,rawInt i,rawInt 4],[]⟩)
   (fun A R s=>s.heap.get? l=some (ab a n)∧s.heap.get? b=some (ab j n2)∧R (.ok (.ret (.bool (aP (J.drop i) (m.drop i))))) s):=by
 have lv:=hZ L
 have lw:=hZ N
 induction k with
 | zero=>
  intro i hx V Z prog w A R s h
  obtain ⟨Y,g,d,U,X⟩:=s;obtain ⟨f,c,h⟩:=h
  unfold ab at f c
  wp_walk using wpAny_loadPart' f,wpAny_loadPart' c
  have D:a[i]? = none:=List.getElem?_eq_none (by omega)
  have C:a.toArray[((i:Nat):Int).toNat]? = none:=by rw [Int.toNat_natCast,List.getElem?_toArray];exact D
  have P:m.drop i=[]:=List.drop_of_length_le (by omega)
  rw [P,Kf] at h
  rw [C]
  wp_walk using wpAny_loadPart' f,wpAny_loadPart' c
  show R (.ok (.ret (.bool (decide (j.toArray.size<a.toArray.size))))) _
  have:decide (j.toArray.size<a.toArray.size)=false:=by
   rw [List.size_toArray,List.size_toArray]
   exact decide_eq_false (by omega)
  rw [this]
  exact h
 | succ k S=>
  intro i hx V Z prog w A R s h
  obtain ⟨Y,g,d,U,X⟩:=s;obtain ⟨f,c,h⟩:=h
  have K:=f
  have I:=c
  unfold ab at f c
  wp_walk using wpAny_loadPart' f,wpAny_loadPart' c
  obtain ⟨x,t,ev,O⟩:∃x t,a[i]? = some (.str x t)∧m[i]? = some x:=by
   rcases mT L i with h | h
   ·have:=List.getElem?_eq_none_iff.mp h.2;omega
   ·exact h
  have C:a.toArray[((i:Nat):Int).toNat]? = some (.str x t):=by rw [Int.toNat_natCast,List.getElem?_toArray];exact ev
  rw [sx O] at h
  rw [C]
  rcases mT N i with ⟨G,p⟩ | ⟨y,u,G,p⟩
  ·have B:j.toArray[((i:Nat):Int).toNat]? = none:=by rw [Int.toNat_natCast,List.getElem?_toArray];exact G
   rw [B]
   rw [y7 p,mU] at h
   wp_walk using wpAny_loadPart' f,wpAny_loadPart' c
   show R (.ok (.ret (.bool (decide (j.toArray.size<a.toArray.size))))) _
   have:decide (j.toArray.size<a.toArray.size)=decide (0<(x::m.drop (i+1)).length):=by
    rw [List.size_toArray,List.size_toArray]
    have:=List.getElem?_eq_none_iff.mp p
    have ix:=(List.getElem?_eq_some_iff.mp O).1
    rw [List.length_cons]
    exact decide_eq_decide.mpr (by omega)
   rw [this]
   exact h
  ·have B:j.toArray[((i:Nat):Int).toNat]? = some (.str y u):=by rw [Int.toNat_natCast,List.getElem?_toArray];exact G
   rw [B]
   rw [sx p] at h
   have T:((i:Int)+1)=((i+1:Nat):Int):=by push_cast;rfl
   refine wpAny_bind (eqBool_str ?_)
   have H:(y==x)=(x==y):=by
    by_cases e:x=y
    ·subst e;rfl
    ·rw [beq_eq_false_iff_ne.mpr e,beq_eq_false_iff_ne.mpr fun q=>e q.symm]
   unfold aP at h
   rw [H] at h
   cases o:x==y with
   | true=>
    rw [o,if_pos rfl] at h
    wp_walk
    rw [T]
    exact ⟨plainId_quiet plain_eq_loop _,codeAny_builtin entry_eq_loop (by
     rw [Around.under_plainId plain_eq_loop _]
     have iy:=(List.getElem?_eq_some_iff.mp p).1
     exact S (i+1) (by omega) (by omega) (by omega) prog w A R _ ⟨K,I,h⟩)⟩
   | false=>
    rw [o,if_neg (by decide)] at h
    wp_walk using wpAny_loadPart' f,wpAny_loadPart' c
    rw [C,B]
    refine wpAny_bind (richCompare_gives (op:=.Gt) (typeIs_str _ _ _) (typeIs_str _ _ _) F.slot_str_gt F.entry_str_gt (F.args_str_gt_2 _ _) (gives_str_gt _ _ _ _) (fun z=>nomatch z) ?_)
    exact wpAny_pure h
theorem Kh (l b:Addr) (a j:Yb) (c i:Yg) (n n2:Nat) (m:StrsAre a c) (o:StrsAre j i) :
  Meets (Builtin.«list.__gt__» ⟨[.ref l,.ref b],[]⟩)
   (fun A R s=>s.heap.get? l=some (ab a n)∧s.heap.get? b=some (ab j n2)∧R (.ok (.ret (.bool (aP i c)))) s):=by
 intro prog w A R s h
 obtain ⟨u,g,d,p,t⟩:=s;obtain ⟨f,e,h⟩:=h
 have k:=And.intro f e
 unfold ab at f e
 have q:=AutoSeq1.sub_list_list
 wp_walk using wpAny_loadPart' f,wpAny_loadPart' e
 exact ⟨plainId_quiet plain_eq_loop _,codeAny_builtin entry_eq_loop (by
  rw [Around.under_plainId plain_eq_loop _]
  exact Kg l b a j c i n n2 m o _ 0 (Nat.zero_le _) (Nat.zero_le _) rfl prog w A R _ ⟨k.1,k.2,h⟩)⟩
section
variable {prog:Program} {w:Yc} {A:Around} {E:Yd→Shared→Prop} {Q:Yd→Shared→Prop}
theorem Ki {s:Shared} {l a b:Addr} {vs ws:Yb} {xs ys:Yg} {n n2 ln:Nat} (hh:A.handled=none) (hu:A.units+10<cLine) (hl:s.heap.get? l=some (ab [.ref a,.ref b] ln)) (ha:s.heap.get? a=some (ab vs n)) (hb:s.heap.get? b=some (ab ws n2)) (hv:StrsAre vs xs) (hw:StrsAre ws ys)
  (O:∀D,(∀c o,s.heap.get? c=some o→D.get? c=some o)→s.heap.objs.size≤D.objs.size→Q (.ref (match (aP ys xs) with | true=>b | false=>a)) {s with heap:=D}):wpAny (model prog w) A (call (.builtin "min") [.ref l]) Q E s:=by
 have i:(toString "min" ++ toString ".loop" : String)="min.loop" := by decide
 have hL:s.heap.IsList l #[.ref a,.ref b]:=⟨_,hl,rfl,ln,rfl⟩
 have hu1:A.in1.units<cLine:=by
  show A.units+1<cLine
  omega
 refine call_function_tree F.kind_min F.plain_min F.entry_min (F.args_min1 _) ?_
 show wpAny _ A.in1 (Builtin.Builtins.bindParams "min" ["key","default"] 0 ⟨[],[]⟩ >>= _) _ _ s
 refine wpAny_bind (wpAny_of_eq (show Builtin.Builtins.bindParams "min" ["key","default"] 0 ⟨[],[]⟩=pure [none,none] from rfl) ?_)
 refine wpAny_bind (wpAny_pure ?_)
 refine wpAny_bind (wpAny_pyIter_list hL ?_)
 refine wpAny_bind (wpAny_newObj_type ?_)
 rw [i]
 generalize C:(s.heap.push {cls:=.type "list_iterator",data:=.fields #[.ref l,.int 0 0]})=g
 have N:g.objs.size=s.heap.objs.size+1:=by rw [←C];exact Heap.size_push _ _
 have H:∀c o,s.heap.get? c=some o→g.get? c=some o:=fun c o e=>by rw [←C];exact Heap.get?_push_of_some _ e
 have hI1:g.IsListIter s.heap.objs.size l 0:=by rw [←C];exact ⟨_,Heap.get?_push_size _ rfl,rfl,rfl⟩
 have lt:∀{c o},s.heap.get? c=some o→c<s.heap.objs.size:=fun e=>Heap.lt_size e
 have le1:s.heap.objs.size≤g.objs.size:=by rw [N];exact Nat.le_succ _
 have cS:∀{c o},s.heap.get? c=some o→c≠g.objs.size:=fun e=>Nat.ne_of_lt (Nat.lt_of_lt_of_le (lt e) le1)
 have Iz:s.heap.objs.size≠g.objs.size:=by rw [N];exact Nat.ne_of_lt (Nat.lt_succ_self _)
 have nS:g.objs.size≠s.heap.objs.size:=fun e=>Iz e.symm
 refine wpAny_pure ⟨plainId_quiet F.plain_min_loop _,?_⟩
 have I:(g.push {cls:=.type "list",data:=.seq #[]}).get? g.objs.size=some {cls:=.type "list",data:=.seq #[]}:=Heap.get?_push_size _ rfl
 have T:(g.push {cls:=.type "list",data:=.seq #[]}).IsListIter s.heap.objs.size l 0:=hI1.at fun o e=>Heap.get?_push_of_some _ e
 have m:∀c o,s.heap.get? c=some o→(g.push {cls:=.type "list",data:=.seq #[]}).get? c=some o:=fun c o e=>Heap.get?_push_of_some _ (H c o e)
 generalize (g.push {cls:=.type "list",data:=.seq #[]})=H2 at I T m ⊢
 refine codeAny_builtin F.entry_min_loop ?_
 rw [Around.under_plainId F.plain_min_loop _]
 show wpAny _ A.in1 (seqItems? (.ref g.objs.size) >>= _) _ _ _
 refine wpAny_bind (wpAny_seqItems I rfl ?_)
 show wpAny _ A.in1 (tryCatch (pyNext (.ref s.heap.objs.size)) _ >>= _) _ _ _
 refine wpAny_bind (wpAny_tryCatch (wpAny_pyNext_list_item T (hL.at fun o e=>m _ _ e) (x:=.ref a) rfl fun z U X => ?_))
 have V:=(X.2 _ nS).trans I
 have J:∀c o,s.heap.get? c=some o→z.get? c=some o:=fun c o e=>(X.2 c (Nat.ne_of_lt (lt e))).trans (m c o e)
 show wpAny _ A.in1 (updateSeq g.objs.size (fun _=>#[.ref a,.ref a]) >>= _) _ _ _
 refine wpAny_bind ?_
 refine wpAny_updateSeq V rfl ?_
 rw [i]
 refine wpAny_pure ⟨plainId_quiet F.plain_min_loop _,?_⟩
 have S:=Heap.SameBut.update (h:=z) (a:=g.objs.size) (f:=Obj.mapSeq fun _=>#[.ref a,.ref a])
 have B:(z.update g.objs.size (Obj.mapSeq fun _=>#[.ref a,.ref a])).get? g.objs.size=some {cls:=.type "list",data:=.seq #[.ref a,.ref a] 1}:=Heap.get?_update_self _ V rfl
 have j:∀c o,s.heap.get? c=some o→(z.update g.objs.size (Obj.mapSeq fun _=>#[.ref a,.ref a])).get? c=some o:=fun c o e=>(S.2 c (cS e)).trans (J c o e)
 have u:(z.update g.objs.size (Obj.mapSeq fun _=>#[.ref a,.ref a])).IsListIter s.heap.objs.size l 1:=U.at fun o e=>(S.2 _ Iz).trans e
 show codeAny (model prog w) _ _ _ ⟨z.update g.objs.size (Obj.mapSeq fun _=>#[.ref a,.ref a]),_,_,_,_⟩
 generalize (z.update g.objs.size (Obj.mapSeq fun _=>#[.ref a,.ref a]))=H4 at B j u ⊢
 have t:∀(x:Addr) (k:Nat) (P:Heap),P.get? g.objs.size=some {cls:=.type "list",data:=.seq #[.ref x,.ref x] k}→(∀c o,s.heap.get? c=some o→P.get? c=some o)→P.IsListIter s.heap.objs.size l 2→(∀D,(∀c o,s.heap.get? c=some o→D.get? c=some o)→s.heap.objs.size≤D.objs.size→Q (.ref x) {s with heap:=D})→
   codeAny (model prog w) A (.builtin "min.loop" ⟨[.ref s.heap.objs.size,.none,.ref g.objs.size],[]⟩) (wants Q E) {s with heap:=P}:=fun x k P q d p hQ5=>by
  refine codeAny_builtin F.entry_min_loop ?_
  rw [Around.under_plainId F.plain_min_loop _]
  show wpAny _ A.in1 (seqItems? (.ref g.objs.size) >>= _) _ _ _
  refine wpAny_bind (wpAny_seqItems q rfl ?_)
  show wpAny _ A.in1 (tryCatch (pyNext (.ref s.heap.objs.size)) _ >>= _) _ _ _
  refine wpAny_bind (wpAny_tryCatch (wpAny_pyNext_list_end hh p (hL.at fun o e=>d _ _ e) rfl fun h6 Y => ?_))
  have L:=Y _ _ nS q
  have G:∀c o,s.heap.get? c=some o→h6.get? c=some o:=fun c o e=>Y c o (Nat.ne_of_lt (lt e)) (d c o e)
  show wpAny _ A.in1 (updateSeq g.objs.size (fun _=>#[]) >>= _) _ _ _
  refine wpAny_bind ?_
  refine wpAny_updateSeq L rfl (wpAny_bind (PySem.wpAny_letGo (wpAny_pure ?_)))
  have R:=Heap.SameBut.update (h:=h6) (a:=g.objs.size) (f:=Obj.mapSeq fun _=>#[])
  refine hQ5 _ (fun c o e=>(R.2 c (cS e)).trans (G c o e)) ?_
  rw [R.1]
  exact Nat.le_of_lt (Nat.lt_of_le_of_lt le1 (Heap.lt_size L))
 refine codeAny_builtin F.entry_min_loop ?_
 rw [Around.under_plainId F.plain_min_loop _]
 show wpAny _ A.in1 (seqItems? (.ref g.objs.size) >>= _) _ _ _
 refine wpAny_bind (wpAny_seqItems B rfl ?_)
 show wpAny _ A.in1 (tryCatch (pyNext (.ref s.heap.objs.size)) _ >>= _) _ _ _
 refine wpAny_bind (wpAny_tryCatch (wpAny_pyNext_list_item u (hL.at fun o e=>j _ _ e) (x:=.ref b) rfl fun h5 p Z => ?_))
 have q:=(Z.2 _ nS).trans B
 have d:∀c o,s.heap.get? c=some o→h5.get? c=some o:=fun c o e=>(Z.2 c (Nat.ne_of_lt (lt e))).trans (j c o e)
 show wpAny _ A.in1 (tryCatch (holding [.ref b,.ref b] (richCompare .Lt (.ref b) (.ref a) >>= _)) _ >>= _) _ _ _
 refine wpAny_bind (wpAny_tryCatch (wpAny_holding (wpAny_bind (richCompare_meets_room (op:=.Lt) ⟨_,d _ _ hb,rfl⟩ ⟨_,d _ _ ha,rfl⟩ F.slot_list_lt F.entry_list_lt (F.args_list_lt_2 _ _) (y8 b a ws vs ys xs n2 n hw hv) ⟨d _ _ hb,d _ _ ha,(fun x=>nomatch x),?_⟩ hu1))))
 refine wpAny_bind (wpAny_holding (wpAny_truthy_bool ?_))
 refine wpAny_bind (PySem.wpAny_letGo (wpAny_pure ?_))
 revert O
 cases (aP ys xs) with
 | true=>
  intro O
  simp only [if_true]
  refine wpAny_bind ?_
  refine wpAny_updateSeq q rfl (wpAny_bind (PySem.wpAny_letGo ?_))
  rw [i]
  have K:=Heap.SameBut.update (h:=h5) (a:=g.objs.size) (f:=Obj.mapSeq fun _=>#[.ref b,.ref b])
  exact wpAny_pure ⟨plainId_quiet F.plain_min_loop _,t b _ _ (Heap.get?_update_self _ q rfl) (fun c o e=>(K.2 c (cS e)).trans (d c o e)) (p.at fun o e=>(K.2 _ Iz).trans e) O⟩
 | false=>
  intro O
  simp only [Bool.false_eq_true,if_false]
  refine wpAny_bind (PySem.wpAny_letGo ?_)
  rw [i]
  exact wpAny_pure ⟨plainId_quiet F.plain_min_loop _,t a _ _ q d p O⟩
end
section
variable {prog:Program} {w:Yc} {A:Around} {E:Yd→Shared→Prop} {Q:Yd→Shared→Prop}
theorem Kj {s:Shared} {l a b:Addr} {vs ws:Yb} {xs ys:Yg} {n n2 ln:Nat} (hh:A.handled=none) (hu:A.units+10<cLine) (hl:s.heap.get? l=some (ab [.ref a,.ref b] ln)) (ha:s.heap.get? a=some (ab vs n)) (hb:s.heap.get? b=some (ab ws n2)) (hv:StrsAre vs xs) (hw:StrsAre ws ys)
  (O:∀D,(∀c o,s.heap.get? c=some o→D.get? c=some o)→s.heap.objs.size≤D.objs.size→Q (.ref (match (aP xs ys) with | true=>b | false=>a)) {s with heap:=D}):wpAny (model prog w) A (call (.builtin "max") [.ref l]) Q E s:=by
 have i:(toString "max" ++ toString ".loop" : String)="max.loop" := by decide
 have hL:s.heap.IsList l #[.ref a,.ref b]:=⟨_,hl,rfl,ln,rfl⟩
 have hu1:A.in1.units<cLine:=by
  show A.units+1<cLine
  omega
 refine call_function_tree F.kind_max F.plain_max F.entry_max (F.args_max1 _) ?_
 show wpAny _ A.in1 (Builtin.Builtins.bindParams "max" ["key","default"] 0 ⟨[],[]⟩ >>= _) _ _ s
 refine wpAny_bind (wpAny_of_eq (show Builtin.Builtins.bindParams "max" ["key","default"] 0 ⟨[],[]⟩=pure [none,none] from rfl) ?_)
 refine wpAny_bind (wpAny_pure ?_)
 refine wpAny_bind (wpAny_pyIter_list hL ?_)
 refine wpAny_bind (wpAny_newObj_type ?_)
 rw [i]
 generalize C:(s.heap.push {cls:=.type "list_iterator",data:=.fields #[.ref l,.int 0 0]})=g
 have N:g.objs.size=s.heap.objs.size+1:=by rw [←C];exact Heap.size_push _ _
 have H:∀c o,s.heap.get? c=some o→g.get? c=some o:=fun c o e=>by rw [←C];exact Heap.get?_push_of_some _ e
 have hI1:g.IsListIter s.heap.objs.size l 0:=by rw [←C];exact ⟨_,Heap.get?_push_size _ rfl,rfl,rfl⟩
 have lt:∀{c o},s.heap.get? c=some o→c<s.heap.objs.size:=fun e=>Heap.lt_size e
 have le1:s.heap.objs.size≤g.objs.size:=by rw [N];exact Nat.le_succ _
 have cS:∀{c o},s.heap.get? c=some o→c≠g.objs.size:=fun e=>Nat.ne_of_lt (Nat.lt_of_lt_of_le (lt e) le1)
 have Iz:s.heap.objs.size≠g.objs.size:=by rw [N];exact Nat.ne_of_lt (Nat.lt_succ_self _)
 have nS:g.objs.size≠s.heap.objs.size:=fun e=>Iz e.symm
 refine wpAny_pure ⟨plainId_quiet F.plain_max_loop _,?_⟩
 have I:(g.push {cls:=.type "list",data:=.seq #[]}).get? g.objs.size=some {cls:=.type "list",data:=.seq #[]}:=Heap.get?_push_size _ rfl
 have T:(g.push {cls:=.type "list",data:=.seq #[]}).IsListIter s.heap.objs.size l 0:=hI1.at fun o e=>Heap.get?_push_of_some _ e
 have m:∀c o,s.heap.get? c=some o→(g.push {cls:=.type "list",data:=.seq #[]}).get? c=some o:=fun c o e=>Heap.get?_push_of_some _ (H c o e)
 generalize (g.push {cls:=.type "list",data:=.seq #[]})=H2 at I T m ⊢
 refine codeAny_builtin F.entry_max_loop ?_
 rw [Around.under_plainId F.plain_max_loop _]
 show wpAny _ A.in1 (seqItems? (.ref g.objs.size) >>= _) _ _ _
 refine wpAny_bind (wpAny_seqItems I rfl ?_)
 show wpAny _ A.in1 (tryCatch (pyNext (.ref s.heap.objs.size)) _ >>= _) _ _ _
 refine wpAny_bind (wpAny_tryCatch (wpAny_pyNext_list_item T (hL.at fun o e=>m _ _ e) (x:=.ref a) rfl fun z U X => ?_))
 have V:=(X.2 _ nS).trans I
 have J:∀c o,s.heap.get? c=some o→z.get? c=some o:=fun c o e=>(X.2 c (Nat.ne_of_lt (lt e))).trans (m c o e)
 show wpAny _ A.in1 (updateSeq g.objs.size (fun _=>#[.ref a,.ref a]) >>= _) _ _ _
 refine wpAny_bind ?_
 refine wpAny_updateSeq V rfl ?_
 rw [i]
 refine wpAny_pure ⟨plainId_quiet F.plain_max_loop _,?_⟩
 have S:=Heap.SameBut.update (h:=z) (a:=g.objs.size) (f:=Obj.mapSeq fun _=>#[.ref a,.ref a])
 have B:(z.update g.objs.size (Obj.mapSeq fun _=>#[.ref a,.ref a])).get? g.objs.size=some {cls:=.type "list",data:=.seq #[.ref a,.ref a] 1}:=Heap.get?_update_self _ V rfl
 have j:∀c o,s.heap.get? c=some o→(z.update g.objs.size (Obj.mapSeq fun _=>#[.ref a,.ref a])).get? c=some o:=fun c o e=>(S.2 c (cS e)).trans (J c o e)
 have u:(z.update g.objs.size (Obj.mapSeq fun _=>#[.ref a,.ref a])).IsListIter s.heap.objs.size l 1:=U.at fun o e=>(S.2 _ Iz).trans e
 show codeAny (model prog w) _ _ _ ⟨z.update g.objs.size (Obj.mapSeq fun _=>#[.ref a,.ref a]),_,_,_,_⟩
 generalize (z.update g.objs.size (Obj.mapSeq fun _=>#[.ref a,.ref a]))=H4 at B j u ⊢
 have t:∀(x:Addr) (k:Nat) (P:Heap),P.get? g.objs.size=some {cls:=.type "list",data:=.seq #[.ref x,.ref x] k}→(∀c o,s.heap.get? c=some o→P.get? c=some o)→P.IsListIter s.heap.objs.size l 2→(∀D,(∀c o,s.heap.get? c=some o→D.get? c=some o)→s.heap.objs.size≤D.objs.size→Q (.ref x) {s with heap:=D})→
   codeAny (model prog w) A (.builtin "max.loop" ⟨[.ref s.heap.objs.size,.none,.ref g.objs.size],[]⟩) (wants Q E) {s with heap:=P}:=fun x k P q d p hQ5=>by
  refine codeAny_builtin F.entry_max_loop ?_
  rw [Around.under_plainId F.plain_max_loop _]
  show wpAny _ A.in1 (seqItems? (.ref g.objs.size) >>= _) _ _ _
  refine wpAny_bind (wpAny_seqItems q rfl ?_)
  show wpAny _ A.in1 (tryCatch (pyNext (.ref s.heap.objs.size)) _ >>= _) _ _ _
  refine wpAny_bind (wpAny_tryCatch (wpAny_pyNext_list_end hh p (hL.at fun o e=>d _ _ e) rfl fun h6 Y => ?_))
  have L:=Y _ _ nS q
  have G:∀c o,s.heap.get? c=some o→h6.get? c=some o:=fun c o e=>Y c o (Nat.ne_of_lt (lt e)) (d c o e)
  show wpAny _ A.in1 (updateSeq g.objs.size (fun _=>#[]) >>= _) _ _ _
  refine wpAny_bind ?_
  refine wpAny_updateSeq L rfl (wpAny_bind (PySem.wpAny_letGo (wpAny_pure ?_)))
  have R:=Heap.SameBut.update (h:=h6) (a:=g.objs.size) (f:=Obj.mapSeq fun _=>#[])
  refine hQ5 _ (fun c o e=>(R.2 c (cS e)).trans (G c o e)) ?_
  rw [R.1]
  exact Nat.le_of_lt (Nat.lt_of_le_of_lt le1 (Heap.lt_size L))
 refine codeAny_builtin F.entry_max_loop ?_
 rw [Around.under_plainId F.plain_max_loop _]
 show wpAny _ A.in1 (seqItems? (.ref g.objs.size) >>= _) _ _ _
 refine wpAny_bind (wpAny_seqItems B rfl ?_)
 show wpAny _ A.in1 (tryCatch (pyNext (.ref s.heap.objs.size)) _ >>= _) _ _ _
 refine wpAny_bind (wpAny_tryCatch (wpAny_pyNext_list_item u (hL.at fun o e=>j _ _ e) (x:=.ref b) rfl fun h5 p Z => ?_))
 have q:=(Z.2 _ nS).trans B
 have d:∀c o,s.heap.get? c=some o→h5.get? c=some o:=fun c o e=>(Z.2 c (Nat.ne_of_lt (lt e))).trans (j c o e)
 show wpAny _ A.in1 (tryCatch (holding [.ref b,.ref b] (richCompare .Gt (.ref b) (.ref a) >>= _)) _ >>= _) _ _ _
 refine wpAny_bind (wpAny_tryCatch (wpAny_holding (wpAny_bind (richCompare_meets_room (op:=.Gt) ⟨_,d _ _ hb,rfl⟩ ⟨_,d _ _ ha,rfl⟩ F.slot_list_gt F.entry_list_gt (F.args_list_gt_2 _ _) (Kh b a ws vs ys xs n2 n hw hv) ⟨d _ _ hb,d _ _ ha,(fun x=>nomatch x),?_⟩ hu1))))
 refine wpAny_bind (wpAny_holding (wpAny_truthy_bool ?_))
 refine wpAny_bind (PySem.wpAny_letGo (wpAny_pure ?_))
 revert O
 cases (aP xs ys) with
 | true=>
  intro O
  simp only [if_true]
  refine wpAny_bind ?_
  refine wpAny_updateSeq q rfl (wpAny_bind (PySem.wpAny_letGo ?_))
  rw [i]
  have K:=Heap.SameBut.update (h:=h5) (a:=g.objs.size) (f:=Obj.mapSeq fun _=>#[.ref b,.ref b])
  exact wpAny_pure ⟨plainId_quiet F.plain_max_loop _,t b _ _ (Heap.get?_update_self _ q rfl) (fun c o e=>(K.2 c (cS e)).trans (d c o e)) (p.at fun o e=>(K.2 _ Iz).trans e) O⟩
 | false=>
  intro O
  simp only [Bool.false_eq_true,if_false]
  refine wpAny_bind (PySem.wpAny_letGo ?_)
  rw [i]
  exact wpAny_pure ⟨plainId_quiet F.plain_max_loop _,t a _ _ q d p O⟩
end
end
def Kk:Stmt→List Stmt
 | .Try b _ _ _ _=>b
 | _=>[]
section
variable {B:bf} {m:Nat}
theorem Bt {A:Around} (h:Lv m A):A.units+10<cLine:=by
 have:=h.2.2
 have e:cLine=9900:=rfl
 lia
def eV (pl:Yh) (a b:Yg):aH:=
 {code:=fun p=>.call (.builtin "min") ⟨[.ref (p 1 0)],[]⟩,pl,objs:=fun p=>[(p 1 0,ab [.ref (p 2 0),.ref (p 3 0)] (p 1 1)),(p 2 0,ab (bc p 2 a 2) (p 2 1)),(p 3 0,ab (bc p 3 b 2) (p 3 1))],strm:=true,
  out:=fun p c=>(.ret (.ref (p 2 0)),[ab [.ref (p 2 0),.ref (p 3 0)] (p 1 1),ab (bc p 2 a 2) (p 2 1),ab (bc p 3 b 2) (p 3 1)],[])}
theorem fi {n:Yh} {c g:Yg} (F:n.Nodup) (h:aP g c=false):(eV n c g).Sure B m:=by
 refine ⟨F,fun p A i G j z d D J l k Q E nd a I H=>d7 ?_⟩
 have u:=(a _ (.head _)).1
 have t:=(a _ (.tail _ (.head _))).1
 have C:=(a _ (.tail _ (.tail _ (.head _)))).1
 refine Ki (s:=⟨G,z,d,j,D⟩) i.1 (Bt i) u t C (o9 _ _ _ _) (o9 _ _ _ _) fun y o le => ?_
 rw [h]
 exact H y j id (fun e=>by cases e) le (fun b w q _=>o b w q) (fun x hx=>o _ _ (a x (by
  have f:x∈[(p 1 0,ab [.ref (p 2 0),.ref (p 3 0)] (p 1 1)),(p 2 0,ab (bc p 2 c 2) (p 2 1)),(p 3 0,ab (bc p 3 g 2) (p 3 1))]:=hx
  exact f)).1) (fun _ hx=>nomatch hx) List.nodup_nil
def eW (pl:Yh) (b a:Yg) (g:Bool):aH:=
 {code:=fun p=>.call (.builtin "max") ⟨[.ref (p 1 0)],[]⟩,pl,objs:=fun p=>[(p 1 0,ab [.ref (p 2 0),.ref (p 3 0)] (p 1 1)),(p 2 0,ab (bc p 2 b 2) (p 2 1)),(p 3 0,ab (bc p 3 a 2) (p 3 1))],strm:=true,
  out:=fun p c=>(.ret (.ref (match g with | true=>p 3 0 | false=>p 2 0)),[ab [.ref (p 2 0),.ref (p 3 0)] (p 1 1),ab (bc p 2 b 2) (p 2 1),ab (bc p 3 a 2) (p 3 1)],[])}
theorem fj {o:Yh} {c i:Yg} {g:Bool} (G:o.Nodup) (h:aP c i=g):(eW o c i g).Sure B m:=by
 refine ⟨G,fun p A j H n C d F K l k Q E nd a J I=>d7 ?_⟩
 have w:=(a _ (.head _)).1
 have u:=(a _ (.tail _ (.head _))).1
 have D:=(a _ (.tail _ (.tail _ (.head _)))).1
 refine Kj (s:=⟨H,C,d,n,F⟩) j.1 (Bt j) w u D (o9 _ _ _ _) (o9 _ _ _ _) fun z t le => ?_
 rw [h]
 exact I z n id (fun e=>by cases e) le (fun b y q _=>t b y q) (fun x hx=>t _ _ (a x (by
  have f:x∈[(p 1 0,ab [.ref (p 2 0),.ref (p 3 0)] (p 1 1)),(p 2 0,ab (bc p 2 c 2) (p 2 1)),(p 3 0,ab (bc p 3 i 2) (p 3 1))]:=hx
  exact f)).1) (fun _ hx=>nomatch hx) List.nodup_nil
end
def b8 (a:Nat) (i:Int) (x:Yd):Obj:=aW 1 .none [.bool false,.ref a,.int i 0,.none,x]
section
def Kl:Code:=.call (.ref 269) ⟨[.ref 900],[]⟩
def Km:Kn:=[(900,ab [] 0)]
end
section
variable {B:bf} {m:Nat} {α β : Type}
theorem Bu (O:B.Ok) {elts:List Expr} {x1:Nat} {pt:Pos} {z:Addr} {i:List Stmt} {j:Env} {e:Nat} {rest:Yb} {T:Ya} {Z0:Obj} {o1:Ye→Yf} {V1:Ye→Obj} {o2:Ye→Ye→Yf} {V2:Ye→Ye→Obj} {o3:Ye→Ye→Ye→Yf} {N3:Ye→Ye→Ye→Ya} {w:Ye→eZ}
  (Q:fW (.forLoop (.Tuple elts x1 pt) (.ref z) i [] j))
  (P:aI B m (pyNext (.ref z)) ((z,Z0)::T) fun c=>(some (.ref (c 0)),aW e (rawInt (c 0)) rest::o1 c,[(c 0,V1 c)])) (n:∀c,(o1 c).length=T.length)
  (J:∀c,aI B m (assign (.Tuple elts x1 pt) j (.ref (c 0))) ((z,aW e .none rest)::((T.map (·.1)).zip (o1 c)++[(c 0,V1 c)])) fun b=>((),aW e .none rest::(o2 c b++[V2 c b]),[])) (t:∀c b,(o2 c b).length=T.length)
  (K:∀c b,aI B m (execs i j) ((z,aW e .none rest)::(T.map (·.1)).zip (o2 c b)) fun d=>(Flow.brk,aW e .none rest::o3 c b d,N3 c b d)) (l3:∀c b d,(o3 c b d).length=T.length)
  (I:∀c,w c=(.ok .next,aW e .none rest::o3 (ev c) (ev (od c)) (od (od c)),N3 (ev c) (ev (od c)) (od (od c)))) :
  aL B (m+1) (.forLoop (.Tuple elts x1 pt) (.ref z) i [] j) ((z,Z0)::T) w:=by
 have A:∀{l:Yf},l.length=T.length→((T.map (·.1)).zip l).length=T.length:=fun h=>by rw [List.length_zip,List.length_map,h,Nat.min_self]
 have G:∀{l:Yf},l.length=T.length→((T.map (·.1)).zip l).map (·.2)=l:=fun h=>List.map_snd_zip (by rw [List.length_map,h];exact Nat.le_refl _)
 have C:∀{l:Yf},l.length=T.length→((T.map (·.1)).zip l).map (·.1)=T.map (·.1):=fun h=>jj h
 have q:∀c b,aI B m (do
   match ←execs i j with
   | .next | .cont=>again (.forLoop (.Tuple elts x1 pt) (.ref z) i [] j)
   | .brk=>pure (.done .next)
   | .ret v=>pure (.done (.ret v))) ((z,aW e .none rest)::(T.map (·.1)).zip (o2 c b)) fun d=>(Fin.done .next,aW e .none rest::o3 c b d,N3 c b d):=fun c b=>by
  refine (aI.bind O (K c b) (fun d=>by rw [List.length_cons,List.length_cons,l3,A (t _ _)]) (u:=fun _ _=>Fin.done .next) (o2:=fun d _=>aW e .none rest::o3 c b d) (d2:=fun d _=>(N3 c b d).map (·.2)) (N2:=fun _ _=>[]) (fun d => ?_) (fun d _=>by rw [List.length_cons,List.length_cons,l3,A (t _ _)]) fun _ _=>List.length_map _).co fun d=>⟨ev d,rfl,rfl,by rw [s9,List.append_nil];exact List.Sublist.refl _⟩
  have h:=aI.pur (B:=B) (m:=m) (Fin.done .next) ((((z,aW e .none rest)::(T.map (·.1)).zip (o2 c b)).map (·.1)).zip (aW e .none rest::o3 c b d)++N3 c b d)
  refine h.co fun D=>⟨D,rfl,?_,List.Sublist.refl _⟩
  show aW e .none rest::o3 c b d++(N3 c b d).map (·.2)=_
  rw [List.map_append,List.map_cons,List.zip_cons_cons,List.map_cons,C (t _ _),G (l3 _ _ _)]
 have s:∀c,aI B m (do
   assign (.Tuple elts x1 pt) j (.ref (c 0))
   match ←execs i j with
   | .next | .cont=>again (.forLoop (.Tuple elts x1 pt) (.ref z) i [] j)
   | .brk=>pure (.done .next)
   | .ret v=>pure (.done (.ret v))) ((z,aW e .none rest)::((T.map (·.1)).zip (o1 c)++[(c 0,V1 c)])) fun b=>(Fin.done .next,aW e .none rest::(o3 c (ev b) (od b)++[V2 c (ev b)]),N3 c (ev b) (od b)):=fun c=>by
  have F:∀{l:Yf} {V:Obj},l.length=T.length→(aW e .none rest::(l++[V])).length=((z,aW e .none rest)::((T.map (·.1)).zip (o1 c)++[(c 0,V1 c)])).length:=fun h=>by simp [h,n]
  refine (aI.bind O (J c) (fun b=>F (t _ _)) (u:=fun _ _=>Fin.done .next) (o2:=fun b d=>aW e .none rest::(o3 c b d++[V2 c b])) (d2:=fun _ _=>[]) (N2:=fun b d=>N3 c b d) (fun b => ?_) (fun b d=>F (l3 _ _ _)) fun _ _=>rfl).co fun b=>⟨b,rfl,rfl,List.Sublist.refl _⟩
  have h:=(q c b).frame (fun d=>by rw [List.length_cons,List.length_cons,l3,A (t _ _)]) [(c 0,V2 c b)]
  have eT:(((z,aW e .none rest)::((T.map (·.1)).zip (o1 c)++[(c 0,V1 c)])).map (·.1)).zip (aW e .none rest::(o2 c b++[V2 c b]))++[]=((z,aW e .none rest)::(T.map (·.1)).zip (o2 c b))++[(c 0,V2 c b)]:=by
   rw [List.append_nil,List.map_cons,List.zip_cons_cons,List.map_append,C (n _),iL (by rw [List.length_map,t])]
   rfl
  rw [eT]
  refine h.co fun d=>⟨d,rfl,?_,List.Sublist.refl _⟩
  show aW e .none rest::(o3 c b d++[V2 c b])++[]=(aW e .none rest::o3 c b d)++[V2 c b]
  rw [List.append_nil];rfl
 have p:∀c,aI B m (do
   letOwnedTupleGo (.Tuple elts x1 pt) (.ref z) (.ref (c 0))
   assign (.Tuple elts x1 pt) j (.ref (c 0))
   match ←execs i j with
   | .next | .cont=>again (.forLoop (.Tuple elts x1 pt) (.ref z) i [] j)
   | .brk=>pure (.done .next)
   | .ret v=>pure (.done (.ret v))) ((((z,Z0)::T).map (·.1)).zip (aW e (rawInt (c 0)) rest::o1 c)++[(c 0,V1 c)]) fun b=>(Fin.done .next,(aW e .none rest::o3 c (ev b) (od b))++[V2 c (ev b)],N3 c (ev b) (od b)):=fun c=>by
  have g:=(aI.letGo (B:=B) (m:=m) (elts:=elts) (x1:=x1) (pt:=pt) (z:=z) (a:=c 0) (e:=e) (rest:=rest)).frame (fun _=>rfl) ((T.map (·.1)).zip (o1 c)++[(c 0,V1 c)])
  have L:∀V:Obj,(([aW e .none rest]:Yf)++((T.map (·.1)).zip (o1 c)++[(c 0,V)]).map (·.2))=aW e .none rest::(o1 c++[V]):=fun V=>by rw [List.map_append,G (n _)];rfl
  refine (aI.bind O (v:=fun _=>()) (o:=fun _=>aW e .none rest::(o1 c++[V1 c])) (N:=fun _=>[]) (g.co fun a=>⟨a,rfl,(L _).symm,List.Sublist.refl _⟩) (fun _=>by simp [n]) (u:=fun _ _=>Fin.done .next) (o2:=fun _ b=>aW e .none rest::(o3 c (ev b) (od b)++[V2 c (ev b)])) (d2:=fun _ _=>[]) (N2:=fun _ b=>N3 c (ev b) (od b)) (fun _ => ?_) (fun _ b=>by simp [n,l3]) fun _ _=>rfl).co fun b=>⟨od b,rfl,rfl,List.Sublist.refl _⟩
  have eT:(([(z,aW e (rawInt (c 0)) rest)]++((T.map (·.1)).zip (o1 c)++[(c 0,V1 c)])).map (·.1)).zip (aW e .none rest::(o1 c++[V1 c]))++[]=(z,aW e .none rest)::((T.map (·.1)).zip (o1 c)++[(c 0,V1 c)]):=by
   rw [List.append_nil,List.map_append,List.map_append,C (n _),List.map_cons,List.map_nil,List.singleton_append,List.zip_cons_cons,iL (by rw [List.length_map,n])]
   rfl
  rw [eT]
  refine (s c).co fun d=>⟨d,rfl,?_,List.Sublist.refl _⟩
  show aW e .none rest::(o3 c (ev d) (od d)++[V2 c (ev d)])++[]=_
  rw [List.append_nil]
 have E:∀{l:Yf} {V:Obj},l.length=T.length→(V::l).length=((z,Z0)::T).length:=fun h=>by rw [List.length_cons,List.length_cons,h]
 have all:=aI.bind O (P.onRaise (k:=fun _=>standAt {pt with line:=0})) (fun c=>E (n c)) (f:=fun r=>match r with
  | none=>again (.block [] j)
  | some v=>do
   letOwnedTupleGo (.Tuple elts x1 pt) (.ref z) v
   assign (.Tuple elts x1 pt) j v
   match ←execs i j with
   | .next | .cont=>again (.forLoop (.Tuple elts x1 pt) (.ref z) i [] j)
   | .brk=>pure (.done .next)
   | .ret v=>pure (.done (.ret v))) p (fun c b=>E (l3 _ _ _)) (fun _ _=>rfl)
 have y:aI B m (denote table (.forLoop (.Tuple elts x1 pt) (.ref z) i [] j)) ((z,Z0)::T) fun c=>(Fin.done .next,aW e .none rest::o3 (ev c) (ev (od c)) (od (od c)),N3 (ev c) (ev (od c)) (od (od c))):=by
  show aI B m ((forTurn (.Tuple elts x1 pt) (.ref z) i [] j).onRaise (fun x=>do noteFrame x j;theTreesLotGoes x)) _ _
  refine aI.onRaise ?_
  unfold forTurn
  exact aI.standAt (all.co fun c=>⟨c,rfl,rfl,List.sublist_append_right _ _⟩)
 exact aL.ofM Q y fun c=>⟨by rw [I],by rw [I]⟩
end
section
def Bv (w:Yc):Code:=zX (gv false false w [] 14 [0,0,2,1,0,1] 0 (fun _=>(0,0,id)) Kl Km 1000 0)
def dm (w:Yc):Code:=vk (gG (Kk (gG (iP (Bv w)) 3)) 6) (vj (Bv w))
def io (w:Yc) (p:af):Env:=m9 (dm w) (p 8 0) [p 9 0,p 13 0]
theorem Kq (w:Yc):sQ (dm w)=true:=by kernel_rfl
theorem Kr (w:Yc):fO (dm w)=[]:=by kernel_rfl
theorem nC (w:Yc):fT (dm w) = .Tuple (nb (fT (dm w))) (nm (fT (dm w))) (nq (fT (dm w))):=by kernel_rfl
end
section
theorem Bw (a:Yb) (i:Nat):slicePick a.toArray none (some (i:Int)) none=(a.take i).toArray:=slicePick_upto' a.toArray i
def Bx (w:Yc) (d:Obj) (f:Yd) (c:Yb) (a:Str) (e:Nat) (p:af) (b:Ye):Yf:=[aW 1 (rawInt (b 0)) [.bool false,.ref (p 2 0),.int 1 0,.none,.str a e],am (.ref (p 3 0)) 1,ab c (p 3 1),d]
theorem Ks (b c:Bool) (w:Yc) (i:Obj) (d:Yd) (g:Yb) (a:Str) (h:Nat) (p:af) (j:g[0]? = some (.str a h)):aI (B0 (W b c w)) 3 (pyNext (.ref (p 1 0))) [(p 1 0,b8 (p 2 0) 0 d),(p 2 0,am (.ref (p 3 0)) 0),(p 3 0,ab g (p 3 1)),(p 8 0,i)] fun e=>((some (.ref (e 0))),Bx w i d g a h p e,[(e 0,az [.int 0 (e 1),.str a h] 0)]++[]):=by
 rw [nl]
 exact bt (enc:=j8) mW (orcs:=[cA 1 2 g 0 (.str a h)]) (aa (cP (by decide) j) aq) 29 1 [1,0,1,0,53,1,2,2,1,1,1,0,1,0,1,1,1,0,1,0,1,0] [0,1,2,3,4] none (fun n k f=>aB [(f 0).1+0,(f 0).2.1+0])
def By (w:Yc) (d f:Yd) (e:Yb) (a:Str) (b:Nat) (p:af) (c:Ye):Yf:=[aW 1 .none [.bool false,.ref (p 2 0),.int 1 0,.none,.str a b],am (.ref (p 3 0)) 1,ab e (p 3 1),aG w [("paths",p 8 2,d),("split_paths",p 8 4,f),("isabs",p 8 6,.bool true),("s1",p 8 8,.ref (p 3 0)),("s2",p 8 10,.ref (p 3 0)),("common",p 8 12,.ref (p 3 0)),("i",c 0,.int 0 (p 14 2)),("c",c 1,.str a b)] (p 8 1+1+1),az [.int 0 (p 14 2),.str a b] 0]
theorem Kt (b c:Bool) (w:Yc) (g i:Yd) (e:Yb) (a:Str) (d:Nat) (p:af):aI (B0 (W b c w)) 3 (assign (fT (dm w)) (io w p) (.ref (p 14 0))) [(p 1 0,aW 1 .none [.bool false,.ref (p 2 0),.int 1 0,.none,.str a d]),(p 2 0,am (.ref (p 3 0)) 1),(p 3 0,ab e (p 3 1)),(p 8 0,aG w [("paths",p 8 2,g),("split_paths",p 8 4,i),("isabs",p 8 6,.bool true),("s1",p 8 8,.ref (p 3 0)),("s2",p 8 10,.ref (p 3 0)),("common",p 8 12,.ref (p 3 0))] (p 8 1)),(p 14 0,az [.int 0 (p 14 2),.str a d] 0)] fun j=>((),By w g i e a d p j,[]++[]):=by
 rw [km]
 exact bt (enc:=iM) j9 (orcs:=[]) aq 63 0 [5,5,5,0,5,0,8,6,6,0,6,0,9,6,6,5,6,5,6,0,6,0,9,6,6,5,6,5,6,0,6,0,9,6,6,5,6,5,8,4,3,4,3] [0,1,2,3,4] none (fun n h f=>aB [h+0,h+1])
def Bz (w:Yc) (c f:Yd) (e:Yb) (a:Str) (b:Nat) (p:af) (d:Ye):Yf:=[aW 1 .none [.bool false,.ref (p 2 0),.int 1 0,.none,.str a b],am (.ref (p 3 0)) 1,ab e (d 0),aG w [("paths",p 8 2,c),("split_paths",p 8 4,f),("isabs",p 8 6,.bool true),("s1",p 8 8,.ref (p 3 0)),("s2",p 8 10,.ref (p 3 0)),("common",p 8 12,.ref (p 3 0)),("i",p 8 14,.int 0 (p 14 2)),("c",p 8 16,.str a b)] (p 8 1)]
theorem Ku (b c:Bool) (w:Yc) (g h:Yd) (e:Yb) (a:Str) (d:Nat) (p:af) (j:e[(0:Int).toNat]? = some (.str a d)):aI (B0 (W b c w)) 3 (execs (fB (dm w)) (io w p)) [(p 1 0,aW 1 .none [.bool false,.ref (p 2 0),.int 1 0,.none,.str a d]),(p 2 0,am (.ref (p 3 0)) 1),(p 3 0,ab e (p 3 1)),(p 8 0,aG w [("paths",p 8 2,g),("split_paths",p 8 4,h),("isabs",p 8 6,.bool true),("s1",p 8 8,.ref (p 3 0)),("s2",p 8 10,.ref (p 3 0)),("common",p 8 12,.ref (p 3 0)),("i",p 8 14,.int 0 (p 14 2)),("c",p 8 16,.str a d)] (p 8 1))] fun i=>(.next,Bz w g h e a d p i,[]++[]):=by
 rw [cE]
 exact bt (enc:=cc) cD (orcs:=[cK 2 e 0 (.str a d),o2 "str.__ne__" a a fun _=>.bool false]) (aa (cQ (by decide) (by decide) j) (aa (aQ (bne_self_eq_false _)) aq)) 18 2 [4,4,4,3,3,3,2,3] [0,1,2,3] none (fun n k f=>aB [(f 0).2.2 1])
def wg (w:Yc) (d:Obj) (g:Yd) (c f:Yb) (a:Str) (e:Nat) (p:af) (b:Ye):Yf:=[aW 1 (rawInt (b 0)) [.bool false,.ref (p 2 0),.int 1 0,.none,.str a e],am (.ref (p 3 0)) 1,ab c (p 3 1),ab f (p 4 1),d]
theorem BA (b c:Bool) (w:Yc) (i:Obj) (d:Yd) (g j:Yb) (a:Str) (h:Nat) (p:af) (k:g[0]? = some (.str a h)):aI (B0 (W b c w)) 3 (pyNext (.ref (p 1 0))) [(p 1 0,b8 (p 2 0) 0 d),(p 2 0,am (.ref (p 3 0)) 0),(p 3 0,ab g (p 3 1)),(p 4 0,ab j (p 4 1)),(p 8 0,i)] fun e=>((some (.ref (e 0))),wg w i d g j a h p e,[(e 0,az [.int 0 (e 1),.str a h] 0)]++[]):=by
 rw [nl]
 exact bt (enc:=j8) mW (orcs:=[cA 1 2 g 0 (.str a h)]) (aa (cP (by decide) k) aq) 29 1 [1,0,1,0,53,1,2,2,1,1,1,0,1,0,1,1,1,0,1,0,1,0] [0,1,2,3,4,5] none (fun n m f=>aB [(f 0).1+0,(f 0).2.1+0])
def wh (w:Yc) (d f:Yd) (e g:Yb) (a:Str) (b:Nat) (p:af) (c:Ye):Yf:=[aW 1 .none [.bool false,.ref (p 2 0),.int 1 0,.none,.str a b],am (.ref (p 3 0)) 1,ab e (p 3 1),ab g (p 4 1),aG w [("paths",p 8 2,d),("split_paths",p 8 4,f),("isabs",p 8 6,.bool true),("s1",p 8 8,.ref (p 3 0)),("s2",p 8 10,.ref (p 4 0)),("common",p 8 12,.ref (p 3 0)),("i",c 0,.int 0 (p 14 2)),("c",c 1,.str a b)] (p 8 1+1+1),az [.int 0 (p 14 2),.str a b] 0]
theorem BB (b c:Bool) (w:Yc) (g i:Yd) (e j:Yb) (a:Str) (d:Nat) (p:af):aI (B0 (W b c w)) 3 (assign (fT (dm w)) (io w p) (.ref (p 14 0))) [(p 1 0,aW 1 .none [.bool false,.ref (p 2 0),.int 1 0,.none,.str a d]),(p 2 0,am (.ref (p 3 0)) 1),(p 3 0,ab e (p 3 1)),(p 4 0,ab j (p 4 1)),(p 8 0,aG w [("paths",p 8 2,g),("split_paths",p 8 4,i),("isabs",p 8 6,.bool true),("s1",p 8 8,.ref (p 3 0)),("s2",p 8 10,.ref (p 4 0)),("common",p 8 12,.ref (p 3 0))] (p 8 1)),(p 14 0,az [.int 0 (p 14 2),.str a d] 0)] fun k=>((),wh w g i e j a d p k,[]++[]):=by
 rw [km]
 exact bt (enc:=iM) j9 (orcs:=[]) aq 63 0 [6,6,6,0,6,0,8,7,7,0,7,0,9,7,7,6,7,6,7,0,7,0,9,7,7,6,7,6,7,0,7,0,9,7,7,6,7,6,9,5,4,5,4] [0,1,2,3,4,5] none (fun n h f=>aB [h+0,h+1])
def BC (w:Yc) (c g:Yd) (e h:Yb) (a:Str) (b:Nat) (d:Str) (i:Nat) (p:af) (f:Ye):Yf:=[aW 1 .none [.bool false,.ref (p 2 0),.int 1 0,.none,.str a b],am (.ref (p 3 0)) 1,ab e (p 3 1),ab h (f 0),aG w [("paths",p 8 2,c),("split_paths",p 8 4,g),("isabs",p 8 6,.bool true),("s1",p 8 8,.ref (p 3 0)),("s2",p 8 10,.ref (p 4 0)),("common",p 8 12,.ref (p 3 0)),("i",p 8 14,.int 0 (p 14 2)),("c",p 8 16,.str a b)] (p 8 1)]
theorem Kv (b c:Bool) (w:Yc) (j k:Yd) (i e:Yb) (a:Str) (h:Nat) (d:Str) (g:Nat) (p:af) (m:e[(0:Int).toNat]? = some (.str d g)) (q:(a.cps.toList != d.cps.toList)=false):aI (B0 (W b c w)) 3 (execs (fB (dm w)) (io w p)) [(p 1 0,aW 1 .none [.bool false,.ref (p 2 0),.int 1 0,.none,.str a h]),(p 2 0,am (.ref (p 3 0)) 1),(p 3 0,ab i (p 3 1)),(p 4 0,ab e (p 4 1)),(p 8 0,aG w [("paths",p 8 2,j),("split_paths",p 8 4,k),("isabs",p 8 6,.bool true),("s1",p 8 8,.ref (p 3 0)),("s2",p 8 10,.ref (p 4 0)),("common",p 8 12,.ref (p 3 0)),("i",p 8 14,.int 0 (p 14 2)),("c",p 8 16,.str a h)] (p 8 1))] fun o=>(.next,BC w j k i e a h d g p o,[]++[]):=by
 rw [cE]
 exact bt (enc:=cc) cD (orcs:=[cK 3 e 0 (.str d g),o2 "str.__ne__" a d fun _=>.bool false]) (aa (cQ (by decide) (by decide) m) (aa (aQ q) aq)) 18 2 [5,5,5,4,4,4,2,3] [0,1,2,3,4] none (fun n s f=>aB [(f 0).2.2 1])
def BD (w:Yc) (e g:Yd) (f h:Yb) (a:Str) (c:Nat) (d:Str) (i:Nat) (p:af) (b:Ye):Yf:=[aW 1 .none [.bool false,.ref (p 2 0),.int 1 0,.none,.str a c],am (.ref (p 3 0)) 1,ab f (p 3 1),ab h (b 0),aG w [("paths",p 8 2,e),("split_paths",p 8 4,g),("isabs",p 8 6,.bool true),("s1",p 8 8,.ref (p 3 0)),("s2",p 8 10,.ref (p 4 0)),("common",p 8 12,.ref (b 1)),("i",p 8 14,.int 0 (p 14 2)),("c",p 8 16,.str a c)] (p 8 1)]
def BE (w:Yc) (e g:Yd) (b i:Yb) (a:Str) (h:Nat) (d:Str) (f:Nat) (p:af) (c:Ye):Ya:=[(c 1,ab (b.take 0) 0)]
theorem Kw (b c:Bool) (w:Yc) (j k:Yd) (e g:Yb) (a:Str) (i:Nat) (d:Str) (h:Nat) (p:af) (o:g[(0:Int).toNat]? = some (.str d h)) (s:(a.cps.toList != d.cps.toList)=true) (q:e.length≤1000):aI (B0 (W b c w)) 3 (execs (fB (dm w)) (io w p)) [(p 1 0,aW 1 .none [.bool false,.ref (p 2 0),.int 1 0,.none,.str a i]),(p 2 0,am (.ref (p 3 0)) 1),(p 3 0,ab e (p 3 1)),(p 4 0,ab g (p 4 1)),(p 8 0,aG w [("paths",p 8 2,j),("split_paths",p 8 4,k),("isabs",p 8 6,.bool true),("s1",p 8 8,.ref (p 3 0)),("s2",p 8 10,.ref (p 4 0)),("common",p 8 12,.ref (p 3 0)),("i",p 8 14,.int 0 (p 14 2)),("c",p 8 16,.str a i)] (p 8 1))] fun m=>(.brk,BD w j k e g a i d h p m,BE w j k e g a i d h p m++[]):=by
 rw [cE]
 exact bt (enc:=cc) cD (orcs:=[cK 3 g 0 (.str d h),o2 "str.__ne__" a d fun _=>.bool true,c3 2 5 (fun _=>e) none (some 0) (fun _=>e.take 0)]) (aa (cQ (by decide) (by decide) o) (aa (aQ s) (aa (dA (by decide) (fun _=>q) (fun _=>Bw e 0)) aq))) 38 3 [5,5,5,4,4,4,2,3,5,5,3,3,3,4,5,4] [0,1,2,3,4,6] none (fun n t f=>aB [(f 0).2.2 1,(f 2).2.2 0])
def BF (w:Yc) (d:Obj) (f:Yd) (c:Yb) (a:Str) (e:Nat) (p:af) (b:Ye):Yf:=[aW 1 (rawInt (b 0)) [.bool false,.ref (p 2 0),.int 2 0,.none,.str a e],am (.ref (p 3 0)) 2,ab c (p 3 1),d]
theorem Kx (b c:Bool) (w:Yc) (i:Obj) (d:Yd) (g:Yb) (a:Str) (h:Nat) (p:af) (j:g[1]? = some (.str a h)):aI (B0 (W b c w)) 3 (pyNext (.ref (p 1 0))) [(p 1 0,b8 (p 2 0) 1 d),(p 2 0,am (.ref (p 3 0)) 1),(p 3 0,ab g (p 3 1)),(p 8 0,i)] fun e=>((some (.ref (e 0))),BF w i d g a h p e,[(e 0,az [.int 1 (e 1),.str a h] 0)]++[]):=by
 rw [nl]
 exact bt (enc:=j8) mW (orcs:=[cA 1 2 g 1 (.str a h)]) (aa (cP (by decide) j) aq) 29 1 [1,0,1,0,53,1,2,2,1,1,1,0,1,0,1,1,1,0,1,0,1,0] [0,1,2,3,4] none (fun n k f=>aB [(f 0).1+0,(f 0).2.1+0])
def BG (w:Yc) (c e:Yd) (vi g:Yd) (d:Yb) (a:Str) (b:Nat) (p:af) (f:Ye):Yf:=[aW 1 .none [.bool false,.ref (p 2 0),.int 2 0,.none,.str a b],am (.ref (p 3 0)) 2,ab d (p 3 1),aG w [("paths",p 8 2,c),("split_paths",p 8 4,e),("isabs",p 8 6,.bool true),("s1",p 8 8,.ref (p 3 0)),("s2",p 8 10,.ref (p 3 0)),("common",p 8 12,.ref (p 3 0)),("i",p 8 14,.int 1 (p 14 2)),("c",p 8 16,.str a b)] (p 8 1),az [.int 1 (p 14 2),.str a b] 0]
theorem Ky (b c:Bool) (w:Yc) (e h:Yd) (vi i:Yd) (g:Yb) (a:Str) (d:Nat) (p:af):aI (B0 (W b c w)) 3 (assign (fT (dm w)) (io w p) (.ref (p 14 0))) [(p 1 0,aW 1 .none [.bool false,.ref (p 2 0),.int 2 0,.none,.str a d]),(p 2 0,am (.ref (p 3 0)) 2),(p 3 0,ab g (p 3 1)),(p 8 0,aG w [("paths",p 8 2,e),("split_paths",p 8 4,h),("isabs",p 8 6,.bool true),("s1",p 8 8,.ref (p 3 0)),("s2",p 8 10,.ref (p 3 0)),("common",p 8 12,.ref (p 3 0)),("i",p 8 14,vi),("c",p 8 16,i)] (p 8 1)),(p 14 0,az [.int 1 (p 14 2),.str a d] 0)] fun j=>((),BG w e h vi i g a d p j,[]++[]):=by
 rw [km]
 exact bt (enc:=iM) j9 (orcs:=[]) aq 63 0 [5,5,5,0,5,0,8,6,6,0,6,0,9,6,6,5,6,5,6,0,6,0,9,6,6,5,6,5,6,0,6,0,9,6,6,5,6,5,8,4,3,4,3] [0,1,2,3,4] none (fun n k f=>fun _=>0)
def BH (w:Yc) (c f:Yd) (e:Yb) (a:Str) (b:Nat) (p:af) (d:Ye):Yf:=[aW 1 .none [.bool false,.ref (p 2 0),.int 2 0,.none,.str a b],am (.ref (p 3 0)) 2,ab e (d 0),aG w [("paths",p 8 2,c),("split_paths",p 8 4,f),("isabs",p 8 6,.bool true),("s1",p 8 8,.ref (p 3 0)),("s2",p 8 10,.ref (p 3 0)),("common",p 8 12,.ref (p 3 0)),("i",p 8 14,.int 1 (p 14 2)),("c",p 8 16,.str a b)] (p 8 1)]
theorem Kz (b c:Bool) (w:Yc) (g h:Yd) (e:Yb) (a:Str) (d:Nat) (p:af) (j:e[(1:Int).toNat]? = some (.str a d)):aI (B0 (W b c w)) 3 (execs (fB (dm w)) (io w p)) [(p 1 0,aW 1 .none [.bool false,.ref (p 2 0),.int 2 0,.none,.str a d]),(p 2 0,am (.ref (p 3 0)) 2),(p 3 0,ab e (p 3 1)),(p 8 0,aG w [("paths",p 8 2,g),("split_paths",p 8 4,h),("isabs",p 8 6,.bool true),("s1",p 8 8,.ref (p 3 0)),("s2",p 8 10,.ref (p 3 0)),("common",p 8 12,.ref (p 3 0)),("i",p 8 14,.int 1 (p 14 2)),("c",p 8 16,.str a d)] (p 8 1))] fun i=>(.next,BH w g h e a d p i,[]++[]):=by
 rw [cE]
 exact bt (enc:=cc) cD (orcs:=[cK 2 e 1 (.str a d),o2 "str.__ne__" a a fun _=>.bool false]) (aa (cQ (by decide) (by decide) j) (aa (aQ (bne_self_eq_false _)) aq)) 18 2 [4,4,4,3,3,3,2,3] [0,1,2,3] none (fun n k f=>aB [(f 0).2.2 1])
def BI (w:Yc) (d:Obj) (g:Yd) (c f:Yb) (a:Str) (e:Nat) (p:af) (b:Ye):Yf:=[aW 1 (rawInt (b 0)) [.bool false,.ref (p 2 0),.int 2 0,.none,.str a e],am (.ref (p 3 0)) 2,ab c (p 3 1),ab f (p 4 1),d]
theorem KA (b c:Bool) (w:Yc) (i:Obj) (d:Yd) (g j:Yb) (a:Str) (h:Nat) (p:af) (k:g[1]? = some (.str a h)):aI (B0 (W b c w)) 3 (pyNext (.ref (p 1 0))) [(p 1 0,b8 (p 2 0) 1 d),(p 2 0,am (.ref (p 3 0)) 1),(p 3 0,ab g (p 3 1)),(p 4 0,ab j (p 4 1)),(p 8 0,i)] fun e=>((some (.ref (e 0))),BI w i d g j a h p e,[(e 0,az [.int 1 (e 1),.str a h] 0)]++[]):=by
 rw [nl]
 exact bt (enc:=j8) mW (orcs:=[cA 1 2 g 1 (.str a h)]) (aa (cP (by decide) k) aq) 29 1 [1,0,1,0,53,1,2,2,1,1,1,0,1,0,1,1,1,0,1,0,1,0] [0,1,2,3,4,5] none (fun n m f=>aB [(f 0).1+0,(f 0).2.1+0])
def BJ (w:Yc) (c e:Yd) (vi h:Yd) (d f:Yb) (a:Str) (b:Nat) (p:af) (g:Ye):Yf:=[aW 1 .none [.bool false,.ref (p 2 0),.int 2 0,.none,.str a b],am (.ref (p 3 0)) 2,ab d (p 3 1),ab f (p 4 1),aG w [("paths",p 8 2,c),("split_paths",p 8 4,e),("isabs",p 8 6,.bool true),("s1",p 8 8,.ref (p 3 0)),("s2",p 8 10,.ref (p 4 0)),("common",p 8 12,.ref (p 3 0)),("i",p 8 14,.int 1 (p 14 2)),("c",p 8 16,.str a b)] (p 8 1),az [.int 1 (p 14 2),.str a b] 0]
theorem KB (b c:Bool) (w:Yc) (e h:Yd) (vi j:Yd) (g i:Yb) (a:Str) (d:Nat) (p:af):aI (B0 (W b c w)) 3 (assign (fT (dm w)) (io w p) (.ref (p 14 0))) [(p 1 0,aW 1 .none [.bool false,.ref (p 2 0),.int 2 0,.none,.str a d]),(p 2 0,am (.ref (p 3 0)) 2),(p 3 0,ab g (p 3 1)),(p 4 0,ab i (p 4 1)),(p 8 0,aG w [("paths",p 8 2,e),("split_paths",p 8 4,h),("isabs",p 8 6,.bool true),("s1",p 8 8,.ref (p 3 0)),("s2",p 8 10,.ref (p 4 0)),("common",p 8 12,.ref (p 3 0)),("i",p 8 14,vi),("c",p 8 16,j)] (p 8 1)),(p 14 0,az [.int 1 (p 14 2),.str a d] 0)] fun k=>((),BJ w e h vi j g i a d p k,[]++[]):=by
 rw [km]
 exact bt (enc:=iM) j9 (orcs:=[]) aq 63 0 [6,6,6,0,6,0,8,7,7,0,7,0,9,7,7,6,7,6,7,0,7,0,9,7,7,6,7,6,7,0,7,0,9,7,7,6,7,6,9,5,4,5,4] [0,1,2,3,4,5] none (fun n m f=>fun _=>0)
def BK (w:Yc) (e g:Yd) (f h:Yb) (a:Str) (c:Nat) (d:Str) (i:Nat) (p:af) (b:Ye):Yf:=[aW 1 .none [.bool false,.ref (p 2 0),.int 2 0,.none,.str a c],am (.ref (p 3 0)) 2,ab f (p 3 1),ab h (b 0),aG w [("paths",p 8 2,e),("split_paths",p 8 4,g),("isabs",p 8 6,.bool true),("s1",p 8 8,.ref (p 3 0)),("s2",p 8 10,.ref (p 4 0)),("common",p 8 12,.ref (b 1)),("i",p 8 14,.int 1 (p 14 2)),("c",p 8 16,.str a c)] (p 8 1)]
def BL (w:Yc) (e g:Yd) (b i:Yb) (a:Str) (h:Nat) (d:Str) (f:Nat) (p:af) (c:Ye):Ya:=[(c 1,ab (b.take 1) 0)]
theorem KC (b c:Bool) (w:Yc) (j k:Yd) (e g:Yb) (a:Str) (i:Nat) (d:Str) (h:Nat) (p:af) (o:g[(1:Int).toNat]? = some (.str d h)) (s:(a.cps.toList != d.cps.toList)=true) (q:e.length≤1000):aI (B0 (W b c w)) 3 (execs (fB (dm w)) (io w p)) [(p 1 0,aW 1 .none [.bool false,.ref (p 2 0),.int 2 0,.none,.str a i]),(p 2 0,am (.ref (p 3 0)) 2),(p 3 0,ab e (p 3 1)),(p 4 0,ab g (p 4 1)),(p 8 0,aG w [("paths",p 8 2,j),("split_paths",p 8 4,k),("isabs",p 8 6,.bool true),("s1",p 8 8,.ref (p 3 0)),("s2",p 8 10,.ref (p 4 0)),("common",p 8 12,.ref (p 3 0)),("i",p 8 14,.int 1 (p 14 2)),("c",p 8 16,.str a i)] (p 8 1))] fun m=>(.brk,BK w j k e g a i d h p m,BL w j k e g a i d h p m++[]):=by
 rw [cE]
 exact bt (enc:=cc) cD (orcs:=[cK 3 g 1 (.str d h),o2 "str.__ne__" a d fun _=>.bool true,c3 2 5 (fun _=>e) none (some 1) (fun _=>e.take 1)]) (aa (cQ (by decide) (by decide) o) (aa (aQ s) (aa (dA (by decide) (fun _=>q) (fun _=>Bw e 1)) aq))) 38 3 [5,5,5,4,4,4,2,3,5,5,3,3,3,4,5,4] [0,1,2,3,4,6] none (fun n t f=>aB [(f 0).2.2 1,(f 2).2.2 0])
end
section
theorem KD (b c:Bool) (w:Yc) (x:Yd) (a:Yb) (d:a.length≤1) (p:af):aC (B0 (W b c w)) 4 (jr (dm w) (p 1 0) (p 8 0) [p 9 0,p 13 0]) [(p 1 0,b8 (p 2 0) 1 x),(p 2 0,am (.ref (p 3 0)) 1),(p 3 0,ab a (p 3 1))] (fun e=>(.next,[b8 (p 2 0) 1 x,am .none 1,ab a (p 3 1)],[])):=
 aA (orcs:=[fJ 1 2 a 1]) (aa (iJ (by decide) d) aq) 14 1 [1,0,1,0,53,1,2,2,4,0] [0,1,2] (fun _ _ _ _=>0) (hc:=aS (sO _ _ _ _))
theorem KF (b c:Bool) (w:Yc) (x:Yd) (a:Yb) (d:a.length≤2) (p:af):aC (B0 (W b c w)) 4 (jr (dm w) (p 1 0) (p 8 0) [p 9 0,p 13 0]) [(p 1 0,b8 (p 2 0) 2 x),(p 2 0,am (.ref (p 3 0)) 2),(p 3 0,ab a (p 3 1))] (fun e=>(.next,[b8 (p 2 0) 2 x,am .none 2,ab a (p 3 1)],[])):=
 aA (orcs:=[fJ 1 2 a 2]) (aa (iJ (by decide) d) aq) 14 1 [1,0,1,0,53,1,2,2,4,0] [0,1,2] (fun _ _ _ _=>0) (hc:=aS (sO _ _ _ _))
end
section
def fk (w:Yc) (p:af):Code:=jr (dm w) (p 1 0) (p 8 0) [p 9 0,p 13 0]
def pP (p:af) (n b d c a:Nat):af:=fun j i=>match j,i with
 | 14,0=>b
 | 14,2=>d
 | 8,1=>n
 | 8,14=>c
 | 8,16=>a
 | j,i=>p j i
def pW (p:af) (d c n b a:Nat):af:=fun j i=>match j,i with
 | 3,1=>d
 | 4,1=>c
 | 8,1=>n
 | 8,14=>b
 | 8,16=>a
 | j,i=>p j i
theorem pS (w:Yc) (p:af):fk w p = .forLoop (.Tuple (nb (fT (dm w))) (nm (fT (dm w))) (nq (fT (dm w)))) (.ref (p 1 0)) (fB (dm w)) [] (io w p):=by
 unfold fk io
 rw [vg (Kq w),Kr,←nC]
def gd (w:Yc) (p:af) (a c:Yd) (b:Nat) (n:Nat):Obj:=aG w [("paths",p 8 2,a),("split_paths",p 8 4,c),("isabs",p 8 6,.bool true),("s1",p 8 8,.ref (p 3 0)),("s2",p 8 10,.ref b),("common",p 8 12,.ref (p 3 0))] n
def dC (w:Yc) (p:af) (a e:Yd) (b f:Nat) (d c:Nat) (vi g:Yd) (n:Nat):Obj:=aG w [("paths",p 8 2,a),("split_paths",p 8 4,e),("isabs",p 8 6,.bool true),("s1",p 8 8,.ref (p 3 0)),("s2",p 8 10,.ref b),("common",p 8 12,.ref f),("i",d,vi),("c",c,g)] n
theorem BM (b c:Bool) (w:Yc) (p:af) (j k h:Yd) (i:Yb) (a:Str) (g:Nat) (hx:i[0]? = some (.str a g)) :
  aL (B0 (W b c w)) 4 (fk w p) [(p 1 0,b8 (p 2 0) 0 h),(p 2 0,am (.ref (p 3 0)) 0),(p 3 0,ab i (p 3 1)),(p 8 0,(gd w p j k (p 3 0) (p 8 1)))] fun d=>(.error (fk w p),[b8 (p 2 0) 1 (.str a g),am (.ref (p 3 0)) 1,ab i ((od (od d)) 0),dC w p j k (p 3 0) (p 3 0) ((ev (od d)) 0) ((ev (od d)) 1) (.int 0 ((ev d) 1)) (.str a g) (p 8 1+1+1)],[]):=by
 rw [pS]
 have n:=fun (d:Ye)=>Kt b c w j k i a g (pP p (p 8 1) (d 0) (d 1) (p 8 14) (p 8 16))
 rw [nC] at n
 exact lu (bG (W b c w)) (e:=1) (rest:=[.bool false,.ref (p 2 0),.int 1 0,.none,.str a g]) (Z0:=b8 (p 2 0) 0 h) (T:=List.tail [(p 1 0,b8 (p 2 0) 0 h),(p 2 0,am (.ref (p 3 0)) 0),(p 3 0,ab i (p 3 1)),(p 8 0,(gd w p j k (p 3 0) (p 8 1)))])
  (o1:=fun d=>(Bx w (gd w p j k (p 3 0) (p 8 1)) h i a g (pP p (p 8 1) 0 0 (p 8 14) (p 8 16)) d).tail) (V1:=fun d=>az [.int 0 (d 1),.str a g] 0)
  (o2:=fun d f=>(By w j k i a g (pP p (p 8 1) (d 0) (d 1) (p 8 14) (p 8 16)) f).tail.dropLast) (V2:=fun d _=>az [.int 0 (d 1),.str a g] 0)
  (o3:=fun d f m=>(Bz w j k i a g (pP p (p 8 1+1+1) (d 0) (d 1) (f 0) (f 1)) m).tail)
  (gQ (by intro id a e;cases e)) (Ks b c w (gd w p j k (p 3 0) (p 8 1)) h i a g (pP p (p 8 1) 0 0 (p 8 14) (p 8 16)) hx) (fun _=>rfl)
  n (fun _ _=>rfl)
  (fun d f=>Ku b c w j k i a g (pP p (p 8 1+1+1) (d 0) (d 1) (f 0) (f 1)) hx) (fun _ _ _=>rfl) fun d=>rfl
theorem BN (b c:Bool) (w:Yc) (p:af) (m n i:Yd) (j k:Yb) (a:Str) (h:Nat) (d:Str) (q:Nat) (hx:j[0]? = some (.str a h)) (t:k[(0:Int).toNat]? = some (.str d q)) (u:(a.cps.toList != d.cps.toList)=false) :
  aL (B0 (W b c w)) 4 (fk w p) [(p 1 0,b8 (p 2 0) 0 i),(p 2 0,am (.ref (p 3 0)) 0),(p 3 0,ab j (p 3 1)),(p 4 0,ab k (p 4 1)),(p 8 0,(gd w p m n (p 4 0) (p 8 1)))] fun f=>(.error (fk w p),[b8 (p 2 0) 1 (.str a h),am (.ref (p 3 0)) 1,ab j (p 3 1),ab k ((od (od f)) 0),dC w p m n (p 4 0) (p 3 0) ((ev (od f)) 0) ((ev (od f)) 1) (.int 0 ((ev f) 1)) (.str a h) (p 8 1+1+1)],[]):=by
 rw [pS]
 have s:=fun (f:Ye)=>BB b c w m n j k a h (pP p (p 8 1) (f 0) (f 1) (p 8 14) (p 8 16))
 rw [nC] at s
 exact lu (bG (W b c w)) (e:=1) (rest:=[.bool false,.ref (p 2 0),.int 1 0,.none,.str a h]) (Z0:=b8 (p 2 0) 0 i) (T:=List.tail [(p 1 0,b8 (p 2 0) 0 i),(p 2 0,am (.ref (p 3 0)) 0),(p 3 0,ab j (p 3 1)),(p 4 0,ab k (p 4 1)),(p 8 0,(gd w p m n (p 4 0) (p 8 1)))])
  (o1:=fun f=>(wg w (gd w p m n (p 4 0) (p 8 1)) i j k a h (pP p (p 8 1) 0 0 (p 8 14) (p 8 16)) f).tail) (V1:=fun f=>az [.int 0 (f 1),.str a h] 0)
  (o2:=fun f g=>(wh w m n j k a h (pP p (p 8 1) (f 0) (f 1) (p 8 14) (p 8 16)) g).tail.dropLast) (V2:=fun f _=>az [.int 0 (f 1),.str a h] 0)
  (o3:=fun f g o=>(BC w m n j k a h d q (pP p (p 8 1+1+1) (f 0) (f 1) (g 0) (g 1)) o).tail)
  (gQ (by intro id a e;cases e)) (BA b c w (gd w p m n (p 4 0) (p 8 1)) i j k a h (pP p (p 8 1) 0 0 (p 8 14) (p 8 16)) hx) (fun _=>rfl)
  s (fun _ _=>rfl)
  (fun f g=>Kv b c w m n j k a h d q (pP p (p 8 1+1+1) (f 0) (f 1) (g 0) (g 1)) t u) (fun _ _ _=>rfl) fun f=>rfl
theorem KG (b c:Bool) (w:Yc) (p:af) (m n j:Yd) (h k:Yb) (a:Str) (i:Nat) (d:Str) (q:Nat) (hx:h[0]? = some (.str a i)) (t:k[(0:Int).toNat]? = some (.str d q)) (x:(a.cps.toList != d.cps.toList)=true) (u:h.length≤1000) :
  aL (B0 (W b c w)) 4 (fk w p) [(p 1 0,b8 (p 2 0) 0 j),(p 2 0,am (.ref (p 3 0)) 0),(p 3 0,ab h (p 3 1)),(p 4 0,ab k (p 4 1)),(p 8 0,(gd w p m n (p 4 0) (p 8 1)))] fun f=>(.ok .next,[b8 (p 2 0) 1 (.str a i),am (.ref (p 3 0)) 1,ab h (p 3 1),ab k ((od (od f)) 0),dC w p m n (p 4 0) ((od (od f)) 1) ((ev (od f)) 0) ((ev (od f)) 1) (.int 0 ((ev f) 1)) (.str a i) (p 8 1+1+1)],[((od (od f)) 1,ab (h.take 0) 0)]):=by
 rw [pS]
 have s:=fun (f:Ye)=>BB b c w m n h k a i (pP p (p 8 1) (f 0) (f 1) (p 8 14) (p 8 16))
 rw [nC] at s
 exact Bu (bG (W b c w)) (e:=1) (rest:=[.bool false,.ref (p 2 0),.int 1 0,.none,.str a i]) (Z0:=b8 (p 2 0) 0 j) (T:=List.tail [(p 1 0,b8 (p 2 0) 0 j),(p 2 0,am (.ref (p 3 0)) 0),(p 3 0,ab h (p 3 1)),(p 4 0,ab k (p 4 1)),(p 8 0,(gd w p m n (p 4 0) (p 8 1)))])
  (o1:=fun f=>(wg w (gd w p m n (p 4 0) (p 8 1)) j h k a i (pP p (p 8 1) 0 0 (p 8 14) (p 8 16)) f).tail) (V1:=fun f=>az [.int 0 (f 1),.str a i] 0)
  (o2:=fun f g=>(wh w m n h k a i (pP p (p 8 1) (f 0) (f 1) (p 8 14) (p 8 16)) g).tail.dropLast) (V2:=fun f _=>az [.int 0 (f 1),.str a i] 0)
  (o3:=fun f g o=>(BD w m n h k a i d q (pP p (p 8 1+1+1) (f 0) (f 1) (g 0) (g 1)) o).tail) (N3:=fun f g o=>BE w m n h k a i d q (pP p (p 8 1+1+1) (f 0) (f 1) (g 0) (g 1)) o)
  (gQ (by intro id a e;cases e)) (BA b c w (gd w p m n (p 4 0) (p 8 1)) j h k a i (pP p (p 8 1) 0 0 (p 8 14) (p 8 16)) hx) (fun _=>rfl)
  s (fun _ _=>rfl)
  (fun f g=>Kw b c w m n h k a i d q (pP p (p 8 1+1+1) (f 0) (f 1) (g 0) (g 1)) t x u) (fun _ _ _=>rfl) fun f=>rfl
theorem KH (b c:Bool) (w:Yc) (p:af) (i j g:Yd) (vi m:Yd) (h:Yb) (a:Str) (f:Nat) (hx:h[1]? = some (.str a f)) :
  aL (B0 (W b c w)) 4 (fk w p) [(p 1 0,b8 (p 2 0) 1 g),(p 2 0,am (.ref (p 3 0)) 1),(p 3 0,ab h (p 3 1)),(p 8 0,(dC w p i j (p 3 0) (p 3 0) (p 8 14) (p 8 16) vi m (p 8 1)))] fun d=>(.error (fk w p),[b8 (p 2 0) 2 (.str a f),am (.ref (p 3 0)) 2,ab h ((od (od d)) 0),dC w p i j (p 3 0) (p 3 0) (p 8 14) (p 8 16) (.int 1 ((ev d) 1)) (.str a f) (p 8 1)],[]):=by
 rw [pS]
 have o:=fun (d:Ye)=>Ky b c w i j vi m h a f (pP p (p 8 1) (d 0) (d 1) (p 8 14) (p 8 16))
 rw [nC] at o
 exact lu (bG (W b c w)) (e:=1) (rest:=[.bool false,.ref (p 2 0),.int 2 0,.none,.str a f]) (Z0:=b8 (p 2 0) 1 g) (T:=List.tail [(p 1 0,b8 (p 2 0) 1 g),(p 2 0,am (.ref (p 3 0)) 1),(p 3 0,ab h (p 3 1)),(p 8 0,(dC w p i j (p 3 0) (p 3 0) (p 8 14) (p 8 16) vi m (p 8 1)))])
  (o1:=fun d=>(BF w (dC w p i j (p 3 0) (p 3 0) (p 8 14) (p 8 16) vi m (p 8 1)) g h a f (pP p (p 8 1) 0 0 (p 8 14) (p 8 16)) d).tail) (V1:=fun d=>az [.int 1 (d 1),.str a f] 0)
  (o2:=fun d k=>(BG w i j vi m h a f (pP p (p 8 1) (d 0) (d 1) (p 8 14) (p 8 16)) k).tail.dropLast) (V2:=fun d _=>az [.int 1 (d 1),.str a f] 0)
  (o3:=fun d k n=>(BH w i j h a f (pP p (p 8 1) (d 0) (d 1) (p 8 14) (p 8 16)) n).tail)
  (gQ (by intro id a e;cases e)) (Kx b c w (dC w p i j (p 3 0) (p 3 0) (p 8 14) (p 8 16) vi m (p 8 1)) g h a f (pP p (p 8 1) 0 0 (p 8 14) (p 8 16)) hx) (fun _=>rfl)
  o (fun _ _=>rfl)
  (fun d k=>Kz b c w i j h a f (pP p (p 8 1) (d 0) (d 1) (p 8 14) (p 8 16)) hx) (fun _ _ _=>rfl) fun d=>rfl
theorem KI (b c:Bool) (w:Yc) (p:af) (k m i:Yd) (vi q:Yd) (g j:Yb) (a:Str) (h:Nat) (d:Str) (s:Nat) (hx:g[1]? = some (.str a h)) (u:j[(1:Int).toNat]? = some (.str d s)) (y:(a.cps.toList != d.cps.toList)=true) (x:g.length≤1000) :
  aL (B0 (W b c w)) 4 (fk w p) [(p 1 0,b8 (p 2 0) 1 i),(p 2 0,am (.ref (p 3 0)) 1),(p 3 0,ab g (p 3 1)),(p 4 0,ab j (p 4 1)),(p 8 0,(dC w p k m (p 4 0) (p 3 0) (p 8 14) (p 8 16) vi q (p 8 1)))] fun f=>(.ok .next,[b8 (p 2 0) 2 (.str a h),am (.ref (p 3 0)) 2,ab g (p 3 1),ab j ((od (od f)) 0),dC w p k m (p 4 0) ((od (od f)) 1) (p 8 14) (p 8 16) (.int 1 ((ev f) 1)) (.str a h) (p 8 1)],[((od (od f)) 1,ab (g.take 1) 0)]):=by
 rw [pS]
 have t:=fun (f:Ye)=>KB b c w k m vi q g j a h (pP p (p 8 1) (f 0) (f 1) (p 8 14) (p 8 16))
 rw [nC] at t
 exact Bu (bG (W b c w)) (e:=1) (rest:=[.bool false,.ref (p 2 0),.int 2 0,.none,.str a h]) (Z0:=b8 (p 2 0) 1 i) (T:=List.tail [(p 1 0,b8 (p 2 0) 1 i),(p 2 0,am (.ref (p 3 0)) 1),(p 3 0,ab g (p 3 1)),(p 4 0,ab j (p 4 1)),(p 8 0,(dC w p k m (p 4 0) (p 3 0) (p 8 14) (p 8 16) vi q (p 8 1)))])
  (o1:=fun f=>(BI w (dC w p k m (p 4 0) (p 3 0) (p 8 14) (p 8 16) vi q (p 8 1)) i g j a h (pP p (p 8 1) 0 0 (p 8 14) (p 8 16)) f).tail) (V1:=fun f=>az [.int 1 (f 1),.str a h] 0)
  (o2:=fun f n=>(BJ w k m vi q g j a h (pP p (p 8 1) (f 0) (f 1) (p 8 14) (p 8 16)) n).tail.dropLast) (V2:=fun f _=>az [.int 1 (f 1),.str a h] 0)
  (o3:=fun f n o=>(BK w k m g j a h d s (pP p (p 8 1) (f 0) (f 1) (p 8 14) (p 8 16)) o).tail) (N3:=fun f n o=>BL w k m g j a h d s (pP p (p 8 1) (f 0) (f 1) (p 8 14) (p 8 16)) o)
  (gQ (by intro id a e;cases e)) (KA b c w (dC w p k m (p 4 0) (p 3 0) (p 8 14) (p 8 16) vi q (p 8 1)) i g j a h (pP p (p 8 1) 0 0 (p 8 14) (p 8 16)) hx) (fun _=>rfl)
  t (fun _ _=>rfl)
  (fun f n=>KC b c w k m g j a h d s (pP p (p 8 1) (f 0) (f 1) (p 8 14) (p 8 16)) u y x) (fun _ _ _=>rfl) fun f=>rfl
theorem aL.thenRe {B:bf} (O:B.Ok) {m:Nat} {c f:Code} {a:Ya} {o:Ye→Yf} {d:Ye→Ye→eZ} (R:aL B m c a fun b=>(.error f,o b,[])) (g:∀b,(o b).length=a.length)
  (D:∀b,aL B m f ((a.map (·.1)).zip (o b)) (d b)):aL B m c a fun b=>d (ev b) (od b):=
 aL.andThen O R (fun _=>rfl) g D fun b e=>⟨lk b e,by simp only [u7,u8];rfl⟩
theorem wi (b c:Bool) (w:Yc) (p:af) (i:Nat) (d:i=1∨i=2) (x:Yd) (a:Yb) (e:a.length≤i) (F:Ya) :
  aL (B0 (W b c w)) 4 (fk w p) ([(p 1 0,b8 (p 2 0) (i:Nat) x),(p 2 0,am (.ref (p 3 0)) i),(p 3 0,ab a (p 3 1))]++F) fun _=>(.ok .next,[b8 (p 2 0) (i:Nat) x,am .none i,ab a (p 3 1)]++bH F,[]):=by
 refine aL.lift F (src:=[]) (k:=fun _=>.ok .next) (o:=fun _=>[b8 (p 2 0) (i:Nat) x,am .none i,ab a (p 3 1)]) (ads:=fun _=>[]) ?_ (fun _=>rfl) (fun _ h=>nomatch h) List.nodup_nil
 rcases d with rfl | rfl
 ·exact KD b c w x a e p
 ·exact KF b c w x a e p
end
section
def g7 (p:af):af:=fun j i=>match j,i with | 8,i=>p 4 i | 9,_=>p 0 3 | 13,_=>p 0 4 | j,i=>p j i
def gN (p:af):af:=fun j i=>match j,i with | 8,i=>p 5 i | 9,_=>p 0 3 | 13,_=>p 0 4 | j,i=>p j i
def ndS (w:Yc) (a:Yg) (p:af):Ya:=[(p 1 0,b8 (p 2 0) 0 .none),(p 2 0,am (.ref (p 3 0)) 0),(p 3 0,ab (bc p 3 a 2) (p 3 1)),(p 4 0,gd w (g7 p) (.ref (p 4 3)) (.ref (p 4 5)) (p 3 0) (p 4 1))]
def wj (w:Yc) (b a:Yg) (p:af):Ya:=[(p 1 0,b8 (p 2 0) 0 .none),(p 2 0,am (.ref (p 3 0)) 0),(p 3 0,ab (bc p 3 b 2) (p 3 1)),(p 4 0,ab (bc p 4 a 2) (p 4 1)),(p 5 0,gd w (gN p) (.ref (p 5 3)) (.ref (p 5 5)) (p 4 0) (p 5 1))]
def wk (w:Yc) (c:Yh) (a:Str):aH:=bA (fun p=>fk w (g7 p)) c (ndS w [a]) fun p b=>
 (.next,[b8 (p 2 0) 1 (.str a (p 3 2)),am .none 1,ab (bc p 3 [a] 2) (b 0),dC w (g7 p) (.ref (p 4 3)) (.ref (p 4 5)) (p 3 0) (p 3 0) (b 1) (b 2) (.int 0 (b 3)) (.str a (p 3 2)) (p 4 1+1+1)],[])
theorem BO {b c:Bool} {w:Yc} {m:Nat} {e:Yh} {a:Str} (f:e.Nodup) (g:4≤m):(wk w e a).Sure (B0 (W b c w)) m:=by
 refine (bS f fun p => ?_:aH.Sure (B0 (W b c w)) 4 _).le g
 refine aL.re (aL.thenRe (bG (W b c w)) (BM b c w (g7 p) (.ref (p 4 3)) (.ref (p 4 5)) .none (bc p 3 [a] 2) a (p 3 2) rfl) (fun _=>rfl) fun d=>
  wi b c w (pW (g7 p) (od (od d) 0) 0 0 0 0) 1 (.inl rfl) (.str a (p 3 2)) (bc p 3 [a] 2) (Nat.le_refl _) [(p 4 0,dC w (g7 p) (.ref (p 4 3)) (.ref (p 4 5)) (p 3 0) (p 3 0) (ev (od d) 0) (ev (od d) 1) (.int 0 (ev d 1)) (.str a (p 3 2)) (p 4 1+1+1))]) fun d=>⟨aB [od (od (ev d)) 0,ev (od (ev d)) 0,ev (od (ev d)) 1,ev (ev d) 1],rfl⟩
def wm (w:Yc) (c:Yh) (a d:Str):aH:=bA (fun p=>fk w (g7 p)) c (ndS w [a,d]) fun p b=>
 (.next,[b8 (p 2 0) 2 (.str d (p 3 3)),am .none 2,ab (bc p 3 [a,d] 2) (b 0),dC w (g7 p) (.ref (p 4 3)) (.ref (p 4 5)) (p 3 0) (p 3 0) (b 1) (b 2) (.int 1 (b 3)) (.str d (p 3 3)) (p 4 1+1+1)],[])
theorem BP {b c:Bool} {w:Yc} {m:Nat} {g:Yh} {a d:Str} (h:g.Nodup) (i:4≤m):(wm w g a d).Sure (B0 (W b c w)) m:=by
 refine (bS h fun p => ?_:aH.Sure (B0 (W b c w)) 4 _).le i
 refine aL.re (aL.thenRe (bG (W b c w)) (BM b c w (g7 p) (.ref (p 4 3)) (.ref (p 4 5)) .none (bc p 3 [a,d] 2) a (p 3 2) rfl) (fun _=>rfl) fun e=>
  aL.thenRe (bG (W b c w)) (KH b c w (pW (g7 p) (od (od e) 0) 0 (p 4 1+1+1) (ev (od e) 0) (ev (od e) 1)) (.ref (p 4 3)) (.ref (p 4 5)) (.str a (p 3 2)) (.int 0 (ev e 1)) (.str a (p 3 2)) (bc p 3 [a,d] 2) d (p 3 3) rfl) (fun _=>rfl) fun f=>
  wi b c w (pW (g7 p) (od (od f) 0) 0 0 0 0) 2 (.inr rfl) (.str d (p 3 3)) (bc p 3 [a,d] 2) (Nat.le_refl _) [(p 4 0,dC w (g7 p) (.ref (p 4 3)) (.ref (p 4 5)) (p 3 0) (p 3 0) (ev (od e) 0) (ev (od e) 1) (.int 1 (ev f 1)) (.str d (p 3 3)) (p 4 1+1+1))]) fun e=>⟨aB [od (od (ev (od e))) 0,ev (od (ev e)) 0,ev (od (ev e)) 1,ev (ev (od e)) 1],rfl⟩
def wn (w:Yc) (e:Yh) (a d:Str) (c:Yg):aH:=bA (fun p=>fk w (gN p)) e (wj w [a] (d::c)) fun p b=>
 (.next,[b8 (p 2 0) 1 (.str a (p 3 2)),am .none 1,ab (bc p 3 [a] 2) (p 3 1),ab (bc p 4 (d::c) 2) (b 0),dC w (gN p) (.ref (p 5 3)) (.ref (p 5 5)) (p 4 0) (p 3 0) (b 1) (b 2) (.int 0 (b 3)) (.str a (p 3 2)) (p 5 1+1+1)],[])
theorem BQ {b c:Bool} {w:Yc} {m:Nat} {g:Yh} {a d:Str} {f:Yg} (h:g.Nodup) (i:(a.cps.toList != d.cps.toList)=false) (j:4≤m):(wn w g a d f).Sure (B0 (W b c w)) m:=by
 refine (bS h fun p => ?_:aH.Sure (B0 (W b c w)) 4 _).le j
 refine aL.re (aL.thenRe (bG (W b c w)) (BN b c w (gN p) (.ref (p 5 3)) (.ref (p 5 5)) .none (bc p 3 [a] 2) (bc p 4 (d::f) 2) a (p 3 2) d (p 4 2) rfl rfl i) (fun _=>rfl) fun e=>
  wi b c w (gN p) 1 (.inl rfl) (.str a (p 3 2)) (bc p 3 [a] 2) (Nat.le_refl _) [(p 4 0,ab (bc p 4 (d::f) 2) (od (od e) 0)),(p 5 0,dC w (gN p) (.ref (p 5 3)) (.ref (p 5 5)) (p 4 0) (p 3 0) (ev (od e) 0) (ev (od e) 1) (.int 0 (ev e 1)) (.str a (p 3 2)) (p 5 1+1+1))]) fun e=>⟨aB [od (od (ev e)) 0,ev (od (ev e)) 0,ev (od (ev e)) 1,ev (ev e) 1],rfl⟩
def jF (w:Yc) (f:Yh) (a d:Str) (e c:Yg):aH:=bA (fun p=>fk w (gN p)) f (wj w (a::e) (d::c)) fun p b=>
 (.next,[b8 (p 2 0) 1 (.str a (p 3 2)),am (.ref (p 3 0)) 1,ab (bc p 3 (a::e) 2) (p 3 1),ab (bc p 4 (d::c) 2) (b 0),dC w (gN p) (.ref (p 5 3)) (.ref (p 5 5)) (p 4 0) (b 4) (b 1) (b 2) (.int 0 (b 3)) (.str a (p 3 2)) (p 5 1+1+1)],[(b 4,ab [] 0)])
theorem kD {b c:Bool} {w:Yc} {m:Nat} {h:Yh} {a d:Str} {f g:Yg} (i:h.Nodup) (j:(a.cps.toList != d.cps.toList)=true) (n:f.length≤500) (k:4≤m):(jF w h a d f g).Sure (B0 (W b c w)) m:=by
 refine (bS i fun p => ?_:aH.Sure (B0 (W b c w)) 4 _).le k
 exact aL.re (KG b c w (gN p) (.ref (p 5 3)) (.ref (p 5 5)) .none (bc p 3 (a::f) 2) (bc p 4 (d::g) 2) a (p 3 2) d (p 4 2) rfl rfl j (by rw [uP,List.length_cons];lia)) fun e=>⟨aB [od (od e) 0,ev (od e) 0,ev (od e) 1,ev e 1,od (od e) 1],rfl⟩
def wo (w:Yc) (f:Yh) (a c d e:Str):aH:=bA (fun p=>fk w (gN p)) f (wj w [a,c] [d,e]) fun p b=>
 (.next,[b8 (p 2 0) 2 (.str c (p 3 3)),am (.ref (p 3 0)) 2,ab (bc p 3 [a,c] 2) (p 3 1),ab (bc p 4 [d,e] 2) (b 0),dC w (gN p) (.ref (p 5 3)) (.ref (p 5 5)) (p 4 0) (b 4) (b 1) (b 2) (.int 1 (b 3)) (.str c (p 3 3)) (p 5 1+1+1)],[(b 4,ab [.str a (p 3 2)] 0)])
theorem BR {b c:Bool} {w:Yc} {m:Nat} {i:Yh} {a g d f:Str} (j:i.Nodup) (k:(a.cps.toList != d.cps.toList)=false) (h:(g.cps.toList != f.cps.toList)=true) (n:4≤m):(wo w i a g d f).Sure (B0 (W b c w)) m:=by
 refine (bS j fun p => ?_:aH.Sure (B0 (W b c w)) 4 _).le n
 refine aL.re (aL.thenRe (bG (W b c w)) (BN b c w (gN p) (.ref (p 5 3)) (.ref (p 5 5)) .none (bc p 3 [a,g] 2) (bc p 4 [d,f] 2) a (p 3 2) d (p 4 2) rfl rfl k) (fun _=>rfl) fun e=>
  KI b c w (pW (gN p) (p 3 1) (od (od e) 0) (p 5 1+1+1) (ev (od e) 0) (ev (od e) 1)) (.ref (p 5 3)) (.ref (p 5 5)) (.str a (p 3 2)) (.int 0 (ev e 1)) (.str a (p 3 2)) (bc p 3 [a,g] 2) (bc p 4 [d,f] 2) g (p 3 3) f (p 4 3) rfl rfl h (by rw [uP];show 2≤1000;lia)) fun e=>⟨aB [od (od (od e)) 0,ev (od (ev e)) 0,ev (od (ev e)) 1,ev (od e) 1,od (od (od e)) 1],rfl⟩
end
theorem bP:∀a∈aD,(a.cps.toList != ("." : Str).cps.toList)=true:=by decide +kernel
theorem jG:∀a:Yg,aP a a=false
 | []=>rfl
 | x::a=>by
  show (if x==x then aP a a else _)=false
  rw [beq_self_eq_true,if_pos rfl]
  exact jG a
theorem KJ:∀a∈aD,Txt.startswith ("/" ++ a) "/" = true:=by decide +kernel
theorem KK:∀a∈aD,∀d∈aD,Txt.startswith ("/" ++ a++("/" ++ d)) "/" = true:=by decide +kernel
theorem cG (r:Yg) (h:cB r):Txt.startswith (aU r) "/" = true:=by
 rcases h with ⟨a,b,rfl⟩ | ⟨a,b,d,c,rfl⟩
 ·exact KJ a b
 ·exact KK a b d c
theorem KL {B:bf} (O:B.Ok) {m:Nat} {c:Code} {g:Ya} {s:Ye→eZ} {k:List aH} (hs:∀o∈k,o.Sure B m) (t:fW c)
  (y L:Nat) (u I:Yh) (K:Nat→Nat→List Oc→Nat→Nat) (U:I.Nodup) (hz:∀a,(s a).2.1.length=g.length)
  (E:∀n C j,j.length=L→(d6 (B.sv k) y u j [] (.code c) (B.den c) g n C []).map (kS I) =
   some (nP (s (K n C j)).1,((g.map (·.1)).zip (s (K n C j)).2.1++(s (K n C j)).2.2).map some,(kU (d6 (B.sv k) y u j [] (.code c) (B.den c) g n C [])).map Ob.r)):aL B (m+1) c g s:=by
 intro A Y h C T d V R N X S hR
 have G:gf (B.sv k) ⟨h,g.map (·.1),A,R,T,d,V⟩:=tO O Y hs rfl S.2
 have D:dp (B.sv k) ⟨h,g.map (·.1),A,R,T,d,V⟩ h g h.objs.size:=⟨rfl,fun p H=>(X p H).1,fun p H=>(X p H).2,N,S.1,fun _ _ e _=>e,fun p H=>.inl (List.mem_map_of_mem (f:=(·.1)) H),Nat.le_refl _⟩
 have z:=tN G y L u [] (.code c) (B.den c) g h.objs.size C [] h (fun j hl=>by
  obtain ⟨o,e,ok,er,ev⟩:=wX (E h.objs.size C j hl)
  refine ⟨o,e,ok,fun h' F => ?_⟩
  have Q:=hR h' o.tk (K h.objs.size C j) (by rw [F.size];exact F.grow) (fun b Z q hb=>F.keep b Z q hb) (fun x hx => ?_) (fun p H => ?_) ?_
  ·rw [er]
   revert Q
   cases (s (K h.objs.size C j)).1 with
   | ok f=>exact id
   | error c'=>exact id
  ·obtain ⟨i,_,w⟩:=i3 ev x (List.mem_append_left _ hx)
   exact F.own x (dj w)
  ·obtain ⟨i,hi,w⟩:=i3 ev p (List.mem_append_right _ H)
   refine ⟨F.own p (dj w),?_⟩
   rcases F.new p (dj w) with v | v
   ·exfalso
    have J:=lN F.nd U ev
    rw [List.map_append,List.map_fst_zip (by rw [hz,List.length_map];exact Nat.le_refl _)] at J
    exact (List.nodup_append.mp J).2.2 p.1 v p.1 (List.mem_map_of_mem H) rfl
   ·exact v
  ·have J:=lN F.nd U ev
   rw [List.map_append] at J
   exact (List.nodup_append.mp J).2.1) t (by show 1≤45;decide) D
 exact codeAny_of_tree (wpAny_mono (O.den▸z) (fun P s' q=>by cases P <;> exact q) fun _ _ q=>q)
theorem KM {b c:Bool} {w:Yc} {m:Nat} {q:Code} {d:Ya} {h:Ye→eZ} {orcs:List aH} (z:∀o∈orcs,o.Sure (B0 (W b c w)) m) (u:fW q)
  (j L:Nat) (i p:Yh) (s:Nat→Nat→(Nat→Oc)→Nat→Nat) (A:p.Nodup) (x:∀a,(h a).2.1.length=d.length)
  (E:∀n k f,(gv b c w orcs j i L f q d n k).map (kS p) =
   some (nP (h (s n k f)).1,((d.map (·.1)).zip (h (s n k f)).2.1++(h (s n k f)).2.2).map some,(kU (gv b c w orcs j i L f q d n k)).map Ob.r)):aL (B0 (W b c w)) (m+1) q d h:=by
 have t:∀g:List Oc,∃f,g=lc g.length f:=sw
 refine KL (bG _) z u j L i p (fun n k g=>s n k (Classical.choose (t g))) A x fun n k g y => ?_
 have e:=Classical.choose_spec (t g)
 have:=E n k (Classical.choose (t g))
 unfold gv at this
 rw [←y,←e] at this
 exact this
def gO (a:Nat):Obj:={cls:=.type "map",data:=.fields #[.ref a,.ref 208]}
section
def KN:Yd→Sem Yd:=PySem.W.Fast.tw8711993805878244202
theorem KO:@pyIter=KN:=PySem.W.Fast.te8711993805878244202
end
section
def BS:Yh:=[1,0,1,0,35,1,2,3,0,3,0,24,3,3,4,3,2,1,2,5,4,5,0,34,1,0,1,0,35,1,2,3,0,3,0,24,3,3,4,3,2,1,3,5,4,5,0,34,1,0,1,0,35,1,2,3,0,3,0,24,3,3,4,3,2,7]
def BU (w:Yc) (x y:Str) (p:af):Code:=.builtin "list.extend.loop" ⟨[.ref (p 5 0),.ref (p 1 0),.ref (p 5 0)],[]⟩
def tp (w:Yc) (x y:Str) (p:af):Ya:=[(p 1 0,gO (p 2 0)),(p 2 0,az [.ref (p 3 0)] 0),(p 3 0,am (.ref (p 4 0)) 0),(p 4 0,ab [.str x (p 4 2),.str y (p 4 3)] (p 4 1)),(p 5 0,ab [] 2)]
def tq (w:Yc) (x y:Str) (p:af) (a:Ye):Flow×Yf×Ya:=(.ret (.ref (p 5 0)),[gO (p 2 0),az [.ref (p 3 0)] 0,am .none 2,ab [.str x (p 4 2),.str y (p 4 3)] (p 4 1),ab [.str x (p 4 2),.str y (p 4 3)] 4],[])
def BV (w:Yc) (x y:Str) (p:af):List aH:=[eb [] x,eb [] y]
def BW (b c:Bool) (w:Yc) (x y:Str) (p:af) (n a:Nat) (f:Nat→Oc):Option cZ:=gv b c w (BV w x y p) 73 BS 2 f (BU w x y p) (tp w x y p) n a
theorem KP (b c:Bool) (w:Yc) (x y:Str) (p:af) (n a:Nat) (f:Nat→Oc):(BW b c w x y p n a f).map (kS [0,1,2,3,4]) =
  some (nP (lM (tq w x y p ((fun _ _ _ _=>0) n a f))).1,(((tp w x y p).map (·.1)).zip (lM (tq w x y p ((fun _ _ _ _=>0) n a f))).2.1++(lM (tq w x y p ((fun _ _ _ _=>0) n a f))).2.2).map some,(kU (BW b c w x y p n a f)).map Ob.r):=by
 kernel_rfl
theorem KQ (b c:Bool) (w:Yc) (x y:Str) (p:af):aC (B0 (W b c w)) 4 (BU w x y p) (tp w x y p) (tq w x y p):=
 KM (orcs:=BV w x y p) (aa (eO [] (by decide) x (by decide)) (aa (eO [] (by decide) y (by decide)) aq)) (wS (by decide +kernel) _) 73 2 BS [0,1,2,3,4] (fun _ _ _ _=>0) (by decide) (fun _=>rfl) fun n a f=>KP b c w x y p n a f
def tr (w:Yc) (p:af):Ya:=[(p 1 0,gO (p 2 0))]
theorem KR (b c:Bool) (w:Yc) (p:af):aI (B0 (W b c w)) 4 (pyIter (.ref (p 1 0))) (tr w p) fun a=>((.ref (p 1 0)),[gO (p 2 0)],[]++[]):=by
 rw [KO]
 exact bt (enc:=dx) eN (orcs:=[]) aq 11 0 [1,1,0,1,0,33,1] [0] none (fun n d f=>fun _=>0)
end
theorem KS:typeLookup (.type "map") "__len__" = pure none:=by rw [typeLookup_type,builtinLookup_eq_fast];kernel_rfl
theorem KU:typeLookup (.type "map") "__length_hint__" = pure none:=by rw [typeLookup_type,builtinLookup_eq_fast];kernel_rfl
section
def du (pl:Yh) (x y:Str):aH:=
 {code:=fun p=>.builtin "proto.collect" ⟨[.ref (p 1 0)],[]⟩,pl,objs:=fun p=>[(p 1 0,gO (p 2 0)),(p 2 0,az [.ref (p 3 0)] 0),(p 3 0,am (.ref (p 4 0)) 0),(p 4 0,ab [.str x (p 4 2),.str y (p 4 3)] (p 4 1))],strm:=true,
  out:=fun p a=>(.ret (.ref (a 0)),[gO (p 2 0),az [.ref (p 3 0)] 0,am .none 2,ab [.str x (p 4 2),.str y (p 4 3)] (p 4 1)],[(a 0,ab [.str x (p 4 2),.str y (p 4 3)] 4)])}
theorem fl {b c:Bool} {w:Yc} {m:Nat} {pl:Yh} {x y:Str} (np:pl.Nodup) (U:5≤m):(du pl x y).Sure (B0 (W b c w)) m:=by
 refine aH.Sure.le (m:=5) ⟨np,fun p A P h tk I d L g l' k Q E nd hn hB hR => ?_⟩ U
 have O:=bG (W b c w)
 have n1:=hn _ (.head _)
 have h1:h.get? (p 1 0)=some (gO (p 2 0)):=n1.1
 have l0:∀q∈(du pl x y).objs p,q.1<h.objs.size:=fun q hq=>ij (hn q hq).1
 refine x_call (hd:=none) ?_ (by intro e;cases e)
 refine codeAny_builtin F.entry_proto_collect ?_
 rw [Around.under_plainId F.plain_proto_collect _]
 have hA1:Lv 4 A.in1:=⟨P.1,by have:=P.2.1;show A.depth+48*4≤900;lia,by have:=P.2.2;show A.units+1+256*4≤9000;lia⟩
 show wpAny _ A.in1 (newList [] >>= fun l=>again (.builtin "list.__iadd__" ⟨[l,.ref (p 1 0)],[]⟩)) _ _ _
 refine wpAny_bind (wpAny_newObj_type ?_)
 refine wpAny_pure ⟨plainId_quiet F.plain_list_iadd _,codeAny_builtin F.entry_list_iadd ?_⟩
 rw [Around.under_plainId F.plain_list_iadd _]
 have s:∀c o,h.get? c=some o→(h.push {cls:=.type "list",data:=.seq ([]:Yb).toArray}).get? c=some o:=fun c o e=>Heap.get?_push_of_some _ e
 have hS:(h.push {cls:=.type "list",data:=.seq ([]:Yb).toArray}).get? h.objs.size=some {cls:=.type "list",data:=.seq #[] 0}:=Heap.get?_push_size _ rfl
 have G:h.objs.size≤(h.push {cls:=.type "list",data:=.seq ([]:Yb).toArray}).objs.size:=by rw [Heap.size_push];exact Nat.le_succ _
 show wpAny _ A.in1 (Builtin.List.listExtendWith (.ref h.objs.size) (.ref (p 1 0)) (.ref h.objs.size)) _ _ ⟨h.push {cls:=.type "list",data:=.seq ([]:Yb).toArray},I,d,tk,L⟩
 generalize (h.push {cls:=.type "list",data:=.seq ([]:Yb).toArray})=H1 at s hS G ⊢
 have hI1:(B0 (W b c w)).In H1:=⟨fun n o e=>s _ _ (hB.1 n o e),Nat.le_trans hB.2 G⟩
 unfold Builtin.List.listExtendWith
 have hT:Shared.TypeIs ⟨H1,I,d,tk,L⟩ (.ref (p 1 0)) "map" := ⟨_,s _ _ h1,rfl⟩
 refine wpAny_bind (wpAny_typeOf hT ?_)
 have hSI:h.objs.size≠p 1 0:=Nat.ne_of_gt (l0 _ (.head _))
 have e1:Builtin.List.listSameRef (.ref h.objs.size) (.ref (p 1 0))=false:=by simp [Builtin.List.listSameRef,hSI]
 have e2:(Value.type "map" == Value.type "list")=false:=by decide
 have e3:(Value.type "map" == Value.type "tuple")=false:=by decide
 simp only [e1,e2,e3,Bool.or_false,Bool.false_eq_true,if_false]
 refine wpAny_bind ((KR b c w p).go A.in1 hA1 H1 tk I d L _ _ (by simp [tr]) (fun q hq => ?_) hI1 fun t C ax le2 kp2 hp2 _ _ => ?_)
 ·have:q=(p 1 0,gO (p 2 0)):=by simpa [tr] using hq
  rw [this];exact ⟨s _ _ h1,n1.2⟩
 have g2:t.get? (p 1 0)=some (gO (p 2 0)):=hp2 (p 1 0,gO (p 2 0)) (.head _)
 have D:∀c o,H1.get? c=some o→t.get? c=some o:=fun c' o e=>by
  by_cases e0:c'=p 1 0
  ·subst e0
   rw [s _ _ h1] at e
   rw [g2];exact e
  ·exact kp2 c' o e fun U=>e0 (by simpa [tr] using U)
 show wpAny _ A.in1 (holding [.ref (p 1 0)] (Builtin.List.listLengthHint (.ref (p 1 0))) >>= _) _ _ ⟨t,I,d,C,L⟩
 have X:Shared.TypeIs ⟨t,I,d,C,L⟩ (.ref (p 1 0)) "map" := ⟨_,g2,rfl⟩
 refine wpAny_bind (wpAny_holding ?_)
 unfold Builtin.List.listLengthHint
 refine wpAny_bind (wpAny_specialOf X KS ?_)
 show wpAny _ A.in1 (specialOf (Value.ref (p 1 0)) (Str.ofString "__length_hint__") >>= _) _ _ _
 refine wpAny_bind (wpAny_specialOf X KU ?_)
 refine wpAny_pure ?_
 show wpAny _ A.in1 (rule "list.extend.makes-room" >>= fun _=>Builtin.List.listTouch (.ref h.objs.size) >>= fun _=>
  again (.builtin "list.extend.loop" ⟨[.ref h.objs.size,.ref (p 1 0),.ref h.objs.size],[]⟩)) _ _ _
 refine wpAny_bind (wpAny_rule ?_)
 have S:t.get? h.objs.size=some {cls:=.type "list",data:=.seq #[] 0}:=D _ _ hS
 refine wpAny_bind ?_
 show wpAny _ A.in1 (updateSeq h.objs.size (·.push .none) >>= fun _=>updateSeq h.objs.size (·.pop)) _ _ _
 refine wpAny_bind (wpAny_updateSeq S rfl ?_)
 have u:=Heap.get?_update_self (Obj.mapSeq (·.push Value.none)) S rfl
 refine wpAny_updateSeq u rfl ?_
 have H:=Heap.get?_update_self (Obj.mapSeq (·.pop)) u rfl
 have oth:∀n o,n≠h.objs.size→t.get? n=some o→((t.update h.objs.size (Obj.mapSeq (·.push Value.none))).update h.objs.size (Obj.mapSeq (·.pop))).get? n=some o:=
  fun n o hb e=>(Heap.get?_update_other _ _ (Ne.symm hb)).trans ((Heap.get?_update_other _ _ (Ne.symm hb)).trans e)
 have R:((t.update h.objs.size (Obj.mapSeq (·.push Value.none))).update h.objs.size (Obj.mapSeq (·.pop))).objs.size=t.objs.size:=by
  rw [(Heap.SameBut.update _ _ _).1,(Heap.SameBut.update _ _ _).1]
 refine wpAny_pure ⟨plainId_quiet F.plain_extend_loop _,?_⟩
 show codeAny _ _ _ _ ⟨(t.update h.objs.size (Obj.mapSeq (·.push Value.none))).update h.objs.size (Obj.mapSeq (·.pop)),I,d,C,L⟩
 have T:((t.update h.objs.size (Obj.mapSeq (·.push Value.none))).update h.objs.size (Obj.mapSeq (·.pop))).get? h.objs.size=some (ab [] 2):=H
 generalize ((t.update h.objs.size (Obj.mapSeq (·.push Value.none))).update h.objs.size (Obj.mapSeq (·.pop)))=H3 at oth R T ⊢
 have N:∀c o,h.get? c=some o→H3.get? c=some o:=fun c' o e=>oth _ _ (Nat.ne_of_lt (ij e)) (D _ _ (s _ _ e))
 have V:h.objs.size≤H3.objs.size:=by rw [R];exact Nat.le_trans G le2
 let q:af:=fun j i=>match j,i with | 5,_=>h.objs.size | j,i=>p j i
 have key:=KQ b c w x y q
 have nd':((tp w x y q).map (·.1)).Nodup:=by
  show ([p 1 0,p 2 0,p 3 0,p 4 0]++[h.objs.size]).Nodup
  refine List.nodup_append.mpr ⟨nd,by simp,fun a ha n K => ?_⟩
  have:n=h.objs.size:=by simpa using K
  rw [this]
  have Y:a∈((du pl x y).objs p).map (·.1):=ha
  obtain ⟨z,J,rfl⟩:=List.mem_map.mp Y
  exact Nat.ne_of_lt (l0 z J)
 refine key A ⟨P.1,by have:=P.2.1;lia,by have:=P.2.2;lia⟩ H3 C I d L _ nd' (fun z J => ?_) ⟨fun n o e=>N _ _ (hB.1 n o e),Nat.le_trans hB.2 V⟩ fun h' tk' ax2 le' kp' hp' Y _ => ?_
 ·have f:z∈(du pl x y).objs p++[(h.objs.size,ab [] 2)]:=J
  rcases List.mem_append.mp f with f | f
  ·exact ⟨N _ _ (hn z f).1,(hn z f).2⟩
  ·have:z=(h.objs.size,ab [] 2):=by simpa using f
   rw [this];exact ⟨T,hB.2⟩
 ·have Z:∀z∈[(p 1 0,gO (p 2 0)),(p 2 0,az [.ref (p 3 0)] 0),(p 3 0,am .none 2),(p 4 0,ab [.str x (p 4 2),.str y (p 4 3)] (p 4 1)),(h.objs.size,ab [.str x (p 4 2),.str y (p 4 3)] 4)],h'.get? z.1=some z.2:=hp'
  refine hR h' tk' (fun _=>h.objs.size) (fun e=>by cases e) (Nat.le_trans V le') (fun n ob e K=>kp' n ob (N _ _ e) fun U => ?_) (fun z J => ?_) (fun z J => ?_) (by simp [du])
  ·have B:n∈[p 1 0,p 2 0,p 3 0,p 4 0]++[h.objs.size]:=U
   rcases List.mem_append.mp B with B | B
   ·exact K B
   ·have:n=h.objs.size:=by simpa using B
    exact absurd (ij e) (by rw [this];exact Nat.lt_irrefl _)
  ·have f:z∈[(p 1 0,gO (p 2 0)),(p 2 0,az [.ref (p 3 0)] 0),(p 3 0,am .none 2),(p 4 0,ab [.str x (p 4 2),.str y (p 4 3)] (p 4 1))]:=J
   exact Z z (by
    have:z∈[(p 1 0,gO (p 2 0)),(p 2 0,az [.ref (p 3 0)] 0),(p 3 0,am .none 2),(p 4 0,ab [.str x (p 4 2),.str y (p 4 3)] (p 4 1))]++[(h.objs.size,ab [.str x (p 4 2),.str y (p 4 3)] 4)]:=List.mem_append_left _ f
    exact this)
  ·have:z=(h.objs.size,ab [.str x (p 4 2),.str y (p 4 3)] 4):=by simpa [du] using J
   subst this
   exact ⟨Z _ (.tail _ (.tail _ (.tail _ (.tail _ (.head _))))),Nat.le_refl _⟩
end
section
open AutoSeq1 (wpAny_loadPart')
def dT (l:Bool):Obj:={cls:=.type "set",data:=.set #[(1,.bool true)] 1 {mask:=7,place:=#[1],dummies:=#[],finger:=0,led:=l,moves:=0,plain:=true}}
def sL (w:Yc):Bool := !w.params.followText "set-order"
def dd (f i:Int) (s:Yd):Obj:={cls:=.type "set_iterator",data:=.fields #[.int f 0,.int i 0,s,.int 1 0,.int 1 0]}
theorem BX {α : Type} (next:Ye) (x : α):pickOrder next #[x] = #[x]:=by
 unfold pickOrder
 show pickOrder.go next 1 0 [x] #[] = #[x]
 unfold pickOrder.go
 simp [Nat.mod_one,pickOrder.go]
theorem KV:entryFor table "set.__iter__" = some Builtin.«frozenset.__iter__» := entryFor_alias (id':="frozenset.__iter__") (by kernel_rfl) rfl (by decide +kernel) (by kernel_rfl)
theorem BY:Slot "set_iterator" "__next__" "set_iterator.__next__" :=
 .of (owner:="set_iterator") (n:="__next__") (by rw [typeLookup_type,builtinLookup_eq_fast];kernel_rfl) (by decide +kernel) (by decide +kernel) (by decide +kernel)
  (by first | exact .inl (by decide +kernel) | exact .inr (by decide +kernel)) (by rw [isSubtype_type];kernel_rfl)
theorem BZ:entryFor table "set_iterator.__next__" = some Builtin.«set_iterator.__next__» := entryFor_of_tree (by kernel_rfl)
theorem B4 (a:Yd):argsOk "set_iterator.__next__" ⟨[a],[]⟩:=by unfold argsOk;kernel_rfl
section
variable {prog:Program} {w:Yc} {A:Around} {E:Yd→Shared→Prop} {Q:Yd→Shared→Prop}
theorem KW {h:Heap} {f:Nat} {g:Array GenState} {d:Drawn} {c:OsState} {a:Addr} {l:Bool} (b:h.get? a=some (dT l)) (i:Q (.ref h.objs.size) ⟨h.push (dd 0 0 (.ref a)),g,d,f,c⟩) :
  wpAny (model prog w) A (call (.builtin "set.__iter__") [.ref a]) Q E ⟨h,g,d,f,c⟩:=by
 refine wpAny_call_entry F.slot_set_iter ⟨_,b,rfl⟩ KV ?_ (F.args_set_iter_1 _)
 unfold Builtin.«frozenset.__iter__»
 unfold dT at b
 wp_walk using wpAny_loadPart' b
 refine wpAny_askSetting (wpAny_pure (wpAny_pure ?_))
 have e:∀t:Bool,(!t&&false)=false:=by decide
 refine (show ∀z:Bool,z=false→wpAny (model prog w) A.in1 (if z=true then _ else _) _ _ _ from fun z j => ?_) _ (e _)
 subst j
 rw [if_neg (by decide)]
 refine wpAny_bind (wpAny_pure ?_)
 wp_walk using wpAny_loadPart' b
 exact ⟨_,rfl,i⟩
def sF (w:Yc):Int:=match w.params.followText "set-order" with
 | true=>0
 | false=>2
theorem B5 {h:Heap} {i a:Addr} {f g:Int} (d:h.get? i=some (dd f 0 (.ref a))):∀b,b=(h.update i (Obj.mapFields fun x=>x.setIfInBounds 0 (.int g 0))).update i (Obj.mapFields fun x=>x.setIfInBounds 1 (rawInt (0+1)))→Heap.SameBut i h b∧b.get? i=some (dd g 1 (.ref a)):=by
 intro b e
 subst e
 have j:=Heap.get?_update_self (Obj.mapFields fun x=>x.setIfInBounds 0 (.int g 0)) d rfl
 have c:=Heap.get?_update_self (Obj.mapFields fun x=>x.setIfInBounds 1 (rawInt (0+1))) j rfl
 refine ⟨(Heap.SameBut.update ..).trans (Heap.SameBut.update ..),c.trans ?_⟩
 simp [dd,Obj.mapFields,rawInt]
theorem KX {h:Heap} {p:Nat} {q:Array GenState} {d:Drawn} {s:OsState} {i a:Addr} (b:h.get? i=some (dd 0 0 (.ref a))) (c:h.get? a=some (dT (sL w)))
  (j:∀k,Heap.SameBut i h k→k.get? i=some (dd (sF w) 1 (.ref a))→Q (.bool true) ⟨k,q,d,p,s⟩) :
  wpAny (model prog w) A (call (.builtin "set_iterator.__next__") [.ref i]) Q E ⟨h,q,d,p,s⟩:=by
 have f:=b
 refine wpAny_call_entry BY ⟨_,b,rfl⟩ BZ ?_ (B4 _)
 unfold Builtin.«set_iterator.__next__»
 cases e:w.params.followText "set-order" with
 | false=>
  have o:sL w=true:=by unfold sL;rw [e];rfl
  rw [o] at c
  unfold dT at c
  unfold dd at b
  wp_walk using wpAny_loadPart' c,wpAny_loadPart' b
  refine wpAny_askSetting (wpAny_pure ?_)
  have n:sF w=2:=by unfold sF;rw [e]
  rw [n] at j
  rw [show (⟨(model prog w).prog,(model prog w).w.params⟩:Setting).params.followText "set-order" = false from e,if_neg (by decide)]
  show wpAny _ _ (if _=true then _ else _) _ _ _
  rw [if_neg (by decide)]
  wp_walk using wpAny_loadPart' c,wpAny_loadPart' b
  obtain ⟨q1,q2⟩:=B5 (g:=2) f _ rfl
  exact ⟨_,rfl,j _ q1 q2⟩
 | true=>
  have o:sL w=false:=by unfold sL;rw [e];rfl
  rw [o] at c
  unfold dT at c
  unfold dd at b
  wp_walk using wpAny_loadPart' c,wpAny_loadPart' b
  refine wpAny_askSetting (wpAny_pure ?_)
  have n:sF w=0:=by unfold sF;rw [e]
  rw [n] at j
  rw [show (⟨(model prog w).prog,(model prog w).w.params⟩:Setting).params.followText "set-order" = true from e,if_pos rfl]
  wp_walk using wpAny_loadPart' c,wpAny_loadPart' b
  refine wpAny_askSetting (wpAny_pure ?_)
  rw [show (⟨(model prog w).prog,(model prog w).w.params⟩:Setting).params.followText "set-order" = true from e,if_pos rfl]
  refine wpAny_bind (wpAny_askSetting (wpAny_pure ?_))
  rw [BX]
  refine wpAny_pure ?_
  wp_walk using wpAny_loadPart' c,wpAny_loadPart' b
  obtain ⟨q1,q2⟩:=B5 (g:=0) f _ rfl
  exact ⟨_,rfl,j _ q1 q2⟩
theorem KY {h:Heap} {c:Nat} {g:Array GenState} {d:Drawn} {b:OsState} {i:Addr} {f:Int} {q:Yd} {s:Fin→Shared→Prop} (p:A.handled=none) (o:h.get? i=some (dd f 1 q))
  (t:∀j,j=((h.update i (Obj.mapFields (·.setIfInBounds 2 .none))).push {cls:=.type "tuple",data:=.seq ([]:Yb).toArray}).push (j7 h.objs.size)→E (.ref (h.objs.size+1)) ⟨j,g,d,c,b⟩) :
  wpAny (model prog w) A (do setField (.ref i) 2 .none;let e ←newExc (.type "StopIteration") [];(raiseNew e:Sem Fin)) s E ⟨h,g,d,c,b⟩:=by
 refine wpAny_bind (wpAny_setField o rfl (by simp [dd]) ?_)
 have n:(h.update i (Obj.mapFields (·.setIfInBounds 2 .none))).objs.size=h.objs.size:=(Heap.SameBut.update ..).1
 refine wpAny_bind ?_
 simp only [newExc,newTuple]
 refine wpAny_bind (wpAny_newObj_type ?_ (by size_fits))
 refine wpAny_bind (m:=firstArgMember _ _) (wpAny_of_eq (a:=Value.none) (by first | rfl | (simp only [firstArgMember];rfl)) ?_)
 refine wpAny_newObj_type ?_ (by size_fits)
 simp only [raiseNew]
 refine wpAny_bind (wpAny_handled ?_)
 rw [p]
 refine wpAny_bind (wpAny_pure (wpAny_throw ?_))
 have z:=t _ rfl
 rw [←n] at z
 have k:(h.update i (Obj.mapFields (·.setIfInBounds 2 .none))).objs.size+1=((h.update i (Obj.mapFields (·.setIfInBounds 2 .none))).push {cls:=.type "tuple",data:=.seq ([]:Yb).toArray}).objs.size:=(Heap.size_push _ _).symm
 rw [k] at z
 exact z
theorem KZ {h:Heap} {o:Nat} {s:Array GenState} {d:Drawn} {t:OsState} {i a:Addr} (q:A.handled=none) (b:h.get? i=some (dd (sF w) 1 (.ref a))) (c:h.get? a=some (dT (sL w)))
  (n:∀p,p=((h.update i (Obj.mapFields (·.setIfInBounds 2 .none))).push {cls:=.type "tuple",data:=.seq ([]:Yb).toArray}).push (j7 h.objs.size)→E (.ref (h.objs.size+1)) ⟨p,s,d,o,t⟩) :
  wpAny (model prog w) A (call (.builtin "set_iterator.__next__") [.ref i]) Q E ⟨h,s,d,o,t⟩:=by
 have g:=b
 refine wpAny_call_entry BY ⟨_,b,rfl⟩ BZ ?_ (B4 _)
 unfold Builtin.«set_iterator.__next__»
 cases f:w.params.followText "set-order" with
 | false=>
  have k:sL w=true:=by unfold sL;rw [f];rfl
  rw [k] at c
  unfold dT at c
  unfold dd at b
  wp_walk using wpAny_loadPart' c,wpAny_loadPart' b
  refine wpAny_askSetting (wpAny_pure ?_)
  have j:sF w=2:=by unfold sF;rw [f]
  rw [j] at b g
  rw [show (⟨(model prog w).prog,(model prog w).w.params⟩:Setting).params.followText "set-order" = false from f,if_neg (by decide)]
  show wpAny _ _ (if _=true then _ else _) _ _ _
  rw [if_neg (by decide)]
  simp only [j]
  wp_walk using wpAny_loadPart' c
  have x:(h.update i (Obj.mapFields (·.setIfInBounds 2 .none))).objs.size=h.objs.size:=(Heap.SameBut.update ..).1
  simp only [raiseNew]
  refine wpAny_bind (wpAny_handled ?_)
  rw [show A.in1.handled=none from q]
  refine wpAny_bind (wpAny_pure (wpAny_throw ?_))
  have z:=n _ rfl
  rw [←x] at z
  have u:(h.update i (Obj.mapFields (·.setIfInBounds 2 .none))).objs.size+1=((h.update i (Obj.mapFields (·.setIfInBounds 2 .none))).push {cls:=.type "tuple",data:=.seq ([]:Yb).toArray}).objs.size:=(Heap.size_push _ _).symm
  rw [u] at z
  exact z
 | true=>
  have k:sL w=false:=by unfold sL;rw [f];rfl
  rw [k] at c
  unfold dT at c
  unfold dd at b
  wp_walk using wpAny_loadPart' c,wpAny_loadPart' b
  refine wpAny_askSetting (wpAny_pure ?_)
  have j:sF w=0:=by unfold sF;rw [f]
  rw [j] at b g
  rw [show (⟨(model prog w).prog,(model prog w).w.params⟩:Setting).params.followText "set-order" = true from f,if_pos rfl]
  wp_walk using wpAny_loadPart' c
  refine wpAny_askSetting (wpAny_pure ?_)
  rw [show (⟨(model prog w).prog,(model prog w).w.params⟩:Setting).params.followText "set-order" = true from f,if_pos rfl]
  refine wpAny_bind (wpAny_askSetting (wpAny_pure ?_))
  rw [BX]
  refine wpAny_pure ?_
  show wpAny _ A.in1 (do setField (.ref i) 2 .none;let e ←newExc (.type "StopIteration") [];(raiseNew e:Sem Fin)) _ _ _
  exact KY (A:=A.in1) q g n
end
section
variable {B:bf} {m:Nat}
def dD (w:Yc) (j:Nat):aH:={code:=fun p=>.call (.builtin "set.__iter__") ⟨[.ref (p 1 0)],[]⟩,pl:=[j],objs:=fun p=>[(p 1 0,dT (sL w))],strm:=true,out:=fun p a=>(.ret (.ref (a 0)),[dT (sL w)],[(a 0,dd 0 0 (.ref (p 1 0)))])}
theorem fm {w:Yc} {j:Nat}:(dD w j).Sure B m:=by
 refine ⟨by simp [dD],fun p A o h f t d u g l k Q E nd i _ n=>d7 ?_⟩
 have c:h.get? (p 1 0)=some (dT (sL w)):=(i _ (.head _)).1
 refine KW c ?_
 refine n _ f (fun _=>h.objs.size) (fun e=>by cases e) (by rw [Heap.size_push];exact Nat.le_succ _) (fun b s q _=>Heap.get?_push_of_some _ q) (fun y a => ?_) (fun y a => ?_) (by simp [dD])
 ·have:y=(p 1 0,dT (sL w)):=by simpa [dD] using a
  rw [this];exact Heap.get?_push_of_some _ c
 ·have:y=(h.objs.size,dd 0 0 (.ref (p 1 0))):=by simpa [dD] using a
  rw [this];exact ⟨Heap.get?_push_size _ rfl,Nat.le_refl _⟩
def d4 (w:Yc) (b a:Nat):aH:={code:=fun p=>.call (.builtin "set_iterator.__next__") ⟨[.ref (p 1 0)],[]⟩,pl:=[b,a],objs:=fun p=>[(p 1 0,dd 0 0 (.ref (p 2 0))),(p 2 0,dT (sL w))],strm:=true,out:=fun p c=>(.ret (.bool true),[dd (sF w) 1 (.ref (p 2 0)),dT (sL w)],[])}
theorem fo {b c:Bool} {w:Yc} {n i:Nat} (u:n≠i):(d4 w n i).Sure (B0 (W b c w)) m:=by
 refine ⟨by simp [d4,u],fun p A I h x K d L g l k Q E nd j _ H=>d7 ?_⟩
 have t:h.get? (p 1 0)=some (dd 0 0 (.ref (p 2 0))):=(j _ (.head _)).1
 have o:h.get? (p 2 0)=some (dT (sL w)):=(j _ (.tail _ (.head _))).1
 have F:p 1 0≠p 2 0:=by
  have:[p 1 0,p 2 0].Nodup:=nd
  simpa using this
 refine KX (w:=W b c w) t o fun D f s => ?_
 refine H D x id (fun e=>by cases e) (by rw [f.1];exact Nat.le_refl _) (fun G J q C=>(f.2 G fun z=>C (by rw [z];exact .head _)).trans q) (fun y a => ?_) (fun _ a=>nomatch a) List.nodup_nil
 have:y=(p 1 0,dd (sF w) 1 (.ref (p 2 0)))∨y=(p 2 0,dT (sL w)):=by simpa [d4] using a
 rcases this with rfl | rfl
 ·exact s
 ·exact (f.2 _ (Ne.symm F)).trans o
def dE (w:Yc) (c b:Nat):aH:={code:=fun p=>.call (.builtin "set_iterator.__next__") ⟨[.ref (p 1 0)],[]⟩,pl:=[c,b],objs:=fun p=>[(p 1 0,dd (sF w) 1 (.ref (p 2 0))),(p 2 0,dT (sL w))],strm:=true,bad:=true,out:=fun p a=>(.ret (.ref (a 0)),[dd (sF w) 1 .none,dT (sL w)],[(a 0,j7 (a 1))])}
theorem fp {b c:Bool} {w:Yc} {F u:Nat} (J:F≠u):(dE w F u).Sure (B0 (W b c w)) m:=by
 refine ⟨by simp [dE,J],fun p A I h K R d S g l k Q E nd D _ O=>d7 ?_⟩
 have t:h.get? (p 1 0)=some (dd (sF w) 1 (.ref (p 2 0))):=(D _ (.head _)).1
 have H:h.get? (p 2 0)=some (dT (sL w)):=(D _ (.tail _ (.head _))).1
 have N:p 1 0≠p 2 0:=by
  have:[p 1 0,p 2 0].Nodup:=nd
  simpa using this
 refine KZ (w:=W b c w) I.1 t H fun P e => ?_
 have f:Heap.SameBut (p 1 0) h (h.update (p 1 0) (Obj.mapFields (·.setIfInBounds 2 .none))):=Heap.SameBut.update ..
 have G:(h.update (p 1 0) (Obj.mapFields (·.setIfInBounds 2 .none))).get? (p 1 0)=some (dd (sF w) 1 .none):=by
  refine (Heap.get?_update_self _ t rfl).trans ?_
  simp [dd,Obj.mapFields]
 have j:(h.update (p 1 0) (Obj.mapFields (·.setIfInBounds 2 .none))).objs.size=h.objs.size:=f.1
 generalize (h.update (p 1 0) (Obj.mapFields (·.setIfInBounds 2 .none)))=n at f G j e
 subst e
 have x:∀(o C:Obj) b a,n.get? b=some a→((n.push o).push C).get? b=some a:=fun o C b a q=>Heap.get?_push_of_some _ (Heap.get?_push_of_some _ q)
 have q:=Heap.get?_push_size (n.push {cls:=.type "tuple",data:=.seq ([]:Yb).toArray}) (o:=j7 h.objs.size) rfl
 refine O _ K (fun i=>match i with | 0=>h.objs.size+1 | _=>h.objs.size) (fun e=>by cases e) ?_ (fun b a q L=>x _ _ _ _ ?_) (fun y s=>x _ _ _ _ ?_) (fun y s => ?_) (by simp [dE])
 ·rw [Heap.size_push,Heap.size_push,j];exact Nat.le_add_right _ 2
 ·exact (f.2 _ fun z=>L (by rw [z];exact .head _)).trans q
 ·have:y=(p 1 0,dd (sF w) 1 .none)∨y=(p 2 0,dT (sL w)):=by simpa [dE] using s
  rcases this with rfl | rfl
  ·exact G
  ·exact (f.2 _ (Ne.symm N)).trans H
 ·have:y=(h.objs.size+1,j7 h.objs.size):=by simpa [dE] using s
  subst this
  refine ⟨?_,Nat.le_succ _⟩
  rw [Heap.size_push,j] at q
  exact q
end
end
section
variable {B:bf} {m:Nat}
def dU (j:Nat) (b:af→Yb):aH:={code:=fun p=>.call (.type "enumerate") ⟨[.ref (p 1 0)],[]⟩,pl:=[j],objs:=fun p=>[(p 1 0,ab (b p) (p 1 1))],strm:=true,out:=fun p a=>(.ret (.ref (a 0)),[ab (b p) (p 1 1)],[(a 1,am (.ref (p 1 0)) 0),(a 0,b8 (a 1) 0 .none)])}
theorem fq {j:Nat} {a:af→Yb}:(dU j a).Sure B m:=by
 refine ⟨by simp [dU],fun p A C h t D d G g l k Q E nd w _ z=>d7 ?_⟩
 have s:h.get? (p 1 0)=some (ab (a p) (p 1 1)):=(w _ (.head _)).1
 refine callType_new F.called_enumerate (by decide) (F.typeCall_enumerate_1 _) (F.newCall_enumerate_1 _) (fun n=>F.args_object_init_2 n _) F.entry_enumerate_new (meets_enumerate_new (p 1 0) (a p).toArray (p 1 1)) ⟨s,?_⟩
 have c:(h.push {cls:=.type "list_iterator",data:=.fields #[.ref (p 1 0),.int 0 0]}).objs.size=h.objs.size+1:=Heap.size_push ..
 show _∧_
 rw [c]
 have q:((h.push {cls:=.type "list_iterator",data:=.fields #[.ref (p 1 0),.int 0 0]}).push {cls:=.type "enumerate",data:=.fields #[.none,.bool false,.ref h.objs.size,rawInt 0,.none,.none]}).get? (h.objs.size+1)=some (b8 h.objs.size 0 .none):=by
  have:=Heap.get?_push_size (h.push {cls:=.type "list_iterator",data:=.fields #[.ref (p 1 0),.int 0 0]}) (o:={cls:=.type "enumerate",data:=.fields #[.none,.bool false,.ref h.objs.size,rawInt 0,.none,.none]}) rfl
  rw [c] at this;exact this
 refine ⟨⟨_,q,rfl⟩,?_⟩
 refine z _ t (fun i=>match i with | 0=>h.objs.size+1 | _=>h.objs.size) (fun e=>by cases e) (by rw [Heap.size_push,c];exact Nat.le_add_right _ 2) (fun b o x _=>Heap.get?_push_of_some _ (Heap.get?_push_of_some _ x)) (fun y f => ?_) (fun y f => ?_) ?_
 ·have:y=(p 1 0,ab (a p) (p 1 1)):=by simpa [dU] using f
  rw [this];exact Heap.get?_push_of_some _ (Heap.get?_push_of_some _ s)
 ·have:y=(h.objs.size,am (.ref (p 1 0)) 0)∨y=(h.objs.size+1,b8 h.objs.size 0 .none):=by simpa [dU] using f
  rcases this with rfl | rfl
  ·exact ⟨Heap.get?_push_of_some _ (Heap.get?_push_size _ rfl),Nat.le_refl _⟩
  ·exact ⟨q,Nat.le_succ _⟩
 ·show [h.objs.size,h.objs.size+1].Nodup
  rw [List.nodup_cons]
  refine ⟨fun u => ?_,by simp⟩
  have:h.objs.size=h.objs.size+1:=by simpa using u
  exact absurd this (Nat.ne_of_lt (Nat.lt_succ_self _))
end
section
def B6:Yh:=[1,4,4,4,2,6,7,6,3,8,8,0,8,0,23,9,4,1,0,11,11,10]
def kE (w:Yc) (a:List c7) (p:af):Ya:=[(p 8 0,aG w [("script",p 8 2,.ref (p 16 0))] (p 8 1)),(p 9 0,dc),(p 13 0,dc),(p 16 0,ab (a.map cx) (p 16 1))]
def wq (w:Yc) (b:List c7) (p:af) (a:Ye):Flow:=.next
def wr (w:Yc) (b:List c7) (p:af) (a:Ye):Yf:=[aG w [("script",p 8 2,.ref (p 16 0)),("rows",a 1,.ref (a 0))] (p 8 1+1),dc,dc,ab (b.map cx) (p 16 1)]
def wt (w:Yc) (b:List c7) (p:af) (a:Ye):Ya:=[(a 0,ab (aT (eU b) fun i=>a (i+3)) (a 2))]
def wu (w:Yc) (b:List c7) (p:af) (a:Ye):Ya:=be (eU b) fun i=>a (i+3)
def B7 (w:Yc) (a:List c7) (p:af):List aH:=[c3 3 4 (fun _=>a.map cx) none (some 6) (fun _=>(a.take 6).map cx),lA 5 6 (fun _=>(a.take 6).map cx) (fun p=>kC (p 2)),Bs w [8,7,9,10,6] a]
def wv (w:Yc) (a:List c7) (p:af):Sem Flow:=nk [sS w 0] (bm w p)
def K0 (b c:Bool) (w:Yc) (a:List c7) (p:af) (n d:Nat) (f:Nat→Oc):Option cZ:=mX b c w (B7 w a p) 56 B6 3 f (wv w a p) cc (kE w a p) n d
def pT (w:Yc) (a:List c7) (p:af) (n b:Nat) (f:Nat→Oc):Nat→Nat:=fun i=>match i with | 0=>(f 1).1+1 | 1=>(f 2).2.1+0 | 2=>(nB [(131,(f 0).2.1+0),(6,(f 0).2.1+1),(14,(f 0).2.1+2),(8,(f 0).2.1+3),(37,(f 0).2.1+4),(75,(f 0).2.1+5)] a 0 (f 2).2.2).t | j+3=>(f 2).2.2 j
theorem K1 (b c:Bool) (w:Yc) (a:List c7) (p:af) (n d:Nat) (f:Nat→Oc):ib (K0 b c w a p n d f) [0,1,2,3,9] (some 11) (kE w a p) (cc (wq w a p (pT w a p n d f))) (wr w a p (pT w a p n d f)) (wt w a p (pT w a p n d f)) (wu w a p (pT w a p n d f)):=by
 delta ib
 kernel_rfl
theorem K2 (b c:Bool) (w:Yc) (a:List c7) (p:af) (g:a.length≤63):aI (B0 (W b c w)) 6 (execs [sS w 0] (bm w p)) (kE w a p) fun d=>(wq w a p d,wr w a p d,wt w a p d++wu w a p d):=by
 have h:=bt (m:=5) (t:=wv w a p) (need:=kE w a p) (val:=wq w a p) (objs:=wr w a p) (ads:=wt w a p) (tail:=wu w a p) (enc:=cc) cD (orcs:=B7 w a p) (aa (dA (by decide) (fun _=>by rw [List.length_map];lia) (fun _=>Kc a)) (aa (Bm (by decide) (fun _=>by rw [List.length_map,List.length_take];show min 6 a.length+6≤1000;lia)) (aa (Ke (by decide) (by decide)) aq))) 56 3 B6 [0,1,2,3,9] (some 11) (pT w a p) (by decide) ((by decide:∀i∈([0,1,2,3,9]:Yh),i<11)) ((fun h=>by cases h)) (by intro _;kernel_rfl) fun n e f=>K1 b c w a p n e f
 unfold wv at h
 rw [←cE] at h
 exact h
def B8:Yh:=[1,4,4,0,4,0,23,5,2,1,0,7,7,6]
def jH (w:Yc) (R:bu) (p:af):Ya:=[(p 8 0,aG w [("script",p 8 2,.ref (p 16 0)),("rows",p 8 4,.ref (p 6 0))] (p 8 1)),(p 9 0,dc),(p 13 0,dc),(p 6 0,ab (aT R (p 20)) (p 6 1))]
def ww (w:Yc) (R:bu) (p:af) (a:Ye):Flow:=.next
def wx (w:Yc) (R:bu) (p:af) (a:Ye):Yf:=[aG w [("script",p 8 2,.ref (p 16 0)),("rows",p 8 4,.ref (p 6 0)),("written",a 1,.ref (a 0))] (p 8 1+1),dc,dc,ab (aT R (p 20)) (p 6 1)]
def wy (w:Yc) (R:bu) (p:af) (a:Ye):Ya:=[(a 0,ab (aT (R.map (·.map ao)) fun i=>a (i+3)) (a 2))]
def wz (w:Yc) (R:bu) (p:af) (a:Ye):Ya:=be (R.map (·.map ao)) fun i=>a (i+3)
def B9 (w:Yc) (R:bu) (p:af):List aH:=[A7 w [4,3,5,6] R (p 20)]
def wA (w:Yc) (R:bu) (p:af):Sem Flow:=nk [sS w 1] (bm w p)
def K3 (b c:Bool) (w:Yc) (R:bu) (p:af) (n a:Nat) (f:Nat→Oc):Option cZ:=mX b c w (B9 w R p) 33 B8 1 f (wA w R p) cc (jH w R p) n a
def pU (w:Yc) (R:bu) (p:af) (n a:Nat) (f:Nat→Oc):Nat→Nat:=fun i=>match i with | 0=>n+1 | 1=>(f 0).2.1+0 | 2=>(bT R (p 20) 0 (f 0).2.2).t | j+3=>(f 0).2.2 j
theorem K4 (b c:Bool) (w:Yc) (R:bu) (p:af) (n a:Nat) (f:Nat→Oc):ib (K3 b c w R p n a f) [0,1,2,3,5] (some 7) (jH w R p) (cc (ww w R p (pU w R p n a f))) (wx w R p (pU w R p n a f)) (wy w R p (pU w R p n a f)) (wz w R p (pU w R p n a f)):=by
 delta ib
 kernel_rfl
theorem K5 (b c:Bool) (w:Yc) (R:bu) (p:af) (d:∀r∈R,b7 r) (j:6≤R.length) (e:R.length≤12):aI (B0 (W b c w)) 6 (execs [sS w 1] (bm w p)) (jH w R p++be R (p 20)) fun a=>(ww w R p a,wx w R p a++bH (be R (p 20)),wy w R p a++wz w R p a):=by
 have h:=mY (m:=5) (t:=wA w R p) (need:=jH w R p) (val:=ww w R p) (objs:=wx w R p) (ads:=wy w R p) (tail:=wz w R p) (enc:=cc) cD (orcs:=B9 w R p) (be R (p 20)) (jk (JZ (by decide) d (by lia) (by lia) (by decide)) pc) 33 1 B8 [0,1,2,3,5] (some 7) (pU w R p) (by decide) ((by decide:∀i∈([0,1,2,3,5]:Yh),i<7)) ((fun h=>by cases h)) (by intro _;kernel_rfl) fun n g f=>K4 b c w R p n g f
 unfold wA at h
 rw [←cE] at h
 exact h
def pV (w:Yc) (p:af):Ya:=[(p 8 0,aG w [("script",p 8 2,.ref (p 16 0)),("rows",p 8 4,.ref (p 6 0)),("written",p 8 6,.ref (p 7 0))] (p 8 1)),(p 9 0,dc),(p 13 0,dc)]
theorem K6 (b c:Bool) (w:Yc) (p:af):aI (B0 (W b c w)) 6 (execs [sS w 2] (bm w p)) (pV w p) fun a=>(.next,[aG w [("script",p 8 2,.ref (p 16 0)),("rows",p 8 4,.ref (p 6 0)),("written",p 8 6,.ref (p 7 0))] (p 8 1),dc,aJ (.ref (a 0))],[(a 0,aZ w fun i=>a (i+1))]++[]):=by
 rw [cE]
 exact bt (enc:=cc) cD (orcs:=[]) aq 101 0 [0,0,88,4,4,3,4,0,0,88,4,4,3,4,0,0,88,4,4,3,4,0,0,88,4,4,3,4,0,0,88,4,4,3,4,0,0,88,4,4,3,4,3,2] [0,1,2,3] none (fun n d f=>fun i=>match i with | 0=>n | j+1=>d+j)
def dV (w:Yc) (R:bu) (p:af):Ya:=[(p 8 0,aG w [("script",p 8 2,.ref (p 16 0)),("rows",p 8 4,.ref (p 6 0)),("written",p 8 6,.ref (p 7 0))] (p 8 1)),(p 9 0,dc),(p 13 0,aJ (.ref (p 15 0))),(p 15 0,aZ w fun i=>p 15 (i+1)),(p 6 0,ab (aT R (p 20)) (p 6 1)),(p 7 0,ab (aT (R.map (·.map ao)) (p 21)) (p 7 1))]
theorem K7 (b c:Bool) (w:Yc) (R:bu) (p:af):aI (B0 (W b c w)) 6 (eval (d1 (bN (sS w 3))) (bm w p)) (dV w R p) fun a=>((.ref (p 7 0)),[aG w [("script",p 8 2,.ref (p 16 0)),("rows",p 8 4,.ref (p 6 0)),("written",p 8 6,.ref (p 7 0))] (p 8 1),dc,aJ (.ref (p 15 0)),aZ w fun i=>p 15 (i+1),ab (aT R (p 20)) (p 6 1),ab (aT (R.map (·.map ao)) (p 21)) (p 7 1)],[]++[]):=by
 rw [dQ]
 exact bt (enc:=dx) eN (orcs:=[]) aq 5 0 [1] [0,1,2,3,4,5] none (fun n d f=>fun _=>0)
def Ca:Yh:=[1,5,5,0,5,0,23,7,2,9,9,8]
def pX (w:Yc) (R:bu) (p:af):Ya:=[(p 8 0,aG w [("script",p 8 2,.ref (p 16 0)),("rows",p 8 4,.ref (p 6 0)),("written",p 8 6,.ref (p 7 0))] (p 8 1)),(p 9 0,dc),(p 13 0,aJ (.ref (p 15 0))),(p 15 0,aZ w fun i=>p 15 (i+1)),(p 6 0,ab (aT R (p 20)) (p 6 1)),(p 7 0,ab (aT (R.map (·.map ao)) (p 21)) (p 7 1))]
def wB (w:Yc) (R:bu) (p:af) (a:Ye):Yd:=.ref (a 0)
def wC (w:Yc) (R:bu) (p:af) (a:Ye):Yf:=[aG w [("script",p 8 2,.ref (p 16 0)),("rows",p 8 4,.ref (p 6 0)),("written",p 8 6,.ref (p 7 0))] (p 8 1),dc,aJ (.ref (p 15 0)),aZ w fun i=>p 15 (i+1),ab (aT R (p 20)) (p 6 1),ab (aT (R.map (·.map ao)) (p 21)) (p 7 1)]
def wD (w:Yc) (R:bu) (p:af) (a:Ye):Ya:=[(a 0,ab (c0 eQ (b9 R (p 20)) fun i=>a (i+2)) (a 1))]
def wE (w:Yc) (R:bu) (p:af) (a:Ye):Ya:=fN nw (b9 R (p 20)) fun i=>a (i+2)
def Cb (w:Yc) (R:bu) (p:af):List aH:=[A6 w [6,4,7,8,2,3] R (p 20)]
def wF (w:Yc) (R:bu) (p:af):Sem Yd:=AF (db (bN (sS w 3))) (bm w p)
def K8 (b c:Bool) (w:Yc) (R:bu) (p:af) (n a:Nat) (f:Nat→Oc):Option cZ:=mX b c w (Cb w R p) 23 Ca 1 f (wF w R p) dx (pX w R p) n a
def pY (w:Yc) (R:bu) (p:af) (n a:Nat) (f:Nat→Oc):Nat→Nat:=fun i=>match i with | 0=>n+1 | 1=>(nx R (p 20) 0 (f 0).2.2).t | j+2=>(f 0).2.2 j
theorem K9 (b c:Bool) (w:Yc) (R:bu) (p:af) (n a:Nat) (f:Nat→Oc):ib (K8 b c w R p n a f) [0,1,2,3,4,5,7] (some 9) (pX w R p) (dx (wB w R p (pY w R p n a f))) (wC w R p (pY w R p n a f)) (wD w R p (pY w R p n a f)) (wE w R p (pY w R p n a f)):=by
 delta ib
 kernel_rfl
theorem La (b c:Bool) (w:Yc) (R:bu) (p:af) (d:∀r∈R,b7 r) (j:6≤R.length) (e:R.length≤12):aI (B0 (W b c w)) 6 (eval (db (bN (sS w 3))) (bm w p)) (pX w R p++be R (p 20)) fun a=>(wB w R p a,wC w R p a++bH (be R (p 20)),wD w R p a++wE w R p a):=by
 have h:=mY (m:=5) (t:=wF w R p) (need:=pX w R p) (val:=wB w R p) (objs:=wC w R p) (ads:=wD w R p) (tail:=wE w R p) (enc:=dx) eN (orcs:=Cb w R p) (be R (p 20)) (jk (JX (by decide) d (by lia) (by lia) (by decide)) pc) 23 1 Ca [0,1,2,3,4,5,7] (some 9) (pY w R p) (by decide) ((by decide:∀i∈([0,1,2,3,4,5,7]:Yh),i<9)) ((fun h=>by cases h)) (by intro _;kernel_rfl) fun n g f=>K9 b c w R p n g f
 unfold wF at h
 rw [←dQ] at h
 exact h
def Cc (w:Yc) (p:af):Ya:=[(p 8 0,aG w [("script",p 8 2,.ref (p 16 0)),("rows",p 8 4,.ref (p 6 0)),("written",p 8 6,.ref (p 7 0))] (p 8 1)),(p 9 0,dc)]
theorem Lb (b c:Bool) (w:Yc) (p:af):aI (B0 (W b c w)) 6 (execs [sS w 4] (bm w p)) (Cc w p) fun a=>(.next,[aG w [("script",p 8 2,.ref (p 16 0)),("rows",p 8 4,.ref (p 6 0)),("written",p 8 6,.ref (p 7 0))] (p 8 1),aJ (.ref (a 0))],[(a 0,ab [] 0)]++[]):=by
 rw [cE]
 exact bt (enc:=cc) cD (orcs:=[]) aq 11 0 [2,1] [0,1,2] none (fun n d f=>fun _=>n)
def nD (w:Yc) (R:bu) (p:af):Ya:=[(p 8 0,aG w [("script",p 8 2,.ref (p 16 0)),("rows",p 8 4,.ref (p 6 0)),("written",p 8 6,.ref (p 7 0))] (p 8 1)),(p 9 0,aJ (.ref (p 10 0))),(p 10 0,ab [] (p 10 1)),(p 6 0,ab (aT R (p 20)) (p 6 1)),(p 7 0,ab (aT (R.map (·.map ao)) (p 21)) (p 7 1))]
def Cd (w:Yc) (R:bu) (p:af) (a:Ye):Flow:=.next
def Ce (w:Yc) (R:bu) (p:af) (a:Ye):Yf:=[aG w [("script",p 8 2,.ref (p 16 0)),("rows",p 8 4,.ref (p 6 0)),("written",p 8 6,.ref (p 7 0)),("row",kT 0 (fD R (p 20) (p 21) p a).k,kV 0 (fD R (p 20) (p 21) p a).k),("parts",kT 1 (fD R (p 20) (p 21) p a).k,kV 1 (fD R (p 20) (p 21) p a).k),("path",kT 2 (fD R (p 20) (p 21) p a).k,kV 2 (fD R (p 20) (p 21) p a).k)] ((fD R (p 20) (p 21) p a).n),aJ (.ref (p 10 0)),ab (fD R (p 20) (p 21) p a).hv (fD R (p 20) (p 21) p a).hn,ab (aT R (p 20)) (p 6 1),ab (aT (R.map (·.map ao)) (p 21)) (p 7 1)]
def Cf (w:Yc) (R:bu) (p:af) (a:Ye):Ya:=[]
def Cg (w:Yc) (R:bu) (p:af) (a:Ye):Ya:=[]
theorem Lc (b c:Bool) (w:Yc) (R:bu) (p:af) (d:∀r∈R,b7 r) (i:6≤R.length) (e:R.length≤12):aI (B0 (W b c w)) 6 (execs [sS w 5] (bm w p)) (nD w R p++be R (p 20)++be (R.map (·.map ao)) (p 21)) fun a=>(Cd w R p a,Ce w R p a++bH (be R (p 20)++be (R.map (·.map ao)) (p 21)),Cf w R p a++Cg w R p a):=by
 have h:=mY (b:=b) (c:=c) (m:=5) (t:=nk [sS w 5] (bm w p)) (need:=nD w R p) (val:=Cd w R p) (objs:=Ce w R p) (ads:=Cf w R p) (tail:=Cg w R p) (enc:=cc) cD (orcs:=[Be w [9,7,8,5,6,3,4,0,1,2] R (p 20) (p 21)]) (be R (p 20)++be (R.map (·.map ao)) (p 21)) (jk (J3 (by decide) d (by lia) (by lia) (by decide)) pc) 57 1 [0,0,1,1,0,0,0,0,0,92,4,4,0,4,0,23,6,5,5,0,5,0,23,7,10,10,0,10,0,29,10,10,10,0,10,0,93,10,2] [0,1,2,3,4] none (fun n g f=>(f 0).2.2)
 rw [←cE] at h
 exact h
def pZ (w:Yc) (a c b:Yd) (R:bu) (p:af):Ya:=[(p 8 0,aG w [("script",p 8 2,.ref (p 16 0)),("rows",p 8 4,.ref (p 6 0)),("written",p 8 6,.ref (p 7 0)),("row",p 8 8,a),("parts",p 8 10,c),("path",p 8 12,b)] (p 8 1)),(p 7 0,ab (aT (R.map (·.map ao)) (p 21)) (p 7 1))]
def Ch (w:Yc) (b d c:Yd) (R:bu) (p:af) (a:Ye):Flow:=.next
def Ci (w:Yc) (b d c:Yd) (R:bu) (p:af) (a:Ye):Yf:=[aG w [("script",p 8 2,.ref (p 16 0)),("rows",p 8 4,.ref (p 6 0)),("written",p 8 6,.ref (p 7 0)),("row",p 8 8,b),("parts",p 8 10,d),("path",p 8 12,c),("due",a 1,.ref (a 0))] (p 8 1+1),ab (aT (R.map (·.map ao)) (p 21)) (p 7 1)]
def Cj (w:Yc) (b d c:Yd) (R:bu) (p:af) (a:Ye):Ya:=[(a 0,ab (c0 gc (cz (R.map (·.map ao)) (p 21)) fun i=>a (i+3)) (a 2))]
def Ck (w:Yc) (b d c:Yd) (R:bu) (p:af) (a:Ye):Ya:=[]
theorem Ld (b c:Bool) (w:Yc) (a e d:Yd) (R:bu) (p:af) (g:∀r∈R,b7 r) (q:6≤R.length) (k:R.length≤12):aI (B0 (W b c w)) 6 (execs [sS w 6] (bm w p)) (pZ w a e d R p++be (R.map (·.map ao)) (p 21)) fun ax=>(Ch w a e d R p ax,Ci w a e d R p ax++bH (be (R.map (·.map ao)) (p 21)),Cj w a e d R p ax++Ck w a e d R p ax):=by
 have h:=mY (b:=b) (c:=c) (m:=5) (t:=nk [sS w 6] (bm w p)) (need:=pZ w a e d R p) (val:=Ch w a e d R p) (objs:=Ci w a e d R p) (ads:=Cj w a e d R p) (tail:=Ck w a e d R p) (enc:=cc) cD (orcs:=[lz [1] (R.map (·.map ao)) (p 21),Bi w [3,2,4,5] (R.map (·.map ao)) (p 21)]) (be (R.map (·.map ao)) (p 21)) (jk (wa (by decide) (by rw [List.length_map];lia) (by rw [List.length_map];lia) (by decide)) (jk (J5 (by decide) (wf g) (by rw [List.length_map];lia) (by rw [List.length_map];lia) (by decide)) pc)) 39 2 [0,0,1,2,3,3,0,3,0,23,4,3,1,0,6,6,5] [0,1,4] none (fun n o f=>fun i=>match i with | 0=>(f 0).1+1 | 1=>(f 1).2.1+0 | 2=>(eT (R.map (·.map ao)) (p 21) 0 (f 1).2.2).t | j+3=>(f 1).2.2 j)
 rw [←cE] at h
 exact h
def lB (w:Yc) (b c a:Yd) (L D:Yb) (x:Str) (e d:Nat) (R:bu) (p:af):Ya:=[(p 8 0,aG w [("script",p 8 2,.ref (p 16 0)),("rows",p 8 4,.ref (p 6 0)),("written",p 8 6,.ref (p 7 0)),("row",p 8 8,b),("parts",p 8 10,c),("path",p 8 12,a),("due",p 8 14,.ref (p 17 0))] (p 8 1)),(p 9 0,aJ (.ref (p 10 0))),(p 10 0,ab L (p 10 1)),(p 17 0,ab D (p 17 1)),(p 6 0,ab (aT R (p 20)) (p 6 1))]
theorem Lf (b c:Bool) (w:Yc) (g i h:Yd) (L D:Yb) (x:Str) (e a:Nat) (R:bu) (p:af) (q:0<L.length) (m:L.length≤90) (o:bk L) (hx:dO L = .str x e) (j:D[(0:Int).toNat]? = some (.str x a)):aI (B0 (W b c w)) 6 (isTrue (cW (c1 (bN (sS w 7))) 0) (bm w p) (eval (cW (c1 (bN (sS w 7))) 0) (bm w p))) (lB w g i h L D x e a R p) fun d=>(false,[aG w [("script",p 8 2,.ref (p 16 0)),("rows",p 8 4,.ref (p 6 0)),("written",p 8 6,.ref (p 7 0)),("row",p 8 8,g),("parts",p 8 10,i),("path",p 8 12,h),("due",p 8 14,.ref (p 17 0))] (p 8 1),aJ (.ref (p 10 0)),ab (cI L "/zz" (d 1)) (d 0),ab D (d 2),ab (aT R (p 20)) (p 6 1)],[]++[]):=by
 rw [s8,dQ]
 exact bt (enc:=mV) sB (orcs:=[Br L "/zz" x e 2,cK 3 D 0 (.str x a),o2 "str.__ne__" x x fun _=>.bool false]) (aa (Kd q m o hx (by decide)) (aa (cQ (by decide) (by decide) j) (aa (aQ (bne_self_eq_false _)) aq))) 23 3 [0,2,0,2,1,4,4,4,3,4] [0,1,2,3,4] none (fun n k f=>aB [(f 0).2.2 0,k+0,(f 1).2.2 1])
def ts (w:Yc) (a c b:Yd) (L D:Yb) (R:bu) (p:af):Ya:=[(p 8 0,aG w [("script",p 8 2,.ref (p 16 0)),("rows",p 8 4,.ref (p 6 0)),("written",p 8 6,.ref (p 7 0)),("row",p 8 8,a),("parts",p 8 10,c),("path",p 8 12,b),("due",p 8 14,.ref (p 17 0))] (p 8 1)),(p 9 0,aJ (.ref (p 10 0))),(p 10 0,ab L (p 10 1)),(p 17 0,ab D (p 17 1)),(p 6 0,ab (aT R (p 20)) (p 6 1))]
theorem Lg (b c:Bool) (w:Yc) (e h g:Yd) (L D:Yb) (R:bu) (p:af) (d:L.length=R.length) (o:L.length≤90) (q:bk L) (m:Hp L) (t:6≤R.length):aI (B0 (W b c w)) 6 (eval (d1 (cW (c1 (bN (sS w 7))) 1)) (bm w p)) (ts w e h g L D R p) fun a=>((.ref (a 0)),[aG w [("script",p 8 2,.ref (p 16 0)),("rows",p 8 4,.ref (p 6 0)),("written",p 8 6,.ref (p 7 0)),("row",p 8 8,e),("parts",p 8 10,h),("path",p 8 12,g),("due",p 8 14,.ref (p 17 0))] (p 8 1),aJ (.ref (p 10 0)),ab (fS (aT R (p 20)).length L) (a 1),ab D (p 17 1),ab (aT R (p 20)) (p 6 1)],[(a 0,ab (fR (aT R (p 20)).length L) (a 2))]++[]):=by
 rw [dQ]
 exact bt (enc:=dx) eN (orcs:=[Bl w [5,4,6,7,1,2] (aT R (p 20)) L]) (aa (J8 (by decide) (Bq _ _) (by rw [ls];lia) (by rw [ls];exact d) o m q (by decide)) aq) 23 1 [1,5,5,0,5,0,23,6,2,8,8,7] [0,1,2,3,4,6] none (fun n s f=>fun i=>match i with | 0=>n+1 | 1=>(eR (fun j k=>match j,k with | 3,1=>0 | 6,1=>p 10 1 | j,k=>p j k) (aT R (p 20)) L (f 0).2.2).hn | _=>(eR (fun j k=>match j,k with | 3,1=>0 | 6,1=>p 10 1 | j,k=>p j k) (aT R (p 20)) L (f 0).2.2).c.t)
def lC (w:Yc) (a c b:Yd) (L D:Yb) (R:bu) (p:af):Ya:=[(p 8 0,aG w [("script",p 8 2,.ref (p 16 0)),("rows",p 8 4,.ref (p 6 0)),("written",p 8 6,.ref (p 7 0)),("row",p 8 8,a),("parts",p 8 10,c),("path",p 8 12,b),("due",p 8 14,.ref (p 17 0))] (p 8 1)),(p 9 0,aJ (.ref (p 10 0))),(p 10 0,ab L (p 10 1)),(p 17 0,ab D (p 17 1)),(p 6 0,ab (aT R (p 20)) (p 6 1))]
theorem Lh (b c:Bool) (w:Yc) (e g d:Yd) (L D:Yb) (R:bu) (p:af) (h:D.length≤500):aI (B0 (W b c w)) 6 (eval (db (cW (c1 (bN (sS w 7))) 1)) (bm w p)) (lC w e g d L D R p) fun a=>((.ref (a 0)),[aG w [("script",p 8 2,.ref (p 16 0)),("rows",p 8 4,.ref (p 6 0)),("written",p 8 6,.ref (p 7 0)),("row",p 8 8,e),("parts",p 8 10,g),("path",p 8 12,d),("due",p 8 14,.ref (p 17 0))] (p 8 1),aJ (.ref (p 10 0)),ab L (p 10 1),ab D (p 17 1),ab (aT R (p 20)) (p 6 1)],[(a 0,ab (D.drop 1++[.str "/zz" (a 1)]) 0)]++[]):=by
 rw [dQ]
 exact bt (enc:=dx) eN (orcs:=[c3 3 5 (fun _=>D) (some 1) none (fun _=>D.drop 1),lA 6 7 (fun _=>D.drop 1) (fun p=>[.str "/zz" (p 2 2)])]) (aa (dA (by decide) (fun _=>by lia) (fun _=>Bp D)) (aa (Bm (by decide) (fun _=>by rw [List.length_drop];show D.length-1+1≤1000;lia)) aq)) 23 2 [1,4,4,4,2,7,8,7,3] [0,1,2,3,4,8] none (fun n i f=>aB [(f 1).2.2 0,(f 0).2.1+0])
def dF (w:Yc) (a c b:Yd) (L D:Yb) (R:bu) (p:af):Ya:=[(p 8 0,aG w [("script",p 8 2,.ref (p 16 0)),("rows",p 8 4,.ref (p 6 0)),("written",p 8 6,.ref (p 7 0)),("row",p 8 8,a),("parts",p 8 10,c),("path",p 8 12,b),("due",p 8 14,.ref (p 17 0))] (p 8 1)),(p 9 0,aJ (.ref (p 10 0))),(p 10 0,ab L (p 10 1)),(p 17 0,ab D (p 17 1)),(p 6 0,ab (aT R (p 20)) (p 6 1))]
theorem Li (b c:Bool) (w:Yc) (d e a:Yd) (L D:Yb) (R:bu) (p:af):aI (B0 (W b c w)) 6 (eval (d1 (cW (c1 (bN (sS w 7))) 2)) (bm w p)) (dF w d e a L D R p) fun g=>((.ref (p 10 0)),[aG w [("script",p 8 2,.ref (p 16 0)),("rows",p 8 4,.ref (p 6 0)),("written",p 8 6,.ref (p 7 0)),("row",p 8 8,d),("parts",p 8 10,e),("path",p 8 12,a),("due",p 8 14,.ref (p 17 0))] (p 8 1),aJ (.ref (p 10 0)),ab L (p 10 1),ab D (p 17 1),ab (aT R (p 20)) (p 6 1)],[]++[]):=by
 rw [dQ]
 exact bt (enc:=dx) eN (orcs:=[]) aq 5 0 [2] [0,1,2,3,4] none (fun n h f=>fun _=>0)
def Cl (w:Yc) (a c b:Yd) (L D:Yb) (R:bu) (p:af):Ya:=[(p 8 0,aG w [("script",p 8 2,.ref (p 16 0)),("rows",p 8 4,.ref (p 6 0)),("written",p 8 6,.ref (p 7 0)),("row",p 8 8,a),("parts",p 8 10,c),("path",p 8 12,b),("due",p 8 14,.ref (p 17 0))] (p 8 1)),(p 9 0,aJ (.ref (p 10 0))),(p 10 0,ab L (p 10 1)),(p 17 0,ab D (p 17 1)),(p 6 0,ab (aT R (p 20)) (p 6 1))]
theorem Lj (b c:Bool) (w:Yc) (e g d:Yd) (L D:Yb) (R:bu) (p:af):aI (B0 (W b c w)) 6 (eval (db (cW (c1 (bN (sS w 7))) 2)) (bm w p)) (Cl w e g d L D R p) fun a=>((.ref (a 0)),[aG w [("script",p 8 2,.ref (p 16 0)),("rows",p 8 4,.ref (p 6 0)),("written",p 8 6,.ref (p 7 0)),("row",p 8 8,e),("parts",p 8 10,g),("path",p 8 12,d),("due",p 8 14,.ref (p 17 0))] (p 8 1),aJ (.ref (p 10 0)),ab L (p 10 1),ab D (p 17 1),ab (aT R (p 20)) (p 6 1)],[(a 0,ab [] 0)]++[]):=by
 rw [dQ]
 exact bt (enc:=dx) eN (orcs:=[]) aq 5 0 [] [0,1,2,3,4,5] none (fun n h f=>fun _=>n)
theorem Lk (b c:Bool) (w:Yc) (p:af):aI (B0 (W b c w)) 6 (execs [sS w 9] (bm w p)) [] fun a=>((.ret (.bool true)),[],[]++[]):=by
 rw [cE]
 exact bt (enc:=cc) cD (orcs:=[]) aq 4 0 [] [] none (fun n d f=>fun _=>0)
end
abbrev nE:=Yg
section
def dh (w:Yc) (p:af):Env:=m9 (cn w) (p 8 0) [p 9 0,p 13 0]
theorem Ll (w:Yc):sQ (cn w)=true:=by kernel_rfl
theorem Lm (w:Yc):fO (cn w)=[]:=by kernel_rfl
theorem wG (w:Yc):fT (cn w) = .Tuple (nb (fT (cn w))) (nm (fT (cn w))) (nq (fT (cn w))):=by kernel_rfl
def f7 (p:af) (c f e a b d g:Yd):List (Str×Nat×Yd):=[("script",p 8 2,c),("rows",p 8 4,f),("written",p 8 6,e),("row",p 8 8,a),("parts",p 8 10,b),("path",p 8 12,d),("due",p 8 14,g)]
def di (a b d:Yg) (j:Nat):aH:=bA (fun p=>.call (.ref 269) ⟨[.ref (p 1 0)],[]⟩) [j] (fun p=>[(p 1 0,ab [.str (aU a) (p 1 2),.str (aU b) (p 1 3)] (p 1 1))]) fun p c=>(.ret (.str (aU d) (c 0)),[ab [.str (aU a) (p 1 2),.str (aU b) (p 1 3)] (p 1 1)],[])
end
section
theorem Ln (b:Bool) (w:Yc) (a:Str) (c:a∈aD) (p:af):aC (B0 (W b false w)) 6 (.call (.ref 269) ⟨[.ref (p 1 0)],[]⟩) [(p 1 0,ab [.str ("/" ++ a) (p 1 2),.str ("/" ++ a) (p 1 3)] (p 1 1))] (fun d=>(.ret (.str ("/" ++ a) (d 0)),[ab [.str ("/" ++ a) (p 1 2),.str ("/" ++ a) (p 1 3)] (p 1 1)],[])):=
 aA (orcs:=[du [6,5,4,0] ("/" ++ a) ("/" ++ a),cb ("/" ++ a) "/" ["",a],cb ("/" ++ a) "/" ["",a],o2 "str.startswith" ("/" ++ a) "/" fun _=>.bool true,o2 "str.startswith" ("/" ++ a) "/" fun _=>.bool true,dD w 17,d4 w 21 17,dE w 21 17,a9 "" 0,a9 a ((a.length-1+1:Nat):Int),o2 "str.__ne__" a "." fun _=>.bool true,a9 "" 0,a9 a ((a.length-1+1:Nat):Int),o2 "str.__ne__" a "." fun _=>.bool true,eV [24,27,32] [a] [a],eW [24,27,32] [a] [a] false,dU 27 (fun p=>bc p 1 [a] 2),wk w [39,38,27,1] a,bx 27 "/" [a] a,o2 "str.__add__" "/" a fun d=>.str ("/" ++ a) (d 0)]) (aa (fl (by decide) (by decide)) (aa (cs (fU a c)) (aa (cs (fU a c)) (aa (cm (cG [a] (.inl ⟨a,c,rfl⟩))) (aa (cm (cG [a] (.inl ⟨a,c,rfl⟩))) (aa (fm) (aa (fo (by decide)) (aa (fp (by decide)) (aa (bb rfl (by decide)) (aa (bb (n3 a c).1 (q1 a c).2.2.1) (aa (aQ (bP a c)) (aa (bb rfl (by decide)) (aa (bb (n3 a c).1 (q1 a c).2.2.1) (aa (aQ (bP a c)) (aa (fi (by decide) (jG [a])) (aa (fj (by decide) (jG [a])) (aa (fq) (aa (BO (by decide) (by decide)) (aa (bB (n3 a c).2.2.2.2.2.1 (n3 a c).2.2.2.2.2.2) (aa (fX rfl (by decide +kernel) (da a c).2.1 (da a c).2.2) aq)))))))))))))))))))) 852 20 [0,0,2,1,0,0,0,0,0,0,0,2,0,0,0,0,0,28,1,1,0,1,0,23,5,7,7,0,7,0,29,7,0,0,0,0,0,30,7,2,8,9,9,0,9,0,29,9,2,1,2,9,9,0,11,9,0,9,0,36,9,0,0,2,9,9,9,0,9,0,37,9,0,0,0,0,3,0,4,0,0,5,0,0,6,0,7,3,2,4,3,2,9,9,0,9,0,8,10,0,10,10,0,10,0,38,10,0,10,0,10,0,9,10,10,9,10,9,12,11,12,3,3,0,11,0,26,11,10,11,0,10,0,10,0,9,10,10,9,10,9,12,11,12,3,4,0,11,0,26,11,10,11,0,10,0,10,0,9,10,10,9,10,9,16,2,1,12,12,11,2,9,9,0,9,0,8,17,0,17,17,0,17,0,38,17,0,17,0,17,0,9,17,17,9,17,16,19,18,19,3,5,0,18,0,39,0,0,40,18,18,17,0,17,0,17,0,9,17,17,9,17,16,19,18,19,3,6,0,18,0,39,0,0,40,18,18,0,17,0,17,0,9,17,17,9,17,16,21,19,19,18,18,18,18,7,22,22,8,22,9,23,2,1,2,11,11,0,11,0,23,24,0,24,24,0,24,0,43,24,0,24,0,24,0,24,24,24,11,24,23,26,25,26,13,13,0,13,0,23,27,0,27,27,0,27,0,43,27,0,27,0,27,0,24,27,27,13,27,26,29,28,29,10,0,27,0,27,0,24,27,27,13,27,26,29,28,29,11,29,4,12,29,0,28,0,26,28,27,28,0,27,0,27,0,24,27,27,13,27,26,31,29,29,28,0,25,0,26,25,24,25,0,24,0,24,0,24,24,24,11,24,23,26,25,26,14,14,0,14,0,23,32,0,32,32,0,32,0,43,32,0,32,0,32,0,24,32,32,14,32,31,34,33,34,13,0,32,0,32,0,24,32,32,14,32,31,34,33,34,14,34,4,15,34,0,33,0,26,33,32,33,0,32,0,32,0,24,32,32,14,32,31,36,34,34,33,0,25,0,26,25,24,25,0,24,0,24,0,24,24,24,11,24,23,38,2,1,26,26,25,0,0,2,16,2,1,0,0,2,17,2,1,2,2,1,0,0,2,18,40,40,0,40,0,52,40,19,2,3,2,1,2,3,2,20,21] [0] (fun n e f=>aB [(f 19).2.2 0])
theorem Lo (b:Bool) (w:Yc) (a g:Str) (d:a∈aD) (c:g∈aD) (p:af):aC (B0 (W b false w)) 6 (.call (.ref 269) ⟨[.ref (p 1 0)],[]⟩) [(p 1 0,ab [.str ("/" ++ a++("/" ++ g)) (p 1 2),.str ("/" ++ a++("/" ++ g)) (p 1 3)] (p 1 1))] (fun e=>(.ret (.str ("/" ++ a++("/" ++ g)) (e 0)),[ab [.str ("/" ++ a++("/" ++ g)) (p 1 2),.str ("/" ++ a++("/" ++ g)) (p 1 3)] (p 1 1)],[])):=
 aA (orcs:=[du [6,5,4,0] ("/" ++ a++("/" ++ g)) ("/" ++ a++("/" ++ g)),cb ("/" ++ a++("/" ++ g)) "/" ["",a,g],cb ("/" ++ a++("/" ++ g)) "/" ["",a,g],o2 "str.startswith" ("/" ++ a++("/" ++ g)) "/" fun _=>.bool true,o2 "str.startswith" ("/" ++ a++("/" ++ g)) "/" fun _=>.bool true,dD w 17,d4 w 21 17,dE w 21 17,a9 "" 0,a9 a ((a.length-1+1:Nat):Int),o2 "str.__ne__" a "." fun _=>.bool true,a9 g ((g.length-1+1:Nat):Int),o2 "str.__ne__" g "." fun _=>.bool true,a9 "" 0,a9 a ((a.length-1+1:Nat):Int),o2 "str.__ne__" a "." fun _=>.bool true,a9 g ((g.length-1+1:Nat):Int),o2 "str.__ne__" g "." fun _=>.bool true,eV [24,27,32] [a,g] [a,g],eW [24,27,32] [a,g] [a,g] false,dU 27 (fun p=>bc p 1 [a,g] 2),wm w [39,38,27,1] a g,bx 27 "/" [a,g] (a++("/" ++ g)),o2 "str.__add__" "/" (a++("/" ++ g)) fun e=>.str ("/" ++ a++("/" ++ g)) (e 0)]) (aa (fl (by decide) (by decide)) (aa (cs (d3 a d g c)) (aa (cs (d3 a d g c)) (aa (cm (cG [a,g] (.inr ⟨a,d,g,c,rfl⟩))) (aa (cm (cG [a,g] (.inr ⟨a,d,g,c,rfl⟩))) (aa (fm) (aa (fo (by decide)) (aa (fp (by decide)) (aa (bb rfl (by decide)) (aa (bb (n3 a d).1 (q1 a d).2.2.1) (aa (aQ (bP a d)) (aa (bb (n3 g c).1 (q1 g c).2.2.1) (aa (aQ (bP g c)) (aa (bb rfl (by decide)) (aa (bb (n3 a d).1 (q1 a d).2.2.1) (aa (aQ (bP a d)) (aa (bb (n3 g c).1 (q1 g c).2.2.1) (aa (aQ (bP g c)) (aa (fi (by decide) (jG [a,g])) (aa (fj (by decide) (jG [a,g])) (aa (fq) (aa (BP (by decide) (by decide)) (aa (bB (n4 a d g c).2.2.1 (n4 a d g c).2.2.2.1) (aa (fX (n5 a d g c).1 (by decide +kernel) (n5 a d g c).2 (pe a d g c)) aq)))))))))))))))))))))))) 930 24 [0,0,2,1,0,0,0,0,0,0,0,2,0,0,0,0,0,28,1,1,0,1,0,23,5,7,7,0,7,0,29,7,0,0,0,0,0,30,7,2,8,9,9,0,9,0,29,9,2,1,2,9,9,0,11,9,0,9,0,36,9,0,0,2,9,9,9,0,9,0,37,9,0,0,0,0,3,0,4,0,0,5,0,0,6,0,7,3,2,4,3,2,9,9,0,9,0,8,10,0,10,10,0,10,0,38,10,0,10,0,10,0,9,10,10,9,10,9,12,11,12,3,3,0,11,0,26,11,10,11,0,10,0,10,0,9,10,10,9,10,9,12,11,12,3,4,0,11,0,26,11,10,11,0,10,0,10,0,9,10,10,9,10,9,16,2,1,12,12,11,2,9,9,0,9,0,8,17,0,17,17,0,17,0,38,17,0,17,0,17,0,9,17,17,9,17,16,19,18,19,3,5,0,18,0,39,0,0,40,18,18,17,0,17,0,17,0,9,17,17,9,17,16,19,18,19,3,6,0,18,0,39,0,0,40,18,18,0,17,0,17,0,9,17,17,9,17,16,21,19,19,18,18,18,18,7,22,22,8,22,9,23,2,1,2,11,11,0,11,0,23,24,0,24,24,0,24,0,43,24,0,24,0,24,0,24,24,24,11,24,23,26,25,26,13,13,0,13,0,23,27,0,27,27,0,27,0,43,27,0,27,0,27,0,24,27,27,13,27,26,29,28,29,10,0,27,0,27,0,24,27,27,13,27,26,29,28,29,11,29,4,12,29,0,28,0,26,28,27,28,0,27,0,27,0,24,27,27,13,27,26,29,28,29,13,29,4,14,29,0,28,0,26,28,27,28,0,27,0,27,0,24,27,27,13,27,26,31,29,29,28,0,25,0,26,25,24,25,0,24,0,24,0,24,24,24,11,24,23,26,25,26,14,14,0,14,0,23,32,0,32,32,0,32,0,43,32,0,32,0,32,0,24,32,32,14,32,31,34,33,34,15,0,32,0,32,0,24,32,32,14,32,31,34,33,34,16,34,4,17,34,0,33,0,26,33,32,33,0,32,0,32,0,24,32,32,14,32,31,34,33,34,18,34,4,19,34,0,33,0,26,33,32,33,0,32,0,32,0,24,32,32,14,32,31,36,34,34,33,0,25,0,26,25,24,25,0,24,0,24,0,24,24,24,11,24,23,38,2,1,26,26,25,0,0,2,20,2,1,0,0,2,21,2,1,2,2,1,0,0,2,22,40,40,0,40,0,52,40,23,2,3,2,1,2,3,2,24,25] [0] (fun n h f=>aB [(f 23).2.2 0])
theorem Lp (b:Bool) (w:Yc) (a e:Str) (c:a∈aD) (d:e∈aD) (i:aP [a,e] [a]=false) (h:aP [a] [a,e]=true) (p:af):aC (B0 (W b false w)) 6 (.call (.ref 269) ⟨[.ref (p 1 0)],[]⟩) [(p 1 0,ab [.str ("/" ++ a) (p 1 2),.str ("/" ++ a++("/" ++ e)) (p 1 3)] (p 1 1))] (fun g=>(.ret (.str ("/" ++ a) (g 0)),[ab [.str ("/" ++ a) (p 1 2),.str ("/" ++ a++("/" ++ e)) (p 1 3)] (p 1 1)],[])):=
 aA (orcs:=[du [6,5,4,0] ("/" ++ a) ("/" ++ a++("/" ++ e)),cb ("/" ++ a) "/" ["",a],cb ("/" ++ a++("/" ++ e)) "/" ["",a,e],o2 "str.startswith" ("/" ++ a) "/" fun _=>.bool true,o2 "str.startswith" ("/" ++ a++("/" ++ e)) "/" fun _=>.bool true,dD w 17,d4 w 21 17,dE w 21 17,a9 "" 0,a9 a ((a.length-1+1:Nat):Int),o2 "str.__ne__" a "." fun _=>.bool true,a9 "" 0,a9 a ((a.length-1+1:Nat):Int),o2 "str.__ne__" a "." fun _=>.bool true,a9 e ((e.length-1+1:Nat):Int),o2 "str.__ne__" e "." fun _=>.bool true,eV [24,27,32] [a] [a,e],eW [24,27,32] [a] [a,e] true,dU 27 (fun p=>bc p 1 [a] 2),wn w [39,38,27,32,1] a a [e],bx 27 "/" [a] a,o2 "str.__add__" "/" a fun g=>.str ("/" ++ a) (g 0)]) (aa (fl (by decide) (by decide)) (aa (cs (fU a c)) (aa (cs (d3 a c e d)) (aa (cm (cG [a] (.inl ⟨a,c,rfl⟩))) (aa (cm (cG [a,e] (.inr ⟨a,c,e,d,rfl⟩))) (aa (fm) (aa (fo (by decide)) (aa (fp (by decide)) (aa (bb rfl (by decide)) (aa (bb (n3 a c).1 (q1 a c).2.2.1) (aa (aQ (bP a c)) (aa (bb rfl (by decide)) (aa (bb (n3 a c).1 (q1 a c).2.2.1) (aa (aQ (bP a c)) (aa (bb (n3 e d).1 (q1 e d).2.2.1) (aa (aQ (bP e d)) (aa (fi (by decide) (i)) (aa (fj (by decide) (h)) (aa (fq) (aa (BQ (by decide) (bne_self_eq_false _) (by decide)) (aa (bB (n3 a c).2.2.2.2.2.1 (n3 a c).2.2.2.2.2.2) (aa (fX rfl (by decide +kernel) (da a c).2.1 (da a c).2.2) aq)))))))))))))))))))))) 891 22 [0,0,2,1,0,0,0,0,0,0,0,2,0,0,0,0,0,28,1,1,0,1,0,23,5,7,7,0,7,0,29,7,0,0,0,0,0,30,7,2,8,9,9,0,9,0,29,9,2,1,2,9,9,0,11,9,0,9,0,36,9,0,0,2,9,9,9,0,9,0,37,9,0,0,0,0,3,0,4,0,0,5,0,0,6,0,7,3,2,4,3,2,9,9,0,9,0,8,10,0,10,10,0,10,0,38,10,0,10,0,10,0,9,10,10,9,10,9,12,11,12,3,3,0,11,0,26,11,10,11,0,10,0,10,0,9,10,10,9,10,9,12,11,12,3,4,0,11,0,26,11,10,11,0,10,0,10,0,9,10,10,9,10,9,16,2,1,12,12,11,2,9,9,0,9,0,8,17,0,17,17,0,17,0,38,17,0,17,0,17,0,9,17,17,9,17,16,19,18,19,3,5,0,18,0,39,0,0,40,18,18,17,0,17,0,17,0,9,17,17,9,17,16,19,18,19,3,6,0,18,0,39,0,0,40,18,18,0,17,0,17,0,9,17,17,9,17,16,21,19,19,18,18,18,18,7,22,22,8,22,9,23,2,1,2,11,11,0,11,0,23,24,0,24,24,0,24,0,43,24,0,24,0,24,0,24,24,24,11,24,23,26,25,26,13,13,0,13,0,23,27,0,27,27,0,27,0,43,27,0,27,0,27,0,24,27,27,13,27,26,29,28,29,10,0,27,0,27,0,24,27,27,13,27,26,29,28,29,11,29,4,12,29,0,28,0,26,28,27,28,0,27,0,27,0,24,27,27,13,27,26,31,29,29,28,0,25,0,26,25,24,25,0,24,0,24,0,24,24,24,11,24,23,26,25,26,14,14,0,14,0,23,32,0,32,32,0,32,0,43,32,0,32,0,32,0,24,32,32,14,32,31,34,33,34,13,0,32,0,32,0,24,32,32,14,32,31,34,33,34,14,34,4,15,34,0,33,0,26,33,32,33,0,32,0,32,0,24,32,32,14,32,31,34,33,34,16,34,4,17,34,0,33,0,26,33,32,33,0,32,0,32,0,24,32,32,14,32,31,36,34,34,33,0,25,0,26,25,24,25,0,24,0,24,0,24,24,24,11,24,23,38,2,1,26,26,25,0,0,2,18,2,1,0,0,2,19,2,1,2,2,1,0,0,2,20,40,40,0,40,0,52,40,21,2,3,2,1,2,3,2,22,23] [0] (fun n j f=>aB [(f 21).2.2 0])
theorem Lq (b:Bool) (w:Yc) (a d:Str) (e:a∈aD) (c:d∈aD) (j:aP [d] [a]=false) (h:aP [a] [d]=true) (i:(a.cps.toList != d.cps.toList)=true) (p:af):aC (B0 (W b false w)) 6 (.call (.ref 269) ⟨[.ref (p 1 0)],[]⟩) [(p 1 0,ab [.str ("/" ++ a) (p 1 2),.str ("/" ++ d) (p 1 3)] (p 1 1))] (fun g=>(.ret (.str "/" (g 0)),[ab [.str ("/" ++ a) (p 1 2),.str ("/" ++ d) (p 1 3)] (p 1 1)],[])):=
 aA (orcs:=[du [6,5,4,0] ("/" ++ a) ("/" ++ d),cb ("/" ++ a) "/" ["",a],cb ("/" ++ d) "/" ["",d],o2 "str.startswith" ("/" ++ a) "/" fun _=>.bool true,o2 "str.startswith" ("/" ++ d) "/" fun _=>.bool true,dD w 17,d4 w 21 17,dE w 21 17,a9 "" 0,a9 a ((a.length-1+1:Nat):Int),o2 "str.__ne__" a "." fun _=>.bool true,a9 "" 0,a9 d ((d.length-1+1:Nat):Int),o2 "str.__ne__" d "." fun _=>.bool true,eV [24,27,32] [a] [d],eW [24,27,32] [a] [d] true,dU 27 (fun p=>bc p 1 [a] 2),jF w [39,38,27,32,1] a d [] [],bx 40 "/" [] ""]) (aa (fl (by decide) (by decide)) (aa (cs (fU a e)) (aa (cs (fU d c)) (aa (cm (cG [a] (.inl ⟨a,e,rfl⟩))) (aa (cm (cG [d] (.inl ⟨d,c,rfl⟩))) (aa (fm) (aa (fo (by decide)) (aa (fp (by decide)) (aa (bb rfl (by decide)) (aa (bb (n3 a e).1 (q1 a e).2.2.1) (aa (aQ (bP a e)) (aa (bb rfl (by decide)) (aa (bb (n3 d c).1 (q1 d c).2.2.1) (aa (aQ (bP d c)) (aa (fi (by decide) (j)) (aa (fj (by decide) (h)) (aa (fq) (aa (kD (by decide) i (by show 0≤500;lia) (by decide)) (aa (bB (by decide +kernel) (by decide +kernel)) aq))))))))))))))))))) 855 19 [0,0,2,1,0,0,0,0,0,0,0,2,0,0,0,0,0,28,1,1,0,1,0,23,5,7,7,0,7,0,29,7,0,0,0,0,0,30,7,2,8,9,9,0,9,0,29,9,2,1,2,9,9,0,11,9,0,9,0,36,9,0,0,2,9,9,9,0,9,0,37,9,0,0,0,0,3,0,4,0,0,5,0,0,6,0,7,3,2,4,3,2,9,9,0,9,0,8,10,0,10,10,0,10,0,38,10,0,10,0,10,0,9,10,10,9,10,9,12,11,12,3,3,0,11,0,26,11,10,11,0,10,0,10,0,9,10,10,9,10,9,12,11,12,3,4,0,11,0,26,11,10,11,0,10,0,10,0,9,10,10,9,10,9,16,2,1,12,12,11,2,9,9,0,9,0,8,17,0,17,17,0,17,0,38,17,0,17,0,17,0,9,17,17,9,17,16,19,18,19,3,5,0,18,0,39,0,0,40,18,18,17,0,17,0,17,0,9,17,17,9,17,16,19,18,19,3,6,0,18,0,39,0,0,40,18,18,0,17,0,17,0,9,17,17,9,17,16,21,19,19,18,18,18,18,7,22,22,8,22,9,23,2,1,2,11,11,0,11,0,23,24,0,24,24,0,24,0,43,24,0,24,0,24,0,24,24,24,11,24,23,26,25,26,13,13,0,13,0,23,27,0,27,27,0,27,0,43,27,0,27,0,27,0,24,27,27,13,27,26,29,28,29,10,0,27,0,27,0,24,27,27,13,27,26,29,28,29,11,29,4,12,29,0,28,0,26,28,27,28,0,27,0,27,0,24,27,27,13,27,26,31,29,29,28,0,25,0,26,25,24,25,0,24,0,24,0,24,24,24,11,24,23,26,25,26,14,14,0,14,0,23,32,0,32,32,0,32,0,43,32,0,32,0,32,0,24,32,32,14,32,31,34,33,34,13,0,32,0,32,0,24,32,32,14,32,31,34,33,34,14,34,4,15,34,0,33,0,26,33,32,33,0,32,0,32,0,24,32,32,14,32,31,36,34,34,33,0,25,0,26,25,24,25,0,24,0,24,0,24,24,24,11,24,23,38,2,1,26,26,25,0,0,2,16,2,1,0,0,2,17,2,1,2,2,1,0,0,2,18,40,40,0,40,0,52,40,19,2,3,2,1,2,3,2,20,0,0,14] [0] (fun n k f=>aB [(f 0).2.1+5])
theorem Lr (b:Bool) (w:Yc) (a d e:Str) (h:a∈aD) (g:d∈aD) (c:e∈aD) (m:aP [d,e] [a]=false) (j:aP [a] [d,e]=true) (k:(a.cps.toList != d.cps.toList)=true) (p:af):aC (B0 (W b false w)) 6 (.call (.ref 269) ⟨[.ref (p 1 0)],[]⟩) [(p 1 0,ab [.str ("/" ++ a) (p 1 2),.str ("/" ++ d++("/" ++ e)) (p 1 3)] (p 1 1))] (fun i=>(.ret (.str "/" (i 0)),[ab [.str ("/" ++ a) (p 1 2),.str ("/" ++ d++("/" ++ e)) (p 1 3)] (p 1 1)],[])):=
 aA (orcs:=[du [6,5,4,0] ("/" ++ a) ("/" ++ d++("/" ++ e)),cb ("/" ++ a) "/" ["",a],cb ("/" ++ d++("/" ++ e)) "/" ["",d,e],o2 "str.startswith" ("/" ++ a) "/" fun _=>.bool true,o2 "str.startswith" ("/" ++ d++("/" ++ e)) "/" fun _=>.bool true,dD w 17,d4 w 21 17,dE w 21 17,a9 "" 0,a9 a ((a.length-1+1:Nat):Int),o2 "str.__ne__" a "." fun _=>.bool true,a9 "" 0,a9 d ((d.length-1+1:Nat):Int),o2 "str.__ne__" d "." fun _=>.bool true,a9 e ((e.length-1+1:Nat):Int),o2 "str.__ne__" e "." fun _=>.bool true,eV [24,27,32] [a] [d,e],eW [24,27,32] [a] [d,e] true,dU 27 (fun p=>bc p 1 [a] 2),jF w [39,38,27,32,1] a d [] [e],bx 40 "/" [] ""]) (aa (fl (by decide) (by decide)) (aa (cs (fU a h)) (aa (cs (d3 d g e c)) (aa (cm (cG [a] (.inl ⟨a,h,rfl⟩))) (aa (cm (cG [d,e] (.inr ⟨d,g,e,c,rfl⟩))) (aa (fm) (aa (fo (by decide)) (aa (fp (by decide)) (aa (bb rfl (by decide)) (aa (bb (n3 a h).1 (q1 a h).2.2.1) (aa (aQ (bP a h)) (aa (bb rfl (by decide)) (aa (bb (n3 d g).1 (q1 d g).2.2.1) (aa (aQ (bP d g)) (aa (bb (n3 e c).1 (q1 e c).2.2.1) (aa (aQ (bP e c)) (aa (fi (by decide) (m)) (aa (fj (by decide) (j)) (aa (fq) (aa (kD (by decide) k (by show 0≤500;lia) (by decide)) (aa (bB (by decide +kernel) (by decide +kernel)) aq))))))))))))))))))))) 894 21 [0,0,2,1,0,0,0,0,0,0,0,2,0,0,0,0,0,28,1,1,0,1,0,23,5,7,7,0,7,0,29,7,0,0,0,0,0,30,7,2,8,9,9,0,9,0,29,9,2,1,2,9,9,0,11,9,0,9,0,36,9,0,0,2,9,9,9,0,9,0,37,9,0,0,0,0,3,0,4,0,0,5,0,0,6,0,7,3,2,4,3,2,9,9,0,9,0,8,10,0,10,10,0,10,0,38,10,0,10,0,10,0,9,10,10,9,10,9,12,11,12,3,3,0,11,0,26,11,10,11,0,10,0,10,0,9,10,10,9,10,9,12,11,12,3,4,0,11,0,26,11,10,11,0,10,0,10,0,9,10,10,9,10,9,16,2,1,12,12,11,2,9,9,0,9,0,8,17,0,17,17,0,17,0,38,17,0,17,0,17,0,9,17,17,9,17,16,19,18,19,3,5,0,18,0,39,0,0,40,18,18,17,0,17,0,17,0,9,17,17,9,17,16,19,18,19,3,6,0,18,0,39,0,0,40,18,18,0,17,0,17,0,9,17,17,9,17,16,21,19,19,18,18,18,18,7,22,22,8,22,9,23,2,1,2,11,11,0,11,0,23,24,0,24,24,0,24,0,43,24,0,24,0,24,0,24,24,24,11,24,23,26,25,26,13,13,0,13,0,23,27,0,27,27,0,27,0,43,27,0,27,0,27,0,24,27,27,13,27,26,29,28,29,10,0,27,0,27,0,24,27,27,13,27,26,29,28,29,11,29,4,12,29,0,28,0,26,28,27,28,0,27,0,27,0,24,27,27,13,27,26,31,29,29,28,0,25,0,26,25,24,25,0,24,0,24,0,24,24,24,11,24,23,26,25,26,14,14,0,14,0,23,32,0,32,32,0,32,0,43,32,0,32,0,32,0,24,32,32,14,32,31,34,33,34,13,0,32,0,32,0,24,32,32,14,32,31,34,33,34,14,34,4,15,34,0,33,0,26,33,32,33,0,32,0,32,0,24,32,32,14,32,31,34,33,34,16,34,4,17,34,0,33,0,26,33,32,33,0,32,0,32,0,24,32,32,14,32,31,36,34,34,33,0,25,0,26,25,24,25,0,24,0,24,0,24,24,24,11,24,23,38,2,1,26,26,25,0,0,2,18,2,1,0,0,2,19,2,1,2,2,1,0,0,2,20,40,40,0,40,0,52,40,21,2,3,2,1,2,3,2,22,0,0,14] [0] (fun n o f=>aB [(f 0).2.1+5])
theorem Ls (b:Bool) (w:Yc) (a g d:Str) (h:a∈aD) (c:g∈aD) (e:d∈aD) (m:aP [d] [a,g]=false) (j:aP [a,g] [d]=true) (k:(a.cps.toList != d.cps.toList)=true) (p:af):aC (B0 (W b false w)) 6 (.call (.ref 269) ⟨[.ref (p 1 0)],[]⟩) [(p 1 0,ab [.str ("/" ++ a++("/" ++ g)) (p 1 2),.str ("/" ++ d) (p 1 3)] (p 1 1))] (fun i=>(.ret (.str "/" (i 0)),[ab [.str ("/" ++ a++("/" ++ g)) (p 1 2),.str ("/" ++ d) (p 1 3)] (p 1 1)],[])):=
 aA (orcs:=[du [6,5,4,0] ("/" ++ a++("/" ++ g)) ("/" ++ d),cb ("/" ++ a++("/" ++ g)) "/" ["",a,g],cb ("/" ++ d) "/" ["",d],o2 "str.startswith" ("/" ++ a++("/" ++ g)) "/" fun _=>.bool true,o2 "str.startswith" ("/" ++ d) "/" fun _=>.bool true,dD w 17,d4 w 21 17,dE w 21 17,a9 "" 0,a9 a ((a.length-1+1:Nat):Int),o2 "str.__ne__" a "." fun _=>.bool true,a9 g ((g.length-1+1:Nat):Int),o2 "str.__ne__" g "." fun _=>.bool true,a9 "" 0,a9 d ((d.length-1+1:Nat):Int),o2 "str.__ne__" d "." fun _=>.bool true,eV [24,27,32] [a,g] [d],eW [24,27,32] [a,g] [d] true,dU 27 (fun p=>bc p 1 [a,g] 2),jF w [39,38,27,32,1] a d [g] [],bx 40 "/" [] ""]) (aa (fl (by decide) (by decide)) (aa (cs (d3 a h g c)) (aa (cs (fU d e)) (aa (cm (cG [a,g] (.inr ⟨a,h,g,c,rfl⟩))) (aa (cm (cG [d] (.inl ⟨d,e,rfl⟩))) (aa (fm) (aa (fo (by decide)) (aa (fp (by decide)) (aa (bb rfl (by decide)) (aa (bb (n3 a h).1 (q1 a h).2.2.1) (aa (aQ (bP a h)) (aa (bb (n3 g c).1 (q1 g c).2.2.1) (aa (aQ (bP g c)) (aa (bb rfl (by decide)) (aa (bb (n3 d e).1 (q1 d e).2.2.1) (aa (aQ (bP d e)) (aa (fi (by decide) (m)) (aa (fj (by decide) (j)) (aa (fq) (aa (kD (by decide) k (by show 1≤500;lia) (by decide)) (aa (bB (by decide +kernel) (by decide +kernel)) aq))))))))))))))))))))) 894 21 [0,0,2,1,0,0,0,0,0,0,0,2,0,0,0,0,0,28,1,1,0,1,0,23,5,7,7,0,7,0,29,7,0,0,0,0,0,30,7,2,8,9,9,0,9,0,29,9,2,1,2,9,9,0,11,9,0,9,0,36,9,0,0,2,9,9,9,0,9,0,37,9,0,0,0,0,3,0,4,0,0,5,0,0,6,0,7,3,2,4,3,2,9,9,0,9,0,8,10,0,10,10,0,10,0,38,10,0,10,0,10,0,9,10,10,9,10,9,12,11,12,3,3,0,11,0,26,11,10,11,0,10,0,10,0,9,10,10,9,10,9,12,11,12,3,4,0,11,0,26,11,10,11,0,10,0,10,0,9,10,10,9,10,9,16,2,1,12,12,11,2,9,9,0,9,0,8,17,0,17,17,0,17,0,38,17,0,17,0,17,0,9,17,17,9,17,16,19,18,19,3,5,0,18,0,39,0,0,40,18,18,17,0,17,0,17,0,9,17,17,9,17,16,19,18,19,3,6,0,18,0,39,0,0,40,18,18,0,17,0,17,0,9,17,17,9,17,16,21,19,19,18,18,18,18,7,22,22,8,22,9,23,2,1,2,11,11,0,11,0,23,24,0,24,24,0,24,0,43,24,0,24,0,24,0,24,24,24,11,24,23,26,25,26,13,13,0,13,0,23,27,0,27,27,0,27,0,43,27,0,27,0,27,0,24,27,27,13,27,26,29,28,29,10,0,27,0,27,0,24,27,27,13,27,26,29,28,29,11,29,4,12,29,0,28,0,26,28,27,28,0,27,0,27,0,24,27,27,13,27,26,29,28,29,13,29,4,14,29,0,28,0,26,28,27,28,0,27,0,27,0,24,27,27,13,27,26,31,29,29,28,0,25,0,26,25,24,25,0,24,0,24,0,24,24,24,11,24,23,26,25,26,14,14,0,14,0,23,32,0,32,32,0,32,0,43,32,0,32,0,32,0,24,32,32,14,32,31,34,33,34,15,0,32,0,32,0,24,32,32,14,32,31,34,33,34,16,34,4,17,34,0,33,0,26,33,32,33,0,32,0,32,0,24,32,32,14,32,31,36,34,34,33,0,25,0,26,25,24,25,0,24,0,24,0,24,24,24,11,24,23,38,2,1,26,26,25,0,0,2,18,2,1,0,0,2,19,2,1,2,2,1,0,0,2,20,40,40,0,40,0,52,40,21,2,3,2,1,2,3,2,22,0,0,14] [0] (fun n o f=>aB [(f 0).2.1+5])
theorem Lu (b:Bool) (w:Yc) (a g d e:Str) (j:a∈aD) (c:g∈aD) (h:d∈aD) (i:e∈aD) (q:aP [d,e] [a,g]=false) (k:aP [a,g] [d,e]=true) (o:(a.cps.toList != d.cps.toList)=true) (p:af):aC (B0 (W b false w)) 6 (.call (.ref 269) ⟨[.ref (p 1 0)],[]⟩) [(p 1 0,ab [.str ("/" ++ a++("/" ++ g)) (p 1 2),.str ("/" ++ d++("/" ++ e)) (p 1 3)] (p 1 1))] (fun m=>(.ret (.str "/" (m 0)),[ab [.str ("/" ++ a++("/" ++ g)) (p 1 2),.str ("/" ++ d++("/" ++ e)) (p 1 3)] (p 1 1)],[])):=
 aA (orcs:=[du [6,5,4,0] ("/" ++ a++("/" ++ g)) ("/" ++ d++("/" ++ e)),cb ("/" ++ a++("/" ++ g)) "/" ["",a,g],cb ("/" ++ d++("/" ++ e)) "/" ["",d,e],o2 "str.startswith" ("/" ++ a++("/" ++ g)) "/" fun _=>.bool true,o2 "str.startswith" ("/" ++ d++("/" ++ e)) "/" fun _=>.bool true,dD w 17,d4 w 21 17,dE w 21 17,a9 "" 0,a9 a ((a.length-1+1:Nat):Int),o2 "str.__ne__" a "." fun _=>.bool true,a9 g ((g.length-1+1:Nat):Int),o2 "str.__ne__" g "." fun _=>.bool true,a9 "" 0,a9 d ((d.length-1+1:Nat):Int),o2 "str.__ne__" d "." fun _=>.bool true,a9 e ((e.length-1+1:Nat):Int),o2 "str.__ne__" e "." fun _=>.bool true,eV [24,27,32] [a,g] [d,e],eW [24,27,32] [a,g] [d,e] true,dU 27 (fun p=>bc p 1 [a,g] 2),jF w [39,38,27,32,1] a d [g] [e],bx 40 "/" [] ""]) (aa (fl (by decide) (by decide)) (aa (cs (d3 a j g c)) (aa (cs (d3 d h e i)) (aa (cm (cG [a,g] (.inr ⟨a,j,g,c,rfl⟩))) (aa (cm (cG [d,e] (.inr ⟨d,h,e,i,rfl⟩))) (aa (fm) (aa (fo (by decide)) (aa (fp (by decide)) (aa (bb rfl (by decide)) (aa (bb (n3 a j).1 (q1 a j).2.2.1) (aa (aQ (bP a j)) (aa (bb (n3 g c).1 (q1 g c).2.2.1) (aa (aQ (bP g c)) (aa (bb rfl (by decide)) (aa (bb (n3 d h).1 (q1 d h).2.2.1) (aa (aQ (bP d h)) (aa (bb (n3 e i).1 (q1 e i).2.2.1) (aa (aQ (bP e i)) (aa (fi (by decide) (q)) (aa (fj (by decide) (k)) (aa (fq) (aa (kD (by decide) o (by show 1≤500;lia) (by decide)) (aa (bB (by decide +kernel) (by decide +kernel)) aq))))))))))))))))))))))) 933 23 [0,0,2,1,0,0,0,0,0,0,0,2,0,0,0,0,0,28,1,1,0,1,0,23,5,7,7,0,7,0,29,7,0,0,0,0,0,30,7,2,8,9,9,0,9,0,29,9,2,1,2,9,9,0,11,9,0,9,0,36,9,0,0,2,9,9,9,0,9,0,37,9,0,0,0,0,3,0,4,0,0,5,0,0,6,0,7,3,2,4,3,2,9,9,0,9,0,8,10,0,10,10,0,10,0,38,10,0,10,0,10,0,9,10,10,9,10,9,12,11,12,3,3,0,11,0,26,11,10,11,0,10,0,10,0,9,10,10,9,10,9,12,11,12,3,4,0,11,0,26,11,10,11,0,10,0,10,0,9,10,10,9,10,9,16,2,1,12,12,11,2,9,9,0,9,0,8,17,0,17,17,0,17,0,38,17,0,17,0,17,0,9,17,17,9,17,16,19,18,19,3,5,0,18,0,39,0,0,40,18,18,17,0,17,0,17,0,9,17,17,9,17,16,19,18,19,3,6,0,18,0,39,0,0,40,18,18,0,17,0,17,0,9,17,17,9,17,16,21,19,19,18,18,18,18,7,22,22,8,22,9,23,2,1,2,11,11,0,11,0,23,24,0,24,24,0,24,0,43,24,0,24,0,24,0,24,24,24,11,24,23,26,25,26,13,13,0,13,0,23,27,0,27,27,0,27,0,43,27,0,27,0,27,0,24,27,27,13,27,26,29,28,29,10,0,27,0,27,0,24,27,27,13,27,26,29,28,29,11,29,4,12,29,0,28,0,26,28,27,28,0,27,0,27,0,24,27,27,13,27,26,29,28,29,13,29,4,14,29,0,28,0,26,28,27,28,0,27,0,27,0,24,27,27,13,27,26,31,29,29,28,0,25,0,26,25,24,25,0,24,0,24,0,24,24,24,11,24,23,26,25,26,14,14,0,14,0,23,32,0,32,32,0,32,0,43,32,0,32,0,32,0,24,32,32,14,32,31,34,33,34,15,0,32,0,32,0,24,32,32,14,32,31,34,33,34,16,34,4,17,34,0,33,0,26,33,32,33,0,32,0,32,0,24,32,32,14,32,31,34,33,34,18,34,4,19,34,0,33,0,26,33,32,33,0,32,0,32,0,24,32,32,14,32,31,36,34,34,33,0,25,0,26,25,24,25,0,24,0,24,0,24,24,24,11,24,23,38,2,1,26,26,25,0,0,2,20,2,1,0,0,2,21,2,1,2,2,1,0,0,2,22,40,40,0,40,0,52,40,23,2,3,2,1,2,3,2,24,0,0,14] [0] (fun n s f=>aB [(f 0).2.1+5])
theorem Lw (b:Bool) (w:Yc) (a g e:Str) (c:a∈aD) (d:g∈aD) (h:e∈aD) (m:aP [a,e] [a,g]=false) (j:aP [a,g] [a,e]=true) (k:(g.cps.toList != e.cps.toList)=true) (p:af):aC (B0 (W b false w)) 6 (.call (.ref 269) ⟨[.ref (p 1 0)],[]⟩) [(p 1 0,ab [.str ("/" ++ a++("/" ++ g)) (p 1 2),.str ("/" ++ a++("/" ++ e)) (p 1 3)] (p 1 1))] (fun i=>(.ret (.str ("/" ++ a) (i 0)),[ab [.str ("/" ++ a++("/" ++ g)) (p 1 2),.str ("/" ++ a++("/" ++ e)) (p 1 3)] (p 1 1)],[])):=
 aA (orcs:=[du [6,5,4,0] ("/" ++ a++("/" ++ g)) ("/" ++ a++("/" ++ e)),cb ("/" ++ a++("/" ++ g)) "/" ["",a,g],cb ("/" ++ a++("/" ++ e)) "/" ["",a,e],o2 "str.startswith" ("/" ++ a++("/" ++ g)) "/" fun _=>.bool true,o2 "str.startswith" ("/" ++ a++("/" ++ e)) "/" fun _=>.bool true,dD w 17,d4 w 21 17,dE w 21 17,a9 "" 0,a9 a ((a.length-1+1:Nat):Int),o2 "str.__ne__" a "." fun _=>.bool true,a9 g ((g.length-1+1:Nat):Int),o2 "str.__ne__" g "." fun _=>.bool true,a9 "" 0,a9 a ((a.length-1+1:Nat):Int),o2 "str.__ne__" a "." fun _=>.bool true,a9 e ((e.length-1+1:Nat):Int),o2 "str.__ne__" e "." fun _=>.bool true,eV [24,27,32] [a,g] [a,e],eW [24,27,32] [a,g] [a,e] true,dU 27 (fun p=>bc p 1 [a,g] 2),wo w [39,38,27,32,1] a g a e,bx 40 "/" [a] a,o2 "str.__add__" "/" a fun i=>.str ("/" ++ a) (i 0)]) (aa (fl (by decide) (by decide)) (aa (cs (d3 a c g d)) (aa (cs (d3 a c e h)) (aa (cm (cG [a,g] (.inr ⟨a,c,g,d,rfl⟩))) (aa (cm (cG [a,e] (.inr ⟨a,c,e,h,rfl⟩))) (aa (fm) (aa (fo (by decide)) (aa (fp (by decide)) (aa (bb rfl (by decide)) (aa (bb (n3 a c).1 (q1 a c).2.2.1) (aa (aQ (bP a c)) (aa (bb (n3 g d).1 (q1 g d).2.2.1) (aa (aQ (bP g d)) (aa (bb rfl (by decide)) (aa (bb (n3 a c).1 (q1 a c).2.2.1) (aa (aQ (bP a c)) (aa (bb (n3 e h).1 (q1 e h).2.2.1) (aa (aQ (bP e h)) (aa (fi (by decide) (m)) (aa (fj (by decide) (j)) (aa (fq) (aa (BR (by decide) (bne_self_eq_false _) k (by decide)) (aa (bB (n3 a c).2.2.2.2.2.1 (n3 a c).2.2.2.2.2.2) (aa (fX rfl (by decide +kernel) (da a c).2.1 (da a c).2.2) aq)))))))))))))))))))))))) 930 24 [0,0,2,1,0,0,0,0,0,0,0,2,0,0,0,0,0,28,1,1,0,1,0,23,5,7,7,0,7,0,29,7,0,0,0,0,0,30,7,2,8,9,9,0,9,0,29,9,2,1,2,9,9,0,11,9,0,9,0,36,9,0,0,2,9,9,9,0,9,0,37,9,0,0,0,0,3,0,4,0,0,5,0,0,6,0,7,3,2,4,3,2,9,9,0,9,0,8,10,0,10,10,0,10,0,38,10,0,10,0,10,0,9,10,10,9,10,9,12,11,12,3,3,0,11,0,26,11,10,11,0,10,0,10,0,9,10,10,9,10,9,12,11,12,3,4,0,11,0,26,11,10,11,0,10,0,10,0,9,10,10,9,10,9,16,2,1,12,12,11,2,9,9,0,9,0,8,17,0,17,17,0,17,0,38,17,0,17,0,17,0,9,17,17,9,17,16,19,18,19,3,5,0,18,0,39,0,0,40,18,18,17,0,17,0,17,0,9,17,17,9,17,16,19,18,19,3,6,0,18,0,39,0,0,40,18,18,0,17,0,17,0,9,17,17,9,17,16,21,19,19,18,18,18,18,7,22,22,8,22,9,23,2,1,2,11,11,0,11,0,23,24,0,24,24,0,24,0,43,24,0,24,0,24,0,24,24,24,11,24,23,26,25,26,13,13,0,13,0,23,27,0,27,27,0,27,0,43,27,0,27,0,27,0,24,27,27,13,27,26,29,28,29,10,0,27,0,27,0,24,27,27,13,27,26,29,28,29,11,29,4,12,29,0,28,0,26,28,27,28,0,27,0,27,0,24,27,27,13,27,26,29,28,29,13,29,4,14,29,0,28,0,26,28,27,28,0,27,0,27,0,24,27,27,13,27,26,31,29,29,28,0,25,0,26,25,24,25,0,24,0,24,0,24,24,24,11,24,23,26,25,26,14,14,0,14,0,23,32,0,32,32,0,32,0,43,32,0,32,0,32,0,24,32,32,14,32,31,34,33,34,15,0,32,0,32,0,24,32,32,14,32,31,34,33,34,16,34,4,17,34,0,33,0,26,33,32,33,0,32,0,32,0,24,32,32,14,32,31,34,33,34,18,34,4,19,34,0,33,0,26,33,32,33,0,32,0,32,0,24,32,32,14,32,31,36,34,34,33,0,25,0,26,25,24,25,0,24,0,24,0,24,24,24,11,24,23,38,2,1,26,26,25,0,0,2,20,2,1,0,0,2,21,2,1,2,2,1,0,0,2,22,40,40,0,40,0,52,40,23,2,3,2,1,2,3,2,24,25] [0] (fun n o f=>aB [(f 23).2.2 0])
end
section
theorem Lx (b:Bool) (w:Yc) (a:Str) (c:a∈aD) (p:af):aC (B0 (W b true w)) 6 (.call (.ref 269) ⟨[.ref (p 1 0)],[]⟩) [(p 1 0,ab [.str ("/" ++ a) (p 1 2),.str ("/" ++ a) (p 1 3)] (p 1 1))] (fun d=>(.ret (.str ("/" ++ a) (d 0)),[ab [.str ("/" ++ a) (p 1 2),.str ("/" ++ a) (p 1 3)] (p 1 1)],[])):=
 aA (orcs:=[du [6,5,4,0] ("/" ++ a) ("/" ++ a),cb ("/" ++ a) "/" ["",a],cb ("/" ++ a) "/" ["",a],o2 "str.startswith" ("/" ++ a) "/" fun _=>.bool true,o2 "str.startswith" ("/" ++ a) "/" fun _=>.bool true,dD w 17,d4 w 21 17,dE w 21 17,a9 "" 0,a9 a ((a.length-1+1:Nat):Int),o2 "str.__ne__" a "." fun _=>.bool true,a9 "" 0,a9 a ((a.length-1+1:Nat):Int),o2 "str.__ne__" a "." fun _=>.bool true,eV [24,27,32] [a] [a],eW [24,27,32] [a] [a] false,dU 27 (fun p=>bc p 1 [a] 2),wk w [39,38,27,1] a,bx 27 "/" [a] a,o2 "str.__add__" "/" a fun d=>.str ("/" ++ a) (d 0)]) (aa (fl (by decide) (by decide)) (aa (cs (fU a c)) (aa (cs (fU a c)) (aa (cm (cG [a] (.inl ⟨a,c,rfl⟩))) (aa (cm (cG [a] (.inl ⟨a,c,rfl⟩))) (aa (fm) (aa (fo (by decide)) (aa (fp (by decide)) (aa (bb rfl (by decide)) (aa (bb (n3 a c).1 (q1 a c).2.2.1) (aa (aQ (bP a c)) (aa (bb rfl (by decide)) (aa (bb (n3 a c).1 (q1 a c).2.2.1) (aa (aQ (bP a c)) (aa (fi (by decide) (jG [a])) (aa (fj (by decide) (jG [a])) (aa (fq) (aa (BO (by decide) (by decide)) (aa (bB (n3 a c).2.2.2.2.2.1 (n3 a c).2.2.2.2.2.2) (aa (fX rfl (by decide +kernel) (da a c).2.1 (da a c).2.2) aq)))))))))))))))))))) 802 20 [0,0,2,1,0,0,0,0,0,0,0,2,0,0,0,0,0,28,1,1,0,1,0,23,5,7,7,0,7,0,29,7,0,0,0,0,0,30,7,2,8,9,9,0,9,0,29,9,2,1,2,9,9,0,11,9,0,9,0,36,9,0,0,2,9,9,9,0,9,0,37,9,0,0,0,0,3,0,4,0,0,5,0,0,6,0,7,3,2,4,3,2,9,9,0,9,0,8,10,0,0,10,0,10,0,9,10,10,9,10,9,12,11,12,3,3,0,11,0,26,11,10,11,0,10,0,10,0,9,10,10,9,10,9,12,11,12,3,4,0,11,0,26,11,10,11,0,10,0,10,0,9,10,10,9,10,9,16,2,1,12,12,11,2,9,9,0,9,0,8,17,0,0,17,0,17,0,9,17,17,9,17,16,19,18,19,3,5,0,18,0,39,0,0,40,18,18,17,0,17,0,17,0,9,17,17,9,17,16,19,18,19,3,6,0,18,0,39,0,0,40,18,18,0,17,0,17,0,9,17,17,9,17,16,21,19,19,18,18,18,18,7,22,22,8,22,9,23,2,1,2,11,11,0,11,0,23,24,0,0,24,0,24,0,24,24,24,11,24,23,26,25,26,13,13,0,13,0,23,27,0,0,27,0,27,0,24,27,27,13,27,26,29,28,29,10,0,27,0,27,0,24,27,27,13,27,26,29,28,29,11,29,4,12,29,0,28,0,26,28,27,28,0,27,0,27,0,24,27,27,13,27,26,31,29,29,28,0,25,0,26,25,24,25,0,24,0,24,0,24,24,24,11,24,23,26,25,26,14,14,0,14,0,23,32,0,0,32,0,32,0,24,32,32,14,32,31,34,33,34,13,0,32,0,32,0,24,32,32,14,32,31,34,33,34,14,34,4,15,34,0,33,0,26,33,32,33,0,32,0,32,0,24,32,32,14,32,31,36,34,34,33,0,25,0,26,25,24,25,0,24,0,24,0,24,24,24,11,24,23,38,2,1,26,26,25,0,0,2,16,2,1,0,0,2,17,2,1,2,2,1,0,0,2,18,40,40,0,40,0,52,40,19,2,3,2,1,2,3,2,20,21] [0] (fun n e f=>aB [(f 19).2.2 0])
theorem Ly (b:Bool) (w:Yc) (a g:Str) (d:a∈aD) (c:g∈aD) (p:af):aC (B0 (W b true w)) 6 (.call (.ref 269) ⟨[.ref (p 1 0)],[]⟩) [(p 1 0,ab [.str ("/" ++ a++("/" ++ g)) (p 1 2),.str ("/" ++ a++("/" ++ g)) (p 1 3)] (p 1 1))] (fun e=>(.ret (.str ("/" ++ a++("/" ++ g)) (e 0)),[ab [.str ("/" ++ a++("/" ++ g)) (p 1 2),.str ("/" ++ a++("/" ++ g)) (p 1 3)] (p 1 1)],[])):=
 aA (orcs:=[du [6,5,4,0] ("/" ++ a++("/" ++ g)) ("/" ++ a++("/" ++ g)),cb ("/" ++ a++("/" ++ g)) "/" ["",a,g],cb ("/" ++ a++("/" ++ g)) "/" ["",a,g],o2 "str.startswith" ("/" ++ a++("/" ++ g)) "/" fun _=>.bool true,o2 "str.startswith" ("/" ++ a++("/" ++ g)) "/" fun _=>.bool true,dD w 17,d4 w 21 17,dE w 21 17,a9 "" 0,a9 a ((a.length-1+1:Nat):Int),o2 "str.__ne__" a "." fun _=>.bool true,a9 g ((g.length-1+1:Nat):Int),o2 "str.__ne__" g "." fun _=>.bool true,a9 "" 0,a9 a ((a.length-1+1:Nat):Int),o2 "str.__ne__" a "." fun _=>.bool true,a9 g ((g.length-1+1:Nat):Int),o2 "str.__ne__" g "." fun _=>.bool true,eV [24,27,32] [a,g] [a,g],eW [24,27,32] [a,g] [a,g] false,dU 27 (fun p=>bc p 1 [a,g] 2),wm w [39,38,27,1] a g,bx 27 "/" [a,g] (a++("/" ++ g)),o2 "str.__add__" "/" (a++("/" ++ g)) fun e=>.str ("/" ++ a++("/" ++ g)) (e 0)]) (aa (fl (by decide) (by decide)) (aa (cs (d3 a d g c)) (aa (cs (d3 a d g c)) (aa (cm (cG [a,g] (.inr ⟨a,d,g,c,rfl⟩))) (aa (cm (cG [a,g] (.inr ⟨a,d,g,c,rfl⟩))) (aa (fm) (aa (fo (by decide)) (aa (fp (by decide)) (aa (bb rfl (by decide)) (aa (bb (n3 a d).1 (q1 a d).2.2.1) (aa (aQ (bP a d)) (aa (bb (n3 g c).1 (q1 g c).2.2.1) (aa (aQ (bP g c)) (aa (bb rfl (by decide)) (aa (bb (n3 a d).1 (q1 a d).2.2.1) (aa (aQ (bP a d)) (aa (bb (n3 g c).1 (q1 g c).2.2.1) (aa (aQ (bP g c)) (aa (fi (by decide) (jG [a,g])) (aa (fj (by decide) (jG [a,g])) (aa (fq) (aa (BP (by decide) (by decide)) (aa (bB (n4 a d g c).2.2.1 (n4 a d g c).2.2.2.1) (aa (fX (n5 a d g c).1 (by decide +kernel) (n5 a d g c).2 (pe a d g c)) aq)))))))))))))))))))))))) 880 24 [0,0,2,1,0,0,0,0,0,0,0,2,0,0,0,0,0,28,1,1,0,1,0,23,5,7,7,0,7,0,29,7,0,0,0,0,0,30,7,2,8,9,9,0,9,0,29,9,2,1,2,9,9,0,11,9,0,9,0,36,9,0,0,2,9,9,9,0,9,0,37,9,0,0,0,0,3,0,4,0,0,5,0,0,6,0,7,3,2,4,3,2,9,9,0,9,0,8,10,0,0,10,0,10,0,9,10,10,9,10,9,12,11,12,3,3,0,11,0,26,11,10,11,0,10,0,10,0,9,10,10,9,10,9,12,11,12,3,4,0,11,0,26,11,10,11,0,10,0,10,0,9,10,10,9,10,9,16,2,1,12,12,11,2,9,9,0,9,0,8,17,0,0,17,0,17,0,9,17,17,9,17,16,19,18,19,3,5,0,18,0,39,0,0,40,18,18,17,0,17,0,17,0,9,17,17,9,17,16,19,18,19,3,6,0,18,0,39,0,0,40,18,18,0,17,0,17,0,9,17,17,9,17,16,21,19,19,18,18,18,18,7,22,22,8,22,9,23,2,1,2,11,11,0,11,0,23,24,0,0,24,0,24,0,24,24,24,11,24,23,26,25,26,13,13,0,13,0,23,27,0,0,27,0,27,0,24,27,27,13,27,26,29,28,29,10,0,27,0,27,0,24,27,27,13,27,26,29,28,29,11,29,4,12,29,0,28,0,26,28,27,28,0,27,0,27,0,24,27,27,13,27,26,29,28,29,13,29,4,14,29,0,28,0,26,28,27,28,0,27,0,27,0,24,27,27,13,27,26,31,29,29,28,0,25,0,26,25,24,25,0,24,0,24,0,24,24,24,11,24,23,26,25,26,14,14,0,14,0,23,32,0,0,32,0,32,0,24,32,32,14,32,31,34,33,34,15,0,32,0,32,0,24,32,32,14,32,31,34,33,34,16,34,4,17,34,0,33,0,26,33,32,33,0,32,0,32,0,24,32,32,14,32,31,34,33,34,18,34,4,19,34,0,33,0,26,33,32,33,0,32,0,32,0,24,32,32,14,32,31,36,34,34,33,0,25,0,26,25,24,25,0,24,0,24,0,24,24,24,11,24,23,38,2,1,26,26,25,0,0,2,20,2,1,0,0,2,21,2,1,2,2,1,0,0,2,22,40,40,0,40,0,52,40,23,2,3,2,1,2,3,2,24,25] [0] (fun n h f=>aB [(f 23).2.2 0])
theorem Lz (b:Bool) (w:Yc) (a e:Str) (c:a∈aD) (d:e∈aD) (i:aP [a,e] [a]=false) (h:aP [a] [a,e]=true) (p:af):aC (B0 (W b true w)) 6 (.call (.ref 269) ⟨[.ref (p 1 0)],[]⟩) [(p 1 0,ab [.str ("/" ++ a) (p 1 2),.str ("/" ++ a++("/" ++ e)) (p 1 3)] (p 1 1))] (fun g=>(.ret (.str ("/" ++ a) (g 0)),[ab [.str ("/" ++ a) (p 1 2),.str ("/" ++ a++("/" ++ e)) (p 1 3)] (p 1 1)],[])):=
 aA (orcs:=[du [6,5,4,0] ("/" ++ a) ("/" ++ a++("/" ++ e)),cb ("/" ++ a) "/" ["",a],cb ("/" ++ a++("/" ++ e)) "/" ["",a,e],o2 "str.startswith" ("/" ++ a) "/" fun _=>.bool true,o2 "str.startswith" ("/" ++ a++("/" ++ e)) "/" fun _=>.bool true,dD w 17,d4 w 21 17,dE w 21 17,a9 "" 0,a9 a ((a.length-1+1:Nat):Int),o2 "str.__ne__" a "." fun _=>.bool true,a9 "" 0,a9 a ((a.length-1+1:Nat):Int),o2 "str.__ne__" a "." fun _=>.bool true,a9 e ((e.length-1+1:Nat):Int),o2 "str.__ne__" e "." fun _=>.bool true,eV [24,27,32] [a] [a,e],eW [24,27,32] [a] [a,e] true,dU 27 (fun p=>bc p 1 [a] 2),wn w [39,38,27,32,1] a a [e],bx 27 "/" [a] a,o2 "str.__add__" "/" a fun g=>.str ("/" ++ a) (g 0)]) (aa (fl (by decide) (by decide)) (aa (cs (fU a c)) (aa (cs (d3 a c e d)) (aa (cm (cG [a] (.inl ⟨a,c,rfl⟩))) (aa (cm (cG [a,e] (.inr ⟨a,c,e,d,rfl⟩))) (aa (fm) (aa (fo (by decide)) (aa (fp (by decide)) (aa (bb rfl (by decide)) (aa (bb (n3 a c).1 (q1 a c).2.2.1) (aa (aQ (bP a c)) (aa (bb rfl (by decide)) (aa (bb (n3 a c).1 (q1 a c).2.2.1) (aa (aQ (bP a c)) (aa (bb (n3 e d).1 (q1 e d).2.2.1) (aa (aQ (bP e d)) (aa (fi (by decide) (i)) (aa (fj (by decide) (h)) (aa (fq) (aa (BQ (by decide) (bne_self_eq_false _) (by decide)) (aa (bB (n3 a c).2.2.2.2.2.1 (n3 a c).2.2.2.2.2.2) (aa (fX rfl (by decide +kernel) (da a c).2.1 (da a c).2.2) aq)))))))))))))))))))))) 841 22 [0,0,2,1,0,0,0,0,0,0,0,2,0,0,0,0,0,28,1,1,0,1,0,23,5,7,7,0,7,0,29,7,0,0,0,0,0,30,7,2,8,9,9,0,9,0,29,9,2,1,2,9,9,0,11,9,0,9,0,36,9,0,0,2,9,9,9,0,9,0,37,9,0,0,0,0,3,0,4,0,0,5,0,0,6,0,7,3,2,4,3,2,9,9,0,9,0,8,10,0,0,10,0,10,0,9,10,10,9,10,9,12,11,12,3,3,0,11,0,26,11,10,11,0,10,0,10,0,9,10,10,9,10,9,12,11,12,3,4,0,11,0,26,11,10,11,0,10,0,10,0,9,10,10,9,10,9,16,2,1,12,12,11,2,9,9,0,9,0,8,17,0,0,17,0,17,0,9,17,17,9,17,16,19,18,19,3,5,0,18,0,39,0,0,40,18,18,17,0,17,0,17,0,9,17,17,9,17,16,19,18,19,3,6,0,18,0,39,0,0,40,18,18,0,17,0,17,0,9,17,17,9,17,16,21,19,19,18,18,18,18,7,22,22,8,22,9,23,2,1,2,11,11,0,11,0,23,24,0,0,24,0,24,0,24,24,24,11,24,23,26,25,26,13,13,0,13,0,23,27,0,0,27,0,27,0,24,27,27,13,27,26,29,28,29,10,0,27,0,27,0,24,27,27,13,27,26,29,28,29,11,29,4,12,29,0,28,0,26,28,27,28,0,27,0,27,0,24,27,27,13,27,26,31,29,29,28,0,25,0,26,25,24,25,0,24,0,24,0,24,24,24,11,24,23,26,25,26,14,14,0,14,0,23,32,0,0,32,0,32,0,24,32,32,14,32,31,34,33,34,13,0,32,0,32,0,24,32,32,14,32,31,34,33,34,14,34,4,15,34,0,33,0,26,33,32,33,0,32,0,32,0,24,32,32,14,32,31,34,33,34,16,34,4,17,34,0,33,0,26,33,32,33,0,32,0,32,0,24,32,32,14,32,31,36,34,34,33,0,25,0,26,25,24,25,0,24,0,24,0,24,24,24,11,24,23,38,2,1,26,26,25,0,0,2,18,2,1,0,0,2,19,2,1,2,2,1,0,0,2,20,40,40,0,40,0,52,40,21,2,3,2,1,2,3,2,22,23] [0] (fun n j f=>aB [(f 21).2.2 0])
theorem LA (b:Bool) (w:Yc) (a d:Str) (e:a∈aD) (c:d∈aD) (j:aP [d] [a]=false) (h:aP [a] [d]=true) (i:(a.cps.toList != d.cps.toList)=true) (p:af):aC (B0 (W b true w)) 6 (.call (.ref 269) ⟨[.ref (p 1 0)],[]⟩) [(p 1 0,ab [.str ("/" ++ a) (p 1 2),.str ("/" ++ d) (p 1 3)] (p 1 1))] (fun g=>(.ret (.str "/" (g 0)),[ab [.str ("/" ++ a) (p 1 2),.str ("/" ++ d) (p 1 3)] (p 1 1)],[])):=
 aA (orcs:=[du [6,5,4,0] ("/" ++ a) ("/" ++ d),cb ("/" ++ a) "/" ["",a],cb ("/" ++ d) "/" ["",d],o2 "str.startswith" ("/" ++ a) "/" fun _=>.bool true,o2 "str.startswith" ("/" ++ d) "/" fun _=>.bool true,dD w 17,d4 w 21 17,dE w 21 17,a9 "" 0,a9 a ((a.length-1+1:Nat):Int),o2 "str.__ne__" a "." fun _=>.bool true,a9 "" 0,a9 d ((d.length-1+1:Nat):Int),o2 "str.__ne__" d "." fun _=>.bool true,eV [24,27,32] [a] [d],eW [24,27,32] [a] [d] true,dU 27 (fun p=>bc p 1 [a] 2),jF w [39,38,27,32,1] a d [] [],bx 40 "/" [] ""]) (aa (fl (by decide) (by decide)) (aa (cs (fU a e)) (aa (cs (fU d c)) (aa (cm (cG [a] (.inl ⟨a,e,rfl⟩))) (aa (cm (cG [d] (.inl ⟨d,c,rfl⟩))) (aa (fm) (aa (fo (by decide)) (aa (fp (by decide)) (aa (bb rfl (by decide)) (aa (bb (n3 a e).1 (q1 a e).2.2.1) (aa (aQ (bP a e)) (aa (bb rfl (by decide)) (aa (bb (n3 d c).1 (q1 d c).2.2.1) (aa (aQ (bP d c)) (aa (fi (by decide) (j)) (aa (fj (by decide) (h)) (aa (fq) (aa (kD (by decide) i (by show 0≤500;lia) (by decide)) (aa (bB (by decide +kernel) (by decide +kernel)) aq))))))))))))))))))) 805 19 [0,0,2,1,0,0,0,0,0,0,0,2,0,0,0,0,0,28,1,1,0,1,0,23,5,7,7,0,7,0,29,7,0,0,0,0,0,30,7,2,8,9,9,0,9,0,29,9,2,1,2,9,9,0,11,9,0,9,0,36,9,0,0,2,9,9,9,0,9,0,37,9,0,0,0,0,3,0,4,0,0,5,0,0,6,0,7,3,2,4,3,2,9,9,0,9,0,8,10,0,0,10,0,10,0,9,10,10,9,10,9,12,11,12,3,3,0,11,0,26,11,10,11,0,10,0,10,0,9,10,10,9,10,9,12,11,12,3,4,0,11,0,26,11,10,11,0,10,0,10,0,9,10,10,9,10,9,16,2,1,12,12,11,2,9,9,0,9,0,8,17,0,0,17,0,17,0,9,17,17,9,17,16,19,18,19,3,5,0,18,0,39,0,0,40,18,18,17,0,17,0,17,0,9,17,17,9,17,16,19,18,19,3,6,0,18,0,39,0,0,40,18,18,0,17,0,17,0,9,17,17,9,17,16,21,19,19,18,18,18,18,7,22,22,8,22,9,23,2,1,2,11,11,0,11,0,23,24,0,0,24,0,24,0,24,24,24,11,24,23,26,25,26,13,13,0,13,0,23,27,0,0,27,0,27,0,24,27,27,13,27,26,29,28,29,10,0,27,0,27,0,24,27,27,13,27,26,29,28,29,11,29,4,12,29,0,28,0,26,28,27,28,0,27,0,27,0,24,27,27,13,27,26,31,29,29,28,0,25,0,26,25,24,25,0,24,0,24,0,24,24,24,11,24,23,26,25,26,14,14,0,14,0,23,32,0,0,32,0,32,0,24,32,32,14,32,31,34,33,34,13,0,32,0,32,0,24,32,32,14,32,31,34,33,34,14,34,4,15,34,0,33,0,26,33,32,33,0,32,0,32,0,24,32,32,14,32,31,36,34,34,33,0,25,0,26,25,24,25,0,24,0,24,0,24,24,24,11,24,23,38,2,1,26,26,25,0,0,2,16,2,1,0,0,2,17,2,1,2,2,1,0,0,2,18,40,40,0,40,0,52,40,19,2,3,2,1,2,3,2,20,0,0,14] [0] (fun n k f=>aB [(f 0).2.1+5])
theorem LB (b:Bool) (w:Yc) (a d e:Str) (h:a∈aD) (g:d∈aD) (c:e∈aD) (m:aP [d,e] [a]=false) (j:aP [a] [d,e]=true) (k:(a.cps.toList != d.cps.toList)=true) (p:af):aC (B0 (W b true w)) 6 (.call (.ref 269) ⟨[.ref (p 1 0)],[]⟩) [(p 1 0,ab [.str ("/" ++ a) (p 1 2),.str ("/" ++ d++("/" ++ e)) (p 1 3)] (p 1 1))] (fun i=>(.ret (.str "/" (i 0)),[ab [.str ("/" ++ a) (p 1 2),.str ("/" ++ d++("/" ++ e)) (p 1 3)] (p 1 1)],[])):=
 aA (orcs:=[du [6,5,4,0] ("/" ++ a) ("/" ++ d++("/" ++ e)),cb ("/" ++ a) "/" ["",a],cb ("/" ++ d++("/" ++ e)) "/" ["",d,e],o2 "str.startswith" ("/" ++ a) "/" fun _=>.bool true,o2 "str.startswith" ("/" ++ d++("/" ++ e)) "/" fun _=>.bool true,dD w 17,d4 w 21 17,dE w 21 17,a9 "" 0,a9 a ((a.length-1+1:Nat):Int),o2 "str.__ne__" a "." fun _=>.bool true,a9 "" 0,a9 d ((d.length-1+1:Nat):Int),o2 "str.__ne__" d "." fun _=>.bool true,a9 e ((e.length-1+1:Nat):Int),o2 "str.__ne__" e "." fun _=>.bool true,eV [24,27,32] [a] [d,e],eW [24,27,32] [a] [d,e] true,dU 27 (fun p=>bc p 1 [a] 2),jF w [39,38,27,32,1] a d [] [e],bx 40 "/" [] ""]) (aa (fl (by decide) (by decide)) (aa (cs (fU a h)) (aa (cs (d3 d g e c)) (aa (cm (cG [a] (.inl ⟨a,h,rfl⟩))) (aa (cm (cG [d,e] (.inr ⟨d,g,e,c,rfl⟩))) (aa (fm) (aa (fo (by decide)) (aa (fp (by decide)) (aa (bb rfl (by decide)) (aa (bb (n3 a h).1 (q1 a h).2.2.1) (aa (aQ (bP a h)) (aa (bb rfl (by decide)) (aa (bb (n3 d g).1 (q1 d g).2.2.1) (aa (aQ (bP d g)) (aa (bb (n3 e c).1 (q1 e c).2.2.1) (aa (aQ (bP e c)) (aa (fi (by decide) (m)) (aa (fj (by decide) (j)) (aa (fq) (aa (kD (by decide) k (by show 0≤500;lia) (by decide)) (aa (bB (by decide +kernel) (by decide +kernel)) aq))))))))))))))))))))) 844 21 [0,0,2,1,0,0,0,0,0,0,0,2,0,0,0,0,0,28,1,1,0,1,0,23,5,7,7,0,7,0,29,7,0,0,0,0,0,30,7,2,8,9,9,0,9,0,29,9,2,1,2,9,9,0,11,9,0,9,0,36,9,0,0,2,9,9,9,0,9,0,37,9,0,0,0,0,3,0,4,0,0,5,0,0,6,0,7,3,2,4,3,2,9,9,0,9,0,8,10,0,0,10,0,10,0,9,10,10,9,10,9,12,11,12,3,3,0,11,0,26,11,10,11,0,10,0,10,0,9,10,10,9,10,9,12,11,12,3,4,0,11,0,26,11,10,11,0,10,0,10,0,9,10,10,9,10,9,16,2,1,12,12,11,2,9,9,0,9,0,8,17,0,0,17,0,17,0,9,17,17,9,17,16,19,18,19,3,5,0,18,0,39,0,0,40,18,18,17,0,17,0,17,0,9,17,17,9,17,16,19,18,19,3,6,0,18,0,39,0,0,40,18,18,0,17,0,17,0,9,17,17,9,17,16,21,19,19,18,18,18,18,7,22,22,8,22,9,23,2,1,2,11,11,0,11,0,23,24,0,0,24,0,24,0,24,24,24,11,24,23,26,25,26,13,13,0,13,0,23,27,0,0,27,0,27,0,24,27,27,13,27,26,29,28,29,10,0,27,0,27,0,24,27,27,13,27,26,29,28,29,11,29,4,12,29,0,28,0,26,28,27,28,0,27,0,27,0,24,27,27,13,27,26,31,29,29,28,0,25,0,26,25,24,25,0,24,0,24,0,24,24,24,11,24,23,26,25,26,14,14,0,14,0,23,32,0,0,32,0,32,0,24,32,32,14,32,31,34,33,34,13,0,32,0,32,0,24,32,32,14,32,31,34,33,34,14,34,4,15,34,0,33,0,26,33,32,33,0,32,0,32,0,24,32,32,14,32,31,34,33,34,16,34,4,17,34,0,33,0,26,33,32,33,0,32,0,32,0,24,32,32,14,32,31,36,34,34,33,0,25,0,26,25,24,25,0,24,0,24,0,24,24,24,11,24,23,38,2,1,26,26,25,0,0,2,18,2,1,0,0,2,19,2,1,2,2,1,0,0,2,20,40,40,0,40,0,52,40,21,2,3,2,1,2,3,2,22,0,0,14] [0] (fun n o f=>aB [(f 0).2.1+5])
theorem LC (b:Bool) (w:Yc) (a g d:Str) (h:a∈aD) (c:g∈aD) (e:d∈aD) (m:aP [d] [a,g]=false) (j:aP [a,g] [d]=true) (k:(a.cps.toList != d.cps.toList)=true) (p:af):aC (B0 (W b true w)) 6 (.call (.ref 269) ⟨[.ref (p 1 0)],[]⟩) [(p 1 0,ab [.str ("/" ++ a++("/" ++ g)) (p 1 2),.str ("/" ++ d) (p 1 3)] (p 1 1))] (fun i=>(.ret (.str "/" (i 0)),[ab [.str ("/" ++ a++("/" ++ g)) (p 1 2),.str ("/" ++ d) (p 1 3)] (p 1 1)],[])):=
 aA (orcs:=[du [6,5,4,0] ("/" ++ a++("/" ++ g)) ("/" ++ d),cb ("/" ++ a++("/" ++ g)) "/" ["",a,g],cb ("/" ++ d) "/" ["",d],o2 "str.startswith" ("/" ++ a++("/" ++ g)) "/" fun _=>.bool true,o2 "str.startswith" ("/" ++ d) "/" fun _=>.bool true,dD w 17,d4 w 21 17,dE w 21 17,a9 "" 0,a9 a ((a.length-1+1:Nat):Int),o2 "str.__ne__" a "." fun _=>.bool true,a9 g ((g.length-1+1:Nat):Int),o2 "str.__ne__" g "." fun _=>.bool true,a9 "" 0,a9 d ((d.length-1+1:Nat):Int),o2 "str.__ne__" d "." fun _=>.bool true,eV [24,27,32] [a,g] [d],eW [24,27,32] [a,g] [d] true,dU 27 (fun p=>bc p 1 [a,g] 2),jF w [39,38,27,32,1] a d [g] [],bx 40 "/" [] ""]) (aa (fl (by decide) (by decide)) (aa (cs (d3 a h g c)) (aa (cs (fU d e)) (aa (cm (cG [a,g] (.inr ⟨a,h,g,c,rfl⟩))) (aa (cm (cG [d] (.inl ⟨d,e,rfl⟩))) (aa (fm) (aa (fo (by decide)) (aa (fp (by decide)) (aa (bb rfl (by decide)) (aa (bb (n3 a h).1 (q1 a h).2.2.1) (aa (aQ (bP a h)) (aa (bb (n3 g c).1 (q1 g c).2.2.1) (aa (aQ (bP g c)) (aa (bb rfl (by decide)) (aa (bb (n3 d e).1 (q1 d e).2.2.1) (aa (aQ (bP d e)) (aa (fi (by decide) (m)) (aa (fj (by decide) (j)) (aa (fq) (aa (kD (by decide) k (by show 1≤500;lia) (by decide)) (aa (bB (by decide +kernel) (by decide +kernel)) aq))))))))))))))))))))) 844 21 [0,0,2,1,0,0,0,0,0,0,0,2,0,0,0,0,0,28,1,1,0,1,0,23,5,7,7,0,7,0,29,7,0,0,0,0,0,30,7,2,8,9,9,0,9,0,29,9,2,1,2,9,9,0,11,9,0,9,0,36,9,0,0,2,9,9,9,0,9,0,37,9,0,0,0,0,3,0,4,0,0,5,0,0,6,0,7,3,2,4,3,2,9,9,0,9,0,8,10,0,0,10,0,10,0,9,10,10,9,10,9,12,11,12,3,3,0,11,0,26,11,10,11,0,10,0,10,0,9,10,10,9,10,9,12,11,12,3,4,0,11,0,26,11,10,11,0,10,0,10,0,9,10,10,9,10,9,16,2,1,12,12,11,2,9,9,0,9,0,8,17,0,0,17,0,17,0,9,17,17,9,17,16,19,18,19,3,5,0,18,0,39,0,0,40,18,18,17,0,17,0,17,0,9,17,17,9,17,16,19,18,19,3,6,0,18,0,39,0,0,40,18,18,0,17,0,17,0,9,17,17,9,17,16,21,19,19,18,18,18,18,7,22,22,8,22,9,23,2,1,2,11,11,0,11,0,23,24,0,0,24,0,24,0,24,24,24,11,24,23,26,25,26,13,13,0,13,0,23,27,0,0,27,0,27,0,24,27,27,13,27,26,29,28,29,10,0,27,0,27,0,24,27,27,13,27,26,29,28,29,11,29,4,12,29,0,28,0,26,28,27,28,0,27,0,27,0,24,27,27,13,27,26,29,28,29,13,29,4,14,29,0,28,0,26,28,27,28,0,27,0,27,0,24,27,27,13,27,26,31,29,29,28,0,25,0,26,25,24,25,0,24,0,24,0,24,24,24,11,24,23,26,25,26,14,14,0,14,0,23,32,0,0,32,0,32,0,24,32,32,14,32,31,34,33,34,15,0,32,0,32,0,24,32,32,14,32,31,34,33,34,16,34,4,17,34,0,33,0,26,33,32,33,0,32,0,32,0,24,32,32,14,32,31,36,34,34,33,0,25,0,26,25,24,25,0,24,0,24,0,24,24,24,11,24,23,38,2,1,26,26,25,0,0,2,18,2,1,0,0,2,19,2,1,2,2,1,0,0,2,20,40,40,0,40,0,52,40,21,2,3,2,1,2,3,2,22,0,0,14] [0] (fun n o f=>aB [(f 0).2.1+5])
theorem LD (b:Bool) (w:Yc) (a g d e:Str) (j:a∈aD) (c:g∈aD) (h:d∈aD) (i:e∈aD) (q:aP [d,e] [a,g]=false) (k:aP [a,g] [d,e]=true) (o:(a.cps.toList != d.cps.toList)=true) (p:af):aC (B0 (W b true w)) 6 (.call (.ref 269) ⟨[.ref (p 1 0)],[]⟩) [(p 1 0,ab [.str ("/" ++ a++("/" ++ g)) (p 1 2),.str ("/" ++ d++("/" ++ e)) (p 1 3)] (p 1 1))] (fun m=>(.ret (.str "/" (m 0)),[ab [.str ("/" ++ a++("/" ++ g)) (p 1 2),.str ("/" ++ d++("/" ++ e)) (p 1 3)] (p 1 1)],[])):=
 aA (orcs:=[du [6,5,4,0] ("/" ++ a++("/" ++ g)) ("/" ++ d++("/" ++ e)),cb ("/" ++ a++("/" ++ g)) "/" ["",a,g],cb ("/" ++ d++("/" ++ e)) "/" ["",d,e],o2 "str.startswith" ("/" ++ a++("/" ++ g)) "/" fun _=>.bool true,o2 "str.startswith" ("/" ++ d++("/" ++ e)) "/" fun _=>.bool true,dD w 17,d4 w 21 17,dE w 21 17,a9 "" 0,a9 a ((a.length-1+1:Nat):Int),o2 "str.__ne__" a "." fun _=>.bool true,a9 g ((g.length-1+1:Nat):Int),o2 "str.__ne__" g "." fun _=>.bool true,a9 "" 0,a9 d ((d.length-1+1:Nat):Int),o2 "str.__ne__" d "." fun _=>.bool true,a9 e ((e.length-1+1:Nat):Int),o2 "str.__ne__" e "." fun _=>.bool true,eV [24,27,32] [a,g] [d,e],eW [24,27,32] [a,g] [d,e] true,dU 27 (fun p=>bc p 1 [a,g] 2),jF w [39,38,27,32,1] a d [g] [e],bx 40 "/" [] ""]) (aa (fl (by decide) (by decide)) (aa (cs (d3 a j g c)) (aa (cs (d3 d h e i)) (aa (cm (cG [a,g] (.inr ⟨a,j,g,c,rfl⟩))) (aa (cm (cG [d,e] (.inr ⟨d,h,e,i,rfl⟩))) (aa (fm) (aa (fo (by decide)) (aa (fp (by decide)) (aa (bb rfl (by decide)) (aa (bb (n3 a j).1 (q1 a j).2.2.1) (aa (aQ (bP a j)) (aa (bb (n3 g c).1 (q1 g c).2.2.1) (aa (aQ (bP g c)) (aa (bb rfl (by decide)) (aa (bb (n3 d h).1 (q1 d h).2.2.1) (aa (aQ (bP d h)) (aa (bb (n3 e i).1 (q1 e i).2.2.1) (aa (aQ (bP e i)) (aa (fi (by decide) (q)) (aa (fj (by decide) (k)) (aa (fq) (aa (kD (by decide) o (by show 1≤500;lia) (by decide)) (aa (bB (by decide +kernel) (by decide +kernel)) aq))))))))))))))))))))))) 883 23 [0,0,2,1,0,0,0,0,0,0,0,2,0,0,0,0,0,28,1,1,0,1,0,23,5,7,7,0,7,0,29,7,0,0,0,0,0,30,7,2,8,9,9,0,9,0,29,9,2,1,2,9,9,0,11,9,0,9,0,36,9,0,0,2,9,9,9,0,9,0,37,9,0,0,0,0,3,0,4,0,0,5,0,0,6,0,7,3,2,4,3,2,9,9,0,9,0,8,10,0,0,10,0,10,0,9,10,10,9,10,9,12,11,12,3,3,0,11,0,26,11,10,11,0,10,0,10,0,9,10,10,9,10,9,12,11,12,3,4,0,11,0,26,11,10,11,0,10,0,10,0,9,10,10,9,10,9,16,2,1,12,12,11,2,9,9,0,9,0,8,17,0,0,17,0,17,0,9,17,17,9,17,16,19,18,19,3,5,0,18,0,39,0,0,40,18,18,17,0,17,0,17,0,9,17,17,9,17,16,19,18,19,3,6,0,18,0,39,0,0,40,18,18,0,17,0,17,0,9,17,17,9,17,16,21,19,19,18,18,18,18,7,22,22,8,22,9,23,2,1,2,11,11,0,11,0,23,24,0,0,24,0,24,0,24,24,24,11,24,23,26,25,26,13,13,0,13,0,23,27,0,0,27,0,27,0,24,27,27,13,27,26,29,28,29,10,0,27,0,27,0,24,27,27,13,27,26,29,28,29,11,29,4,12,29,0,28,0,26,28,27,28,0,27,0,27,0,24,27,27,13,27,26,29,28,29,13,29,4,14,29,0,28,0,26,28,27,28,0,27,0,27,0,24,27,27,13,27,26,31,29,29,28,0,25,0,26,25,24,25,0,24,0,24,0,24,24,24,11,24,23,26,25,26,14,14,0,14,0,23,32,0,0,32,0,32,0,24,32,32,14,32,31,34,33,34,15,0,32,0,32,0,24,32,32,14,32,31,34,33,34,16,34,4,17,34,0,33,0,26,33,32,33,0,32,0,32,0,24,32,32,14,32,31,34,33,34,18,34,4,19,34,0,33,0,26,33,32,33,0,32,0,32,0,24,32,32,14,32,31,36,34,34,33,0,25,0,26,25,24,25,0,24,0,24,0,24,24,24,11,24,23,38,2,1,26,26,25,0,0,2,20,2,1,0,0,2,21,2,1,2,2,1,0,0,2,22,40,40,0,40,0,52,40,23,2,3,2,1,2,3,2,24,0,0,14] [0] (fun n s f=>aB [(f 0).2.1+5])
theorem LE (b:Bool) (w:Yc) (a g e:Str) (c:a∈aD) (d:g∈aD) (h:e∈aD) (m:aP [a,e] [a,g]=false) (j:aP [a,g] [a,e]=true) (k:(g.cps.toList != e.cps.toList)=true) (p:af):aC (B0 (W b true w)) 6 (.call (.ref 269) ⟨[.ref (p 1 0)],[]⟩) [(p 1 0,ab [.str ("/" ++ a++("/" ++ g)) (p 1 2),.str ("/" ++ a++("/" ++ e)) (p 1 3)] (p 1 1))] (fun i=>(.ret (.str ("/" ++ a) (i 0)),[ab [.str ("/" ++ a++("/" ++ g)) (p 1 2),.str ("/" ++ a++("/" ++ e)) (p 1 3)] (p 1 1)],[])):=
 aA (orcs:=[du [6,5,4,0] ("/" ++ a++("/" ++ g)) ("/" ++ a++("/" ++ e)),cb ("/" ++ a++("/" ++ g)) "/" ["",a,g],cb ("/" ++ a++("/" ++ e)) "/" ["",a,e],o2 "str.startswith" ("/" ++ a++("/" ++ g)) "/" fun _=>.bool true,o2 "str.startswith" ("/" ++ a++("/" ++ e)) "/" fun _=>.bool true,dD w 17,d4 w 21 17,dE w 21 17,a9 "" 0,a9 a ((a.length-1+1:Nat):Int),o2 "str.__ne__" a "." fun _=>.bool true,a9 g ((g.length-1+1:Nat):Int),o2 "str.__ne__" g "." fun _=>.bool true,a9 "" 0,a9 a ((a.length-1+1:Nat):Int),o2 "str.__ne__" a "." fun _=>.bool true,a9 e ((e.length-1+1:Nat):Int),o2 "str.__ne__" e "." fun _=>.bool true,eV [24,27,32] [a,g] [a,e],eW [24,27,32] [a,g] [a,e] true,dU 27 (fun p=>bc p 1 [a,g] 2),wo w [39,38,27,32,1] a g a e,bx 40 "/" [a] a,o2 "str.__add__" "/" a fun i=>.str ("/" ++ a) (i 0)]) (aa (fl (by decide) (by decide)) (aa (cs (d3 a c g d)) (aa (cs (d3 a c e h)) (aa (cm (cG [a,g] (.inr ⟨a,c,g,d,rfl⟩))) (aa (cm (cG [a,e] (.inr ⟨a,c,e,h,rfl⟩))) (aa (fm) (aa (fo (by decide)) (aa (fp (by decide)) (aa (bb rfl (by decide)) (aa (bb (n3 a c).1 (q1 a c).2.2.1) (aa (aQ (bP a c)) (aa (bb (n3 g d).1 (q1 g d).2.2.1) (aa (aQ (bP g d)) (aa (bb rfl (by decide)) (aa (bb (n3 a c).1 (q1 a c).2.2.1) (aa (aQ (bP a c)) (aa (bb (n3 e h).1 (q1 e h).2.2.1) (aa (aQ (bP e h)) (aa (fi (by decide) (m)) (aa (fj (by decide) (j)) (aa (fq) (aa (BR (by decide) (bne_self_eq_false _) k (by decide)) (aa (bB (n3 a c).2.2.2.2.2.1 (n3 a c).2.2.2.2.2.2) (aa (fX rfl (by decide +kernel) (da a c).2.1 (da a c).2.2) aq)))))))))))))))))))))))) 880 24 [0,0,2,1,0,0,0,0,0,0,0,2,0,0,0,0,0,28,1,1,0,1,0,23,5,7,7,0,7,0,29,7,0,0,0,0,0,30,7,2,8,9,9,0,9,0,29,9,2,1,2,9,9,0,11,9,0,9,0,36,9,0,0,2,9,9,9,0,9,0,37,9,0,0,0,0,3,0,4,0,0,5,0,0,6,0,7,3,2,4,3,2,9,9,0,9,0,8,10,0,0,10,0,10,0,9,10,10,9,10,9,12,11,12,3,3,0,11,0,26,11,10,11,0,10,0,10,0,9,10,10,9,10,9,12,11,12,3,4,0,11,0,26,11,10,11,0,10,0,10,0,9,10,10,9,10,9,16,2,1,12,12,11,2,9,9,0,9,0,8,17,0,0,17,0,17,0,9,17,17,9,17,16,19,18,19,3,5,0,18,0,39,0,0,40,18,18,17,0,17,0,17,0,9,17,17,9,17,16,19,18,19,3,6,0,18,0,39,0,0,40,18,18,0,17,0,17,0,9,17,17,9,17,16,21,19,19,18,18,18,18,7,22,22,8,22,9,23,2,1,2,11,11,0,11,0,23,24,0,0,24,0,24,0,24,24,24,11,24,23,26,25,26,13,13,0,13,0,23,27,0,0,27,0,27,0,24,27,27,13,27,26,29,28,29,10,0,27,0,27,0,24,27,27,13,27,26,29,28,29,11,29,4,12,29,0,28,0,26,28,27,28,0,27,0,27,0,24,27,27,13,27,26,29,28,29,13,29,4,14,29,0,28,0,26,28,27,28,0,27,0,27,0,24,27,27,13,27,26,31,29,29,28,0,25,0,26,25,24,25,0,24,0,24,0,24,24,24,11,24,23,26,25,26,14,14,0,14,0,23,32,0,0,32,0,32,0,24,32,32,14,32,31,34,33,34,15,0,32,0,32,0,24,32,32,14,32,31,34,33,34,16,34,4,17,34,0,33,0,26,33,32,33,0,32,0,32,0,24,32,32,14,32,31,34,33,34,18,34,4,19,34,0,33,0,26,33,32,33,0,32,0,32,0,24,32,32,14,32,31,36,34,34,33,0,25,0,26,25,24,25,0,24,0,24,0,24,24,24,11,24,23,38,2,1,26,26,25,0,0,2,20,2,1,0,0,2,21,2,1,2,2,1,0,0,2,22,40,40,0,40,0,52,40,23,2,3,2,1,2,3,2,24,25] [0] (fun n o f=>aB [(f 23).2.2 0])
end
section
theorem LF (b c:Bool) (w:Yc) (p:af):aC (B0 (W b c w)) 3 (.call (.ref 286) ⟨[.ref (p 1 0)],[]⟩) [(p 1 0,ab [] (p 1 1))] (fun a=>(.ret (.str "/" (a 0)),[ab [] (p 1 1)],[])):=
 aA (orcs:=[kd 0 []]) (aa (vd (by decide)) aq) 220 1 [0,0,2,1,0,0,0,2,1,2,3,0,0,0,0,5,4,5,4,0,0,0,5,0,0,0,0,6,5,0,0,0,0,6,0,0,0,6,5,0,0,6,0,0,0,0,0,0,1,0,2,7,7,7,7,0,0,2,6,5,4,0,5,0,0,0,0,8,7,0,0,0,0,8,0,0,0,0,3,0,4,0,0,5,0,0,6,0,7,5,4,5,5,4,5,4,4,0,4,0,8,9,0,9,0,9,0,9,9,9,4,9,8,11,0,5] [0] (fun n d f=>aB [d+1])
def jI (b:Yh):aH:=bA (fun p=>.call (.ref 286) ⟨[.ref (p 1 0)],[]⟩) b (fun p=>[(p 1 0,ab [] (p 1 1))]) fun p a=>(.ret (.str "/" (a 0)),[ab [] (p 1 1)],[])
theorem kF {b c:Bool} {w:Yc} {m:Nat} {a:Yh} (d:a.Nodup) (e:3≤m):(jI a).Sure (B0 (W b c w)) m:=
 (bS d fun p=>LF b c w p).le e
theorem iY {l m:Yh} (h:(l != m)=true):(l==m)=false:=by
 cases e:l==m with
 | false=>rfl
 | true=>rw [bne,e] at h;cases h
theorem Cm {b c:Bool} {w:Yc} {m j:Nat} {a:Str} (d:a∈aD) (e:6≤m):(di [a] [a] [a] j).Sure (B0 (W b c w)) m:=
 (bS (List.nodup_cons.mpr ⟨List.not_mem_nil,List.nodup_nil⟩) fun p=>by
  cases c
  ·exact Ln b w a d p
  ·exact Lx b w a d p:aH.Sure (B0 (W b c w)) 6 _).le e
theorem Cn {b c:Bool} {w:Yc} {m j:Nat} {a g:Str} (e:a∈aD) (d:g∈aD) (f:6≤m):(di [a,g] [a,g] [a,g] j).Sure (B0 (W b c w)) m:=
 (bS (List.nodup_cons.mpr ⟨List.not_mem_nil,List.nodup_nil⟩) fun p=>by
  cases c
  ·exact Lo b w a g e d p
  ·exact Ly b w a g e d p:aH.Sure (B0 (W b c w)) 6 _).le f
theorem Co {b c:Bool} {w:Yc} {m j:Nat} {a e:Str} (g:a∈aD) (d:e∈aD) (h:aP [a,e] [a]=false) (f:aP [a] [a,e]=true) (i:6≤m):(di [a] [a,e] [a] j).Sure (B0 (W b c w)) m:=
 (bS (List.nodup_cons.mpr ⟨List.not_mem_nil,List.nodup_nil⟩) fun p=>by
  cases c
  ·exact Lp b w a e g d h f p
  ·exact Lz b w a e g d h f p:aH.Sure (B0 (W b c w)) 6 _).le i
theorem Cp {b c:Bool} {w:Yc} {m j:Nat} {a d:Str} (h:a∈aD) (e:d∈aD) (i:aP [d] [a]=false) (f:aP [a] [d]=true) (g:(a.cps.toList != d.cps.toList)=true) (k:6≤m):(di [a] [d] [] j).Sure (B0 (W b c w)) m:=
 (bS (List.nodup_cons.mpr ⟨List.not_mem_nil,List.nodup_nil⟩) fun p=>by
  cases c
  ·exact Lq b w a d h e i f g p
  ·exact LA b w a d h e i f g p:aH.Sure (B0 (W b c w)) 6 _).le k
theorem Cq {b c:Bool} {w:Yc} {m j:Nat} {a d e:Str} (k:a∈aD) (g:d∈aD) (f:e∈aD) (n:aP [d,e] [a]=false) (h:aP [a] [d,e]=true) (i:(a.cps.toList != d.cps.toList)=true) (o:6≤m):(di [a] [d,e] [] j).Sure (B0 (W b c w)) m:=
 (bS (List.nodup_cons.mpr ⟨List.not_mem_nil,List.nodup_nil⟩) fun p=>by
  cases c
  ·exact Lr b w a d e k g f n h i p
  ·exact LB b w a d e k g f n h i p:aH.Sure (B0 (W b c w)) 6 _).le o
theorem Cr {b c:Bool} {w:Yc} {m j:Nat} {a g d:Str} (k:a∈aD) (e:g∈aD) (f:d∈aD) (n:aP [d] [a,g]=false) (h:aP [a,g] [d]=true) (i:(a.cps.toList != d.cps.toList)=true) (o:6≤m):(di [a,g] [d] [] j).Sure (B0 (W b c w)) m:=
 (bS (List.nodup_cons.mpr ⟨List.not_mem_nil,List.nodup_nil⟩) fun p=>by
  cases c
  ·exact Ls b w a g d k e f n h i p
  ·exact LC b w a g d k e f n h i p:aH.Sure (B0 (W b c w)) 6 _).le o
theorem Cs {b c:Bool} {w:Yc} {m j:Nat} {a g d e:Str} (o:a∈aD) (f:g∈aD) (i:d∈aD) (h:e∈aD) (q:aP [d,e] [a,g]=false) (k:aP [a,g] [d,e]=true) (n:(a.cps.toList != d.cps.toList)=true) (s:6≤m):(di [a,g] [d,e] [] j).Sure (B0 (W b c w)) m:=
 (bS (List.nodup_cons.mpr ⟨List.not_mem_nil,List.nodup_nil⟩) fun p=>by
  cases c
  ·exact Lu b w a g d e o f i h q k n p
  ·exact LD b w a g d e o f i h q k n p:aH.Sure (B0 (W b c w)) 6 _).le s
theorem Ct {b c:Bool} {w:Yc} {m j:Nat} {a g e:Str} (k:a∈aD) (d:g∈aD) (f:e∈aD) (n:aP [a,e] [a,g]=false) (h:aP [a,g] [a,e]=true) (i:(g.cps.toList != e.cps.toList)=true) (o:6≤m):(di [a,g] [a,e] [a] j).Sure (B0 (W b c w)) m:=
 (bS (List.nodup_cons.mpr ⟨List.not_mem_nil,List.nodup_nil⟩) fun p=>by
  cases c
  ·exact Lw b w a g e k d f n h i p
  ·exact LE b w a g e k d f n h i p:aH.Sure (B0 (W b c w)) 6 _).le o
end
section
def wH (w:Yc) (e c:nE) (d:Obj) (u v:Yd) (i:Nat) (b f:Yb) (p:af) (a:Ye):Yf:=[aW 0 (rawInt (a 0)) [.bool false,.bool false,.ref (p 2 0),.ref (p 3 0)],az [.ref (p 4 0),.ref (p 5 0)] 0,az [.ref (p 11 0),.ref (p 12 0)] 0,am (.ref (p 6 0)) (i+1),am (.ref (p 7 0)) (i+1),ab b (p 6 1),ab f (p 7 1),d,(aE e (p 11)).2,(aE c (p 12)).2]
theorem Cu (b c:Bool) (w:Yc) (j g:nE) (h:Obj) (u v:Yd) (i:Nat) (a d:Yb) (p:af) (k:a[i]? = some (.ref (p 11 0))) (m:d[i]? = some (.ref (p 12 0))):aI (B0 (W b c w)) 8 (pyNext (.ref (p 1 0))) [(p 1 0,ba (p 2 0) (p 3 0)),(p 2 0,az [.ref (p 4 0),.ref (p 5 0)] 0),(p 3 0,az [u,v] 0),(p 4 0,am (.ref (p 6 0)) i),(p 5 0,am (.ref (p 7 0)) i),(p 6 0,ab a (p 6 1)),(p 7 0,ab d (p 7 1)),(p 8 0,h),aE j (p 11),aE g (p 12)] fun e=>((some (.ref (e 0))),wH w j g h u v i a d p e,[(e 0,az [.ref (p 11 0),.ref (p 12 0)] 0)]++[]):=by
 rw [nl]
 exact bt (enc:=j8) mW (orcs:=[cA 3 5 a i (.ref (p 11 0)),cA 4 6 d i (.ref (p 12 0))]) (aa (cP (by decide) k) (aa (cP (by decide) m) aq)) 36 2 [1,0,1,0,94,1,1,2,1,1,1,0,4,2,3,3,2,3,5,3,3,3,2,3,3,1,0,1,0] [0,1,2,3,4,5,6,7,8,9,10] none (fun n o f=>aB [(f 1).1+0])
def Cv (w:Yc) (f e:nE) (g m k b c h n:Yd) (i:Nat) (d j:Yb) (p:af) (a:Ye):Yf:=[ba (p 2 0) (p 3 0),az [.ref (p 4 0),.ref (p 5 0)] 0,az [.ref (p 11 0),.ref (p 12 0)] 0,am (.ref (p 6 0)) i,am (.ref (p 7 0)) i,ab d (p 6 1),ab j (p 7 1),aG w (f7 p g m k b c h n++([("one",a 0,.ref (p 11 0)),("two",a 1,.ref (p 12 0))]:List (Str×Nat×Yd))) (p 8 1+1+1),(aE f (p 11)).2,(aE e (p 12)).2,az [.ref (p 11 0),.ref (p 12 0)] 0]
theorem LG (b c:Bool) (w:Yc) (e s:nE) (j q m g a k o:Yd) (i:Nat) (d t:Yb) (p:af):aI (B0 (W b c w)) 8 (assign (fT (cn w)) (dh w p) (.ref (p 14 0))) [(p 1 0,ba (p 2 0) (p 3 0)),(p 2 0,az [.ref (p 4 0),.ref (p 5 0)] 0),(p 3 0,az [.ref (p 11 0),.ref (p 12 0)] 0),(p 4 0,am (.ref (p 6 0)) i),(p 5 0,am (.ref (p 7 0)) i),(p 6 0,ab d (p 6 1)),(p 7 0,ab t (p 7 1)),(p 8 0,aG w (f7 p j q m g a k o) (p 8 1)),aE e (p 11),aE s (p 12),(p 14 0,az [.ref (p 11 0),.ref (p 12 0)] 0)] fun u=>((),Cv w e s j q m g a k o i d t p u,[]++[]):=by
 rw [km]
 exact bt (enc:=iM) j9 (orcs:=[]) aq 63 0 [11,11,11,0,11,0,8,12,12,0,12,0,9,12,12,11,12,11,12,0,12,0,9,12,12,11,12,11,12,0,12,0,9,12,12,11,12,11,14,8,7,8,7] [0,1,2,3,4,5,6,7,8,9,10] none (fun n h f=>aB [h+0,h+1])
def Cw (w:Yc) (o1 k o3:Yd) (d n:nE) (e j h a b f m:Yd) (i:Nat) (c g:Yb) (p:af) (o:Ye):Yf:=[ba (p 2 0) (p 3 0),az [.ref (p 4 0),.ref (p 5 0)] 0,az [.ref (p 11 0),.ref (p 12 0)] 0,am (.ref (p 6 0)) i,am (.ref (p 7 0)) i,ab c (p 6 1),ab g (p 7 1),aG w (f7 p e j h a b f m++([("one",p 8 16,.ref (p 11 0)),("two",p 8 18,.ref (p 12 0)),("same",p 8 20,o3)]:List (Str×Nat×Yd))) (p 8 1),(aE d (p 11)).2,(aE n (p 12)).2,az [.ref (p 11 0),.ref (p 12 0)] 0]
theorem LH (b c:Bool) (w:Yc) (o1 a o3:Yd) (g s:nE) (j q m h d k o:Yd) (i:Nat) (e t:Yb) (p:af):aI (B0 (W b c w)) 8 (assign (fT (cn w)) (dh w p) (.ref (p 14 0))) [(p 1 0,ba (p 2 0) (p 3 0)),(p 2 0,az [.ref (p 4 0),.ref (p 5 0)] 0),(p 3 0,az [.ref (p 11 0),.ref (p 12 0)] 0),(p 4 0,am (.ref (p 6 0)) i),(p 5 0,am (.ref (p 7 0)) i),(p 6 0,ab e (p 6 1)),(p 7 0,ab t (p 7 1)),(p 8 0,aG w (f7 p j q m h d k o++([("one",p 8 16,o1),("two",p 8 18,a),("same",p 8 20,o3)]:List (Str×Nat×Yd))) (p 8 1)),aE g (p 11),aE s (p 12),(p 14 0,az [.ref (p 11 0),.ref (p 12 0)] 0)] fun u=>((),Cw w o1 a o3 g s j q m h d k o i e t p u,[]++[]):=by
 rw [km]
 exact bt (enc:=iM) j9 (orcs:=[]) aq 63 0 [11,11,11,0,11,0,8,12,12,0,12,0,9,12,12,11,12,11,12,0,12,0,9,12,12,11,12,11,12,0,12,0,9,12,12,11,12,11,14,8,7,8,7] [0,1,2,3,4,5,6,7,8,9,10] none (fun n x f=>fun _=>0)
theorem LI (b c:Bool) (w:Yc) (a:Str) (j q m h e k o:Yd) (i:Nat) (g t:Yb) (p:af) (d:a∈aD):aI (B0 (W b c w)) 8 (execs (fB (cn w)) (dh w p)) [(p 1 0,ba (p 2 0) (p 3 0)),(p 2 0,az [.ref (p 4 0),.ref (p 5 0)] 0),(p 3 0,az [.ref (p 11 0),.ref (p 12 0)] 0),(p 4 0,am (.ref (p 6 0)) i),(p 5 0,am (.ref (p 7 0)) i),(p 6 0,ab g (p 6 1)),(p 7 0,ab t (p 7 1)),(p 8 0,aG w (f7 p j q m h e k o++([("one",p 8 16,.ref (p 11 0)),("two",p 8 18,.ref (p 12 0))]:List (Str×Nat×Yd))) (p 8 1)),aE [a] (p 11),aE [a] (p 12)] fun s=>(.next,[ba (p 2 0) (p 3 0),az [.ref (p 4 0),.ref (p 5 0)] 0,az [.ref (p 11 0),.ref (p 12 0)] 0,am (.ref (p 6 0)) i,am (.ref (p 7 0)) i,ab g (p 6 1),ab t (p 7 1),aG w (f7 p j q m h e k o++([("one",p 8 16,.ref (p 11 0)),("two",p 8 18,.ref (p 12 0)),("same",s 0,.int 1 (s 1))]:List (Str×Nat×Yd))) (p 8 1+1),(aE [a] (p 11)).2,(aE [a] (p 12)).2],[]++[]):=by
 rw [cE]
 exact bt (enc:=cc) cD (orcs:=[o2 "str.__eq__" a a fun _=>.bool true,dy [8] a,dy [9] a,di [a] [a] [a] 10,c3 8 11 (fun p=>bc p 1 [a] 2) none (some 1) (fun p=>bc p 1 [a] 2),dy [12] a,o2 "str.__ne__" (aU [a]) (aU [a]) fun _=>.bool false]) (aa (cv (beq_self_eq_true _)) (aa (dI [8] (by decide) a d (by decide)) (aa (dI [9] (by decide) a d (by decide)) (aa (Cm d (by decide)) (aa (dA (by decide) (fun _=>by show 1≤1000;lia) (fun _=>by kernel_rfl)) (aa (dI [12] (by decide) a d (by decide)) (aa (aQ (bne_self_eq_false _)) aq))))))) 184 7 [8,7,0,8,0,0,8,0,0,11,9,0,9,0,60,9,0,0,63,8,0,0,8,0,0,11,10,0,10,0,60,10,0,0,63,8,8,9,9,9,0,9,0,54,9,8,8,10,10,10,0,10,0,54,10,2,8,0,0,16,8,7,0,8,0,0,8,0,0,11,9,0,9,0,60,9,0,0,63,0,0,8,0,3,0,8,0,4,0,5,0,8,8,9,9,9,6,0,7,8] [0,1,2,3,4,5,6,7,8,9] none (fun n u f=>aB [u+1,(f 0).2.1+1])
theorem LJ (b c:Bool) (w:Yc) (a g:Str) (m t q k h o s:Yd) (i:Nat) (j x:Yb) (p:af) (e:a∈aD) (d:g∈aD):aI (B0 (W b c w)) 8 (execs (fB (cn w)) (dh w p)) [(p 1 0,ba (p 2 0) (p 3 0)),(p 2 0,az [.ref (p 4 0),.ref (p 5 0)] 0),(p 3 0,az [.ref (p 11 0),.ref (p 12 0)] 0),(p 4 0,am (.ref (p 6 0)) i),(p 5 0,am (.ref (p 7 0)) i),(p 6 0,ab j (p 6 1)),(p 7 0,ab x (p 7 1)),(p 8 0,aG w (f7 p m t q k h o s++([("one",p 8 16,.ref (p 11 0)),("two",p 8 18,.ref (p 12 0))]:List (Str×Nat×Yd))) (p 8 1)),aE [a,g] (p 11),aE [a,g] (p 12)] fun u=>(.next,[ba (p 2 0) (p 3 0),az [.ref (p 4 0),.ref (p 5 0)] 0,az [.ref (p 11 0),.ref (p 12 0)] 0,am (.ref (p 6 0)) i,am (.ref (p 7 0)) i,ab j (p 6 1),ab x (p 7 1),aG w (f7 p m t q k h o s++([("one",p 8 16,.ref (p 11 0)),("two",p 8 18,.ref (p 12 0)),("same",u 0,.int 2 (u 1))]:List (Str×Nat×Yd))) (p 8 1+1),(aE [a,g] (p 11)).2,(aE [a,g] (p 12)).2],[]++[]):=by
 rw [cE]
 exact bt (enc:=cc) cD (orcs:=[o2 "str.__eq__" a a fun _=>.bool true,o2 "str.__eq__" g g fun _=>.bool true,dz [8] a g,dz [9] a g,di [a,g] [a,g] [a,g] 10,c3 8 11 (fun p=>bc p 1 [a,g] 2) none (some 2) (fun p=>bc p 1 [a,g] 2),dz [12] a g,o2 "str.__ne__" (aU [a,g]) (aU [a,g]) fun _=>.bool false]) (aa (cv (beq_self_eq_true _)) (aa (cv (beq_self_eq_true _)) (aa (dJ [8] (by decide) a g e d (by decide)) (aa (dJ [9] (by decide) a g e d (by decide)) (aa (Cn e d (by decide)) (aa (dA (by decide) (fun _=>by show 2≤1000;lia) (fun _=>by kernel_rfl)) (aa (dJ [12] (by decide) a g e d (by decide)) (aa (aQ (bne_self_eq_false _)) aq)))))))) 282 8 [8,7,0,8,0,0,8,0,0,11,9,0,9,0,60,9,0,0,63,8,0,0,8,0,0,11,10,0,10,0,60,10,0,0,63,8,8,9,9,9,0,9,0,54,9,8,8,10,10,10,0,10,0,54,10,2,8,0,0,16,8,7,0,8,0,0,8,0,0,11,9,0,9,0,60,9,0,0,63,8,0,0,8,0,0,11,10,0,10,0,60,10,0,0,63,8,8,9,9,9,0,9,0,54,9,8,8,10,10,10,0,10,0,54,10,3,8,0,0,16,8,7,0,8,0,0,8,0,0,11,9,0,9,0,60,9,0,0,63,0,0,8,0,4,0,8,0,5,0,6,0,8,8,9,9,9,7,0,8,9] [0,1,2,3,4,5,6,7,8,9] none (fun n y f=>aB [y+1,(f 1).2.1+1])
theorem LK (b c:Bool) (w:Yc) (a e:Str) (k t o j g m s:Yd) (i:Nat) (h x:Yb) (p:af) (d:a∈aD) (q:e∈aD) (A:aP [a,e] [a]=false) (z:aP [a] [a,e]=true):aI (B0 (W b c w)) 8 (execs (fB (cn w)) (dh w p)) [(p 1 0,ba (p 2 0) (p 3 0)),(p 2 0,az [.ref (p 4 0),.ref (p 5 0)] 0),(p 3 0,az [.ref (p 11 0),.ref (p 12 0)] 0),(p 4 0,am (.ref (p 6 0)) i),(p 5 0,am (.ref (p 7 0)) i),(p 6 0,ab h (p 6 1)),(p 7 0,ab x (p 7 1)),(p 8 0,aG w (f7 p k t o j g m s++([("one",p 8 16,.ref (p 11 0)),("two",p 8 18,.ref (p 12 0))]:List (Str×Nat×Yd))) (p 8 1)),aE [a] (p 11),aE [a,e] (p 12)] fun u=>(.next,[ba (p 2 0) (p 3 0),az [.ref (p 4 0),.ref (p 5 0)] 0,az [.ref (p 11 0),.ref (p 12 0)] 0,am (.ref (p 6 0)) i,am (.ref (p 7 0)) i,ab h (p 6 1),ab x (p 7 1),aG w (f7 p k t o j g m s++([("one",p 8 16,.ref (p 11 0)),("two",p 8 18,.ref (p 12 0)),("same",u 0,.int 1 (u 1))]:List (Str×Nat×Yd))) (p 8 1+1),(aE [a] (p 11)).2,(aE [a,e] (p 12)).2],[]++[]):=by
 rw [cE]
 exact bt (enc:=cc) cD (orcs:=[o2 "str.__eq__" a a fun _=>.bool true,dy [8] a,dz [9] a e,di [a] [a,e] [a] 10,c3 8 11 (fun p=>bc p 1 [a] 2) none (some 1) (fun p=>bc p 1 [a] 2),dy [12] a,o2 "str.__ne__" (aU [a]) (aU [a]) fun _=>.bool false]) (aa (cv (beq_self_eq_true _)) (aa (dI [8] (by decide) a d (by decide)) (aa (dJ [9] (by decide) a e d q (by decide)) (aa (Co d q A z (by decide)) (aa (dA (by decide) (fun _=>by show 1≤1000;lia) (fun _=>by kernel_rfl)) (aa (dI [12] (by decide) a d (by decide)) (aa (aQ (bne_self_eq_false _)) aq))))))) 184 7 [8,7,0,8,0,0,8,0,0,11,9,0,9,0,60,9,0,0,63,8,0,0,8,0,0,11,10,0,10,0,60,10,0,0,63,8,8,9,9,9,0,9,0,54,9,8,8,10,10,10,0,10,0,54,10,2,8,0,0,16,8,7,0,8,0,0,8,0,0,11,9,0,9,0,60,9,0,0,63,0,0,8,0,3,0,8,0,4,0,5,0,8,8,9,9,9,6,0,7,8] [0,1,2,3,4,5,6,7,8,9] none (fun n y f=>aB [y+1,(f 0).2.1+1])
theorem LM (b c:Bool) (w:Yc) (a d:Str) (m t q j e o s:Yd) (i:Nat) (g y:Yb) (p:af) (z:a∈aD) (h:d∈aD) (x:(a.cps.toList != d.cps.toList)=true) (B:aP [d] [a]=false) (A:aP [a] [d]=true):aI (B0 (W b c w)) 8 (execs (fB (cn w)) (dh w p)) [(p 1 0,ba (p 2 0) (p 3 0)),(p 2 0,az [.ref (p 4 0),.ref (p 5 0)] 0),(p 3 0,az [.ref (p 11 0),.ref (p 12 0)] 0),(p 4 0,am (.ref (p 6 0)) i),(p 5 0,am (.ref (p 7 0)) i),(p 6 0,ab g (p 6 1)),(p 7 0,ab y (p 7 1)),(p 8 0,aG w (f7 p m t q j e o s++([("one",p 8 16,.ref (p 11 0)),("two",p 8 18,.ref (p 12 0))]:List (Str×Nat×Yd))) (p 8 1)),aE [a] (p 11),aE [d] (p 12)] fun u=>(.next,[ba (p 2 0) (p 3 0),az [.ref (p 4 0),.ref (p 5 0)] 0,az [.ref (p 11 0),.ref (p 12 0)] 0,am (.ref (p 6 0)) i,am (.ref (p 7 0)) i,ab g (p 6 1),ab y (p 7 1),aG w (f7 p m t q j e o s++([("one",p 8 16,.ref (p 11 0)),("two",p 8 18,.ref (p 12 0)),("same",u 0,.int 0 (u 1))]:List (Str×Nat×Yd))) (p 8 1+1),(aE [a] (p 11)).2,(aE [d] (p 12)).2],[]++[]):=by
 rw [cE]
 exact bt (enc:=cc) cD (orcs:=[o2 "str.__eq__" a d fun _=>.bool false,dy [8] a,dy [9] d,di [a] [d] [] 10,c3 8 11 (fun p=>bc p 1 [a] 2) none (some 0) (fun p=>bc p 1 [] 2),jI [12],o2 "str.__ne__" (aU []) (aU []) fun _=>.bool false]) (aa (cv (iY x)) (aa (dI [8] (by decide) a z (by decide)) (aa (dI [9] (by decide) d h (by decide)) (aa (Cp z h B A x (by decide)) (aa (dA (by decide) (fun _=>by show 1≤1000;lia) (fun _=>by kernel_rfl)) (aa (kF (by decide) (by decide)) (aa (aQ (bne_self_eq_false _)) aq))))))) 141 7 [8,7,0,8,0,0,8,0,0,11,9,0,9,0,60,9,0,0,63,8,0,0,8,0,0,11,10,0,10,0,60,10,0,0,63,8,8,9,9,9,0,9,0,54,9,8,8,10,10,10,0,10,0,54,10,2,0,0,8,0,3,0,8,0,4,0,5,0,8,8,9,9,9,6,0,7,8] [0,1,2,3,4,5,6,7,8,9] none (fun n k f=>aB [k+1,k+0])
theorem LN (b c:Bool) (w:Yc) (a d e:Str) (o x s k g q u:Yd) (i:Nat) (h A:Yb) (p:af) (B:a∈aD) (j:d∈aD) (t:e∈aD) (z:(a.cps.toList != d.cps.toList)=true) (D:aP [d,e] [a]=false) (C:aP [a] [d,e]=true):aI (B0 (W b c w)) 8 (execs (fB (cn w)) (dh w p)) [(p 1 0,ba (p 2 0) (p 3 0)),(p 2 0,az [.ref (p 4 0),.ref (p 5 0)] 0),(p 3 0,az [.ref (p 11 0),.ref (p 12 0)] 0),(p 4 0,am (.ref (p 6 0)) i),(p 5 0,am (.ref (p 7 0)) i),(p 6 0,ab h (p 6 1)),(p 7 0,ab A (p 7 1)),(p 8 0,aG w (f7 p o x s k g q u++([("one",p 8 16,.ref (p 11 0)),("two",p 8 18,.ref (p 12 0))]:List (Str×Nat×Yd))) (p 8 1)),aE [a] (p 11),aE [d,e] (p 12)] fun y=>(.next,[ba (p 2 0) (p 3 0),az [.ref (p 4 0),.ref (p 5 0)] 0,az [.ref (p 11 0),.ref (p 12 0)] 0,am (.ref (p 6 0)) i,am (.ref (p 7 0)) i,ab h (p 6 1),ab A (p 7 1),aG w (f7 p o x s k g q u++([("one",p 8 16,.ref (p 11 0)),("two",p 8 18,.ref (p 12 0)),("same",y 0,.int 0 (y 1))]:List (Str×Nat×Yd))) (p 8 1+1),(aE [a] (p 11)).2,(aE [d,e] (p 12)).2],[]++[]):=by
 rw [cE]
 exact bt (enc:=cc) cD (orcs:=[o2 "str.__eq__" a d fun _=>.bool false,dy [8] a,dz [9] d e,di [a] [d,e] [] 10,c3 8 11 (fun p=>bc p 1 [a] 2) none (some 0) (fun p=>bc p 1 [] 2),jI [12],o2 "str.__ne__" (aU []) (aU []) fun _=>.bool false]) (aa (cv (iY z)) (aa (dI [8] (by decide) a B (by decide)) (aa (dJ [9] (by decide) d e j t (by decide)) (aa (Cq B j t D C z (by decide)) (aa (dA (by decide) (fun _=>by show 1≤1000;lia) (fun _=>by kernel_rfl)) (aa (kF (by decide) (by decide)) (aa (aQ (bne_self_eq_false _)) aq))))))) 141 7 [8,7,0,8,0,0,8,0,0,11,9,0,9,0,60,9,0,0,63,8,0,0,8,0,0,11,10,0,10,0,60,10,0,0,63,8,8,9,9,9,0,9,0,54,9,8,8,10,10,10,0,10,0,54,10,2,0,0,8,0,3,0,8,0,4,0,5,0,8,8,9,9,9,6,0,7,8] [0,1,2,3,4,5,6,7,8,9] none (fun n m f=>aB [m+1,m+0])
theorem LO (b c:Bool) (w:Yc) (a g d:Str) (q x t m h s u:Yd) (i:Nat) (j A:Yb) (p:af) (B:a∈aD) (e:g∈aD) (k:d∈aD) (z:(a.cps.toList != d.cps.toList)=true) (D:aP [d] [a,g]=false) (C:aP [a,g] [d]=true):aI (B0 (W b c w)) 8 (execs (fB (cn w)) (dh w p)) [(p 1 0,ba (p 2 0) (p 3 0)),(p 2 0,az [.ref (p 4 0),.ref (p 5 0)] 0),(p 3 0,az [.ref (p 11 0),.ref (p 12 0)] 0),(p 4 0,am (.ref (p 6 0)) i),(p 5 0,am (.ref (p 7 0)) i),(p 6 0,ab j (p 6 1)),(p 7 0,ab A (p 7 1)),(p 8 0,aG w (f7 p q x t m h s u++([("one",p 8 16,.ref (p 11 0)),("two",p 8 18,.ref (p 12 0))]:List (Str×Nat×Yd))) (p 8 1)),aE [a,g] (p 11),aE [d] (p 12)] fun y=>(.next,[ba (p 2 0) (p 3 0),az [.ref (p 4 0),.ref (p 5 0)] 0,az [.ref (p 11 0),.ref (p 12 0)] 0,am (.ref (p 6 0)) i,am (.ref (p 7 0)) i,ab j (p 6 1),ab A (p 7 1),aG w (f7 p q x t m h s u++([("one",p 8 16,.ref (p 11 0)),("two",p 8 18,.ref (p 12 0)),("same",y 0,.int 0 (y 1))]:List (Str×Nat×Yd))) (p 8 1+1),(aE [a,g] (p 11)).2,(aE [d] (p 12)).2],[]++[]):=by
 rw [cE]
 exact bt (enc:=cc) cD (orcs:=[o2 "str.__eq__" a d fun _=>.bool false,dz [8] a g,dy [9] d,di [a,g] [d] [] 10,c3 8 11 (fun p=>bc p 1 [a,g] 2) none (some 0) (fun p=>bc p 1 [] 2),jI [12],o2 "str.__ne__" (aU []) (aU []) fun _=>.bool false]) (aa (cv (iY z)) (aa (dJ [8] (by decide) a g B e (by decide)) (aa (dI [9] (by decide) d k (by decide)) (aa (Cr B e k D C z (by decide)) (aa (dA (by decide) (fun _=>by show 2≤1000;lia) (fun _=>by kernel_rfl)) (aa (kF (by decide) (by decide)) (aa (aQ (bne_self_eq_false _)) aq))))))) 141 7 [8,7,0,8,0,0,8,0,0,11,9,0,9,0,60,9,0,0,63,8,0,0,8,0,0,11,10,0,10,0,60,10,0,0,63,8,8,9,9,9,0,9,0,54,9,8,8,10,10,10,0,10,0,54,10,2,0,0,8,0,3,0,8,0,4,0,5,0,8,8,9,9,9,6,0,7,8] [0,1,2,3,4,5,6,7,8,9] none (fun n o f=>aB [o+1,o+0])
theorem LP (b c:Bool) (w:Yc) (a g d e:Str) (s z u o j t y:Yd) (i:Nat) (k C:Yb) (p:af) (D:a∈aD) (h:g∈aD) (m:d∈aD) (x:e∈aD) (B:(a.cps.toList != d.cps.toList)=true) (F:aP [d,e] [a,g]=false) (E:aP [a,g] [d,e]=true):aI (B0 (W b c w)) 8 (execs (fB (cn w)) (dh w p)) [(p 1 0,ba (p 2 0) (p 3 0)),(p 2 0,az [.ref (p 4 0),.ref (p 5 0)] 0),(p 3 0,az [.ref (p 11 0),.ref (p 12 0)] 0),(p 4 0,am (.ref (p 6 0)) i),(p 5 0,am (.ref (p 7 0)) i),(p 6 0,ab k (p 6 1)),(p 7 0,ab C (p 7 1)),(p 8 0,aG w (f7 p s z u o j t y++([("one",p 8 16,.ref (p 11 0)),("two",p 8 18,.ref (p 12 0))]:List (Str×Nat×Yd))) (p 8 1)),aE [a,g] (p 11),aE [d,e] (p 12)] fun A=>(.next,[ba (p 2 0) (p 3 0),az [.ref (p 4 0),.ref (p 5 0)] 0,az [.ref (p 11 0),.ref (p 12 0)] 0,am (.ref (p 6 0)) i,am (.ref (p 7 0)) i,ab k (p 6 1),ab C (p 7 1),aG w (f7 p s z u o j t y++([("one",p 8 16,.ref (p 11 0)),("two",p 8 18,.ref (p 12 0)),("same",A 0,.int 0 (A 1))]:List (Str×Nat×Yd))) (p 8 1+1),(aE [a,g] (p 11)).2,(aE [d,e] (p 12)).2],[]++[]):=by
 rw [cE]
 exact bt (enc:=cc) cD (orcs:=[o2 "str.__eq__" a d fun _=>.bool false,dz [8] a g,dz [9] d e,di [a,g] [d,e] [] 10,c3 8 11 (fun p=>bc p 1 [a,g] 2) none (some 0) (fun p=>bc p 1 [] 2),jI [12],o2 "str.__ne__" (aU []) (aU []) fun _=>.bool false]) (aa (cv (iY B)) (aa (dJ [8] (by decide) a g D h (by decide)) (aa (dJ [9] (by decide) d e m x (by decide)) (aa (Cs D h m x F E B (by decide)) (aa (dA (by decide) (fun _=>by show 2≤1000;lia) (fun _=>by kernel_rfl)) (aa (kF (by decide) (by decide)) (aa (aQ (bne_self_eq_false _)) aq))))))) 141 7 [8,7,0,8,0,0,8,0,0,11,9,0,9,0,60,9,0,0,63,8,0,0,8,0,0,11,10,0,10,0,60,10,0,0,63,8,8,9,9,9,0,9,0,54,9,8,8,10,10,10,0,10,0,54,10,2,0,0,8,0,3,0,8,0,4,0,5,0,8,8,9,9,9,6,0,7,8] [0,1,2,3,4,5,6,7,8,9] none (fun n q f=>aB [q+1,q+0])
theorem LQ (b c:Bool) (w:Yc) (a g e:Str) (o x s m j q u:Yd) (i:Nat) (k A:Yb) (p:af) (d:a∈aD) (h:g∈aD) (t:e∈aD) (z:(g.cps.toList != e.cps.toList)=true) (D:aP [a,e] [a,g]=false) (C:aP [a,g] [a,e]=true):aI (B0 (W b c w)) 8 (execs (fB (cn w)) (dh w p)) [(p 1 0,ba (p 2 0) (p 3 0)),(p 2 0,az [.ref (p 4 0),.ref (p 5 0)] 0),(p 3 0,az [.ref (p 11 0),.ref (p 12 0)] 0),(p 4 0,am (.ref (p 6 0)) i),(p 5 0,am (.ref (p 7 0)) i),(p 6 0,ab k (p 6 1)),(p 7 0,ab A (p 7 1)),(p 8 0,aG w (f7 p o x s m j q u++([("one",p 8 16,.ref (p 11 0)),("two",p 8 18,.ref (p 12 0))]:List (Str×Nat×Yd))) (p 8 1)),aE [a,g] (p 11),aE [a,e] (p 12)] fun y=>(.next,[ba (p 2 0) (p 3 0),az [.ref (p 4 0),.ref (p 5 0)] 0,az [.ref (p 11 0),.ref (p 12 0)] 0,am (.ref (p 6 0)) i,am (.ref (p 7 0)) i,ab k (p 6 1),ab A (p 7 1),aG w (f7 p o x s m j q u++([("one",p 8 16,.ref (p 11 0)),("two",p 8 18,.ref (p 12 0)),("same",y 0,.int 1 (y 1))]:List (Str×Nat×Yd))) (p 8 1+1),(aE [a,g] (p 11)).2,(aE [a,e] (p 12)).2],[]++[]):=by
 rw [cE]
 exact bt (enc:=cc) cD (orcs:=[o2 "str.__eq__" a a fun _=>.bool true,o2 "str.__eq__" g e fun _=>.bool false,dz [8] a g,dz [9] a e,di [a,g] [a,e] [a] 10,c3 8 11 (fun p=>bc p 1 [a,g] 2) none (some 1) (fun p=>bc p 1 [a] 2),dy [12] a,o2 "str.__ne__" (aU [a]) (aU [a]) fun _=>.bool false]) (aa (cv (beq_self_eq_true _)) (aa (cv (iY z)) (aa (dJ [8] (by decide) a g d h (by decide)) (aa (dJ [9] (by decide) a e d t (by decide)) (aa (Ct d h t D C z (by decide)) (aa (dA (by decide) (fun _=>by show 2≤1000;lia) (fun _=>by kernel_rfl)) (aa (dI [12] (by decide) a d (by decide)) (aa (aQ (bne_self_eq_false _)) aq)))))))) 239 8 [8,7,0,8,0,0,8,0,0,11,9,0,9,0,60,9,0,0,63,8,0,0,8,0,0,11,10,0,10,0,60,10,0,0,63,8,8,9,9,9,0,9,0,54,9,8,8,10,10,10,0,10,0,54,10,2,8,0,0,16,8,7,0,8,0,0,8,0,0,11,9,0,9,0,60,9,0,0,63,8,0,0,8,0,0,11,10,0,10,0,60,10,0,0,63,8,8,9,9,9,0,9,0,54,9,8,8,10,10,10,0,10,0,54,10,3,0,0,8,0,4,0,8,0,5,0,6,0,8,8,9,9,9,7,0,8,9] [0,1,2,3,4,5,6,7,8,9] none (fun n B f=>aB [B+1,(f 0).2.1+1])
theorem LR (b c:Bool) (w:Yc) (a:Str) (t:Yd) (j q m h e k o:Yd) (i:Nat) (g s:Yb) (p:af) (d:a∈aD):aI (B0 (W b c w)) 8 (execs (fB (cn w)) (dh w p)) [(p 1 0,ba (p 2 0) (p 3 0)),(p 2 0,az [.ref (p 4 0),.ref (p 5 0)] 0),(p 3 0,az [.ref (p 11 0),.ref (p 12 0)] 0),(p 4 0,am (.ref (p 6 0)) i),(p 5 0,am (.ref (p 7 0)) i),(p 6 0,ab g (p 6 1)),(p 7 0,ab s (p 7 1)),(p 8 0,aG w (f7 p j q m h e k o++([("one",p 8 16,.ref (p 11 0)),("two",p 8 18,.ref (p 12 0)),("same",p 8 20,t)]:List (Str×Nat×Yd))) (p 8 1)),aE [a] (p 11),aE [a] (p 12)] fun u=>(.next,[ba (p 2 0) (p 3 0),az [.ref (p 4 0),.ref (p 5 0)] 0,az [.ref (p 11 0),.ref (p 12 0)] 0,am (.ref (p 6 0)) i,am (.ref (p 7 0)) i,ab g (p 6 1),ab s (p 7 1),aG w (f7 p j q m h e k o++([("one",p 8 16,.ref (p 11 0)),("two",p 8 18,.ref (p 12 0)),("same",p 8 20,.int 1 (u 1))]:List (Str×Nat×Yd))) (p 8 1),(aE [a] (p 11)).2,(aE [a] (p 12)).2],[]++[]):=by
 rw [cE]
 exact bt (enc:=cc) cD (orcs:=[o2 "str.__eq__" a a fun _=>.bool true,dy [8] a,dy [9] a,di [a] [a] [a] 10,c3 8 11 (fun p=>bc p 1 [a] 2) none (some 1) (fun p=>bc p 1 [a] 2),dy [12] a,o2 "str.__ne__" (aU [a]) (aU [a]) fun _=>.bool false]) (aa (cv (beq_self_eq_true _)) (aa (dI [8] (by decide) a d (by decide)) (aa (dI [9] (by decide) a d (by decide)) (aa (Cm d (by decide)) (aa (dA (by decide) (fun _=>by show 1≤1000;lia) (fun _=>by kernel_rfl)) (aa (dI [12] (by decide) a d (by decide)) (aa (aQ (bne_self_eq_false _)) aq))))))) 184 7 [8,7,0,8,0,0,8,0,0,11,9,0,9,0,60,9,0,0,63,8,0,0,8,0,0,11,10,0,10,0,60,10,0,0,63,8,8,9,9,9,0,9,0,54,9,8,8,10,10,10,0,10,0,54,10,2,8,0,0,16,8,7,0,8,0,0,8,0,0,11,9,0,9,0,60,9,0,0,63,0,0,8,0,3,0,8,0,4,0,5,0,8,8,9,9,9,6,0,7,8] [0,1,2,3,4,5,6,7,8,9] none (fun n x f=>aB [p 8 20,(f 0).2.1+1])
theorem LS (b c:Bool) (w:Yc) (a g:Str) (x:Yd) (m t q k h o s:Yd) (i:Nat) (j u:Yb) (p:af) (e:a∈aD) (d:g∈aD):aI (B0 (W b c w)) 8 (execs (fB (cn w)) (dh w p)) [(p 1 0,ba (p 2 0) (p 3 0)),(p 2 0,az [.ref (p 4 0),.ref (p 5 0)] 0),(p 3 0,az [.ref (p 11 0),.ref (p 12 0)] 0),(p 4 0,am (.ref (p 6 0)) i),(p 5 0,am (.ref (p 7 0)) i),(p 6 0,ab j (p 6 1)),(p 7 0,ab u (p 7 1)),(p 8 0,aG w (f7 p m t q k h o s++([("one",p 8 16,.ref (p 11 0)),("two",p 8 18,.ref (p 12 0)),("same",p 8 20,x)]:List (Str×Nat×Yd))) (p 8 1)),aE [a,g] (p 11),aE [a,g] (p 12)] fun y=>(.next,[ba (p 2 0) (p 3 0),az [.ref (p 4 0),.ref (p 5 0)] 0,az [.ref (p 11 0),.ref (p 12 0)] 0,am (.ref (p 6 0)) i,am (.ref (p 7 0)) i,ab j (p 6 1),ab u (p 7 1),aG w (f7 p m t q k h o s++([("one",p 8 16,.ref (p 11 0)),("two",p 8 18,.ref (p 12 0)),("same",p 8 20,.int 2 (y 1))]:List (Str×Nat×Yd))) (p 8 1),(aE [a,g] (p 11)).2,(aE [a,g] (p 12)).2],[]++[]):=by
 rw [cE]
 exact bt (enc:=cc) cD (orcs:=[o2 "str.__eq__" a a fun _=>.bool true,o2 "str.__eq__" g g fun _=>.bool true,dz [8] a g,dz [9] a g,di [a,g] [a,g] [a,g] 10,c3 8 11 (fun p=>bc p 1 [a,g] 2) none (some 2) (fun p=>bc p 1 [a,g] 2),dz [12] a g,o2 "str.__ne__" (aU [a,g]) (aU [a,g]) fun _=>.bool false]) (aa (cv (beq_self_eq_true _)) (aa (cv (beq_self_eq_true _)) (aa (dJ [8] (by decide) a g e d (by decide)) (aa (dJ [9] (by decide) a g e d (by decide)) (aa (Cn e d (by decide)) (aa (dA (by decide) (fun _=>by show 2≤1000;lia) (fun _=>by kernel_rfl)) (aa (dJ [12] (by decide) a g e d (by decide)) (aa (aQ (bne_self_eq_false _)) aq)))))))) 282 8 [8,7,0,8,0,0,8,0,0,11,9,0,9,0,60,9,0,0,63,8,0,0,8,0,0,11,10,0,10,0,60,10,0,0,63,8,8,9,9,9,0,9,0,54,9,8,8,10,10,10,0,10,0,54,10,2,8,0,0,16,8,7,0,8,0,0,8,0,0,11,9,0,9,0,60,9,0,0,63,8,0,0,8,0,0,11,10,0,10,0,60,10,0,0,63,8,8,9,9,9,0,9,0,54,9,8,8,10,10,10,0,10,0,54,10,3,8,0,0,16,8,7,0,8,0,0,8,0,0,11,9,0,9,0,60,9,0,0,63,0,0,8,0,4,0,8,0,5,0,6,0,8,8,9,9,9,7,0,8,9] [0,1,2,3,4,5,6,7,8,9] none (fun n z f=>aB [p 8 20,(f 1).2.1+1])
theorem LT (b c:Bool) (w:Yc) (a e:Str) (x:Yd) (k t o j g m s:Yd) (i:Nat) (h u:Yb) (p:af) (d:a∈aD) (q:e∈aD) (A:aP [a,e] [a]=false) (y:aP [a] [a,e]=true):aI (B0 (W b c w)) 8 (execs (fB (cn w)) (dh w p)) [(p 1 0,ba (p 2 0) (p 3 0)),(p 2 0,az [.ref (p 4 0),.ref (p 5 0)] 0),(p 3 0,az [.ref (p 11 0),.ref (p 12 0)] 0),(p 4 0,am (.ref (p 6 0)) i),(p 5 0,am (.ref (p 7 0)) i),(p 6 0,ab h (p 6 1)),(p 7 0,ab u (p 7 1)),(p 8 0,aG w (f7 p k t o j g m s++([("one",p 8 16,.ref (p 11 0)),("two",p 8 18,.ref (p 12 0)),("same",p 8 20,x)]:List (Str×Nat×Yd))) (p 8 1)),aE [a] (p 11),aE [a,e] (p 12)] fun z=>(.next,[ba (p 2 0) (p 3 0),az [.ref (p 4 0),.ref (p 5 0)] 0,az [.ref (p 11 0),.ref (p 12 0)] 0,am (.ref (p 6 0)) i,am (.ref (p 7 0)) i,ab h (p 6 1),ab u (p 7 1),aG w (f7 p k t o j g m s++([("one",p 8 16,.ref (p 11 0)),("two",p 8 18,.ref (p 12 0)),("same",p 8 20,.int 1 (z 1))]:List (Str×Nat×Yd))) (p 8 1),(aE [a] (p 11)).2,(aE [a,e] (p 12)).2],[]++[]):=by
 rw [cE]
 exact bt (enc:=cc) cD (orcs:=[o2 "str.__eq__" a a fun _=>.bool true,dy [8] a,dz [9] a e,di [a] [a,e] [a] 10,c3 8 11 (fun p=>bc p 1 [a] 2) none (some 1) (fun p=>bc p 1 [a] 2),dy [12] a,o2 "str.__ne__" (aU [a]) (aU [a]) fun _=>.bool false]) (aa (cv (beq_self_eq_true _)) (aa (dI [8] (by decide) a d (by decide)) (aa (dJ [9] (by decide) a e d q (by decide)) (aa (Co d q A y (by decide)) (aa (dA (by decide) (fun _=>by show 1≤1000;lia) (fun _=>by kernel_rfl)) (aa (dI [12] (by decide) a d (by decide)) (aa (aQ (bne_self_eq_false _)) aq))))))) 184 7 [8,7,0,8,0,0,8,0,0,11,9,0,9,0,60,9,0,0,63,8,0,0,8,0,0,11,10,0,10,0,60,10,0,0,63,8,8,9,9,9,0,9,0,54,9,8,8,10,10,10,0,10,0,54,10,2,8,0,0,16,8,7,0,8,0,0,8,0,0,11,9,0,9,0,60,9,0,0,63,0,0,8,0,3,0,8,0,4,0,5,0,8,8,9,9,9,6,0,7,8] [0,1,2,3,4,5,6,7,8,9] none (fun n B f=>aB [p 8 20,(f 0).2.1+1])
theorem LU (b c:Bool) (w:Yc) (a d:Str) (z:Yd) (k s o j e m q:Yd) (i:Nat) (g u:Yb) (p:af) (x:a∈aD) (h:d∈aD) (t:(a.cps.toList != d.cps.toList)=true) (C:aP [d] [a]=false) (A:aP [a] [d]=true):aI (B0 (W b c w)) 8 (execs (fB (cn w)) (dh w p)) [(p 1 0,ba (p 2 0) (p 3 0)),(p 2 0,az [.ref (p 4 0),.ref (p 5 0)] 0),(p 3 0,az [.ref (p 11 0),.ref (p 12 0)] 0),(p 4 0,am (.ref (p 6 0)) i),(p 5 0,am (.ref (p 7 0)) i),(p 6 0,ab g (p 6 1)),(p 7 0,ab u (p 7 1)),(p 8 0,aG w (f7 p k s o j e m q++([("one",p 8 16,.ref (p 11 0)),("two",p 8 18,.ref (p 12 0)),("same",p 8 20,z)]:List (Str×Nat×Yd))) (p 8 1)),aE [a] (p 11),aE [d] (p 12)] fun B=>(.next,[ba (p 2 0) (p 3 0),az [.ref (p 4 0),.ref (p 5 0)] 0,az [.ref (p 11 0),.ref (p 12 0)] 0,am (.ref (p 6 0)) i,am (.ref (p 7 0)) i,ab g (p 6 1),ab u (p 7 1),aG w (f7 p k s o j e m q++([("one",p 8 16,.ref (p 11 0)),("two",p 8 18,.ref (p 12 0)),("same",p 8 20,.int 0 (B 1))]:List (Str×Nat×Yd))) (p 8 1),(aE [a] (p 11)).2,(aE [d] (p 12)).2],[]++[]):=by
 rw [cE]
 exact bt (enc:=cc) cD (orcs:=[o2 "str.__eq__" a d fun _=>.bool false,dy [8] a,dy [9] d,di [a] [d] [] 10,c3 8 11 (fun p=>bc p 1 [a] 2) none (some 0) (fun p=>bc p 1 [] 2),jI [12],o2 "str.__ne__" (aU []) (aU []) fun _=>.bool false]) (aa (cv (iY t)) (aa (dI [8] (by decide) a x (by decide)) (aa (dI [9] (by decide) d h (by decide)) (aa (Cp x h C A t (by decide)) (aa (dA (by decide) (fun _=>by show 1≤1000;lia) (fun _=>by kernel_rfl)) (aa (kF (by decide) (by decide)) (aa (aQ (bne_self_eq_false _)) aq))))))) 141 7 [8,7,0,8,0,0,8,0,0,11,9,0,9,0,60,9,0,0,63,8,0,0,8,0,0,11,10,0,10,0,60,10,0,0,63,8,8,9,9,9,0,9,0,54,9,8,8,10,10,10,0,10,0,54,10,2,0,0,8,0,3,0,8,0,4,0,5,0,8,8,9,9,9,6,0,7,8] [0,1,2,3,4,5,6,7,8,9] none (fun n y f=>aB [p 8 20,y+0])
theorem LV (b c:Bool) (w:Yc) (a d e:Str) (B:Yd) (m u q k g o t:Yd) (i:Nat) (h y:Yb) (p:af) (z:a∈aD) (j:d∈aD) (s:e∈aD) (x:(a.cps.toList != d.cps.toList)=true) (E:aP [d,e] [a]=false) (C:aP [a] [d,e]=true):aI (B0 (W b c w)) 8 (execs (fB (cn w)) (dh w p)) [(p 1 0,ba (p 2 0) (p 3 0)),(p 2 0,az [.ref (p 4 0),.ref (p 5 0)] 0),(p 3 0,az [.ref (p 11 0),.ref (p 12 0)] 0),(p 4 0,am (.ref (p 6 0)) i),(p 5 0,am (.ref (p 7 0)) i),(p 6 0,ab h (p 6 1)),(p 7 0,ab y (p 7 1)),(p 8 0,aG w (f7 p m u q k g o t++([("one",p 8 16,.ref (p 11 0)),("two",p 8 18,.ref (p 12 0)),("same",p 8 20,B)]:List (Str×Nat×Yd))) (p 8 1)),aE [a] (p 11),aE [d,e] (p 12)] fun D=>(.next,[ba (p 2 0) (p 3 0),az [.ref (p 4 0),.ref (p 5 0)] 0,az [.ref (p 11 0),.ref (p 12 0)] 0,am (.ref (p 6 0)) i,am (.ref (p 7 0)) i,ab h (p 6 1),ab y (p 7 1),aG w (f7 p m u q k g o t++([("one",p 8 16,.ref (p 11 0)),("two",p 8 18,.ref (p 12 0)),("same",p 8 20,.int 0 (D 1))]:List (Str×Nat×Yd))) (p 8 1),(aE [a] (p 11)).2,(aE [d,e] (p 12)).2],[]++[]):=by
 rw [cE]
 exact bt (enc:=cc) cD (orcs:=[o2 "str.__eq__" a d fun _=>.bool false,dy [8] a,dz [9] d e,di [a] [d,e] [] 10,c3 8 11 (fun p=>bc p 1 [a] 2) none (some 0) (fun p=>bc p 1 [] 2),jI [12],o2 "str.__ne__" (aU []) (aU []) fun _=>.bool false]) (aa (cv (iY x)) (aa (dI [8] (by decide) a z (by decide)) (aa (dJ [9] (by decide) d e j s (by decide)) (aa (Cq z j s E C x (by decide)) (aa (dA (by decide) (fun _=>by show 1≤1000;lia) (fun _=>by kernel_rfl)) (aa (kF (by decide) (by decide)) (aa (aQ (bne_self_eq_false _)) aq))))))) 141 7 [8,7,0,8,0,0,8,0,0,11,9,0,9,0,60,9,0,0,63,8,0,0,8,0,0,11,10,0,10,0,60,10,0,0,63,8,8,9,9,9,0,9,0,54,9,8,8,10,10,10,0,10,0,54,10,2,0,0,8,0,3,0,8,0,4,0,5,0,8,8,9,9,9,6,0,7,8] [0,1,2,3,4,5,6,7,8,9] none (fun n A f=>aB [p 8 20,A+0])
theorem LW (b c:Bool) (w:Yc) (a g d:Str) (B:Yd) (o u s m h q t:Yd) (i:Nat) (j y:Yb) (p:af) (z:a∈aD) (e:g∈aD) (k:d∈aD) (x:(a.cps.toList != d.cps.toList)=true) (E:aP [d] [a,g]=false) (C:aP [a,g] [d]=true):aI (B0 (W b c w)) 8 (execs (fB (cn w)) (dh w p)) [(p 1 0,ba (p 2 0) (p 3 0)),(p 2 0,az [.ref (p 4 0),.ref (p 5 0)] 0),(p 3 0,az [.ref (p 11 0),.ref (p 12 0)] 0),(p 4 0,am (.ref (p 6 0)) i),(p 5 0,am (.ref (p 7 0)) i),(p 6 0,ab j (p 6 1)),(p 7 0,ab y (p 7 1)),(p 8 0,aG w (f7 p o u s m h q t++([("one",p 8 16,.ref (p 11 0)),("two",p 8 18,.ref (p 12 0)),("same",p 8 20,B)]:List (Str×Nat×Yd))) (p 8 1)),aE [a,g] (p 11),aE [d] (p 12)] fun D=>(.next,[ba (p 2 0) (p 3 0),az [.ref (p 4 0),.ref (p 5 0)] 0,az [.ref (p 11 0),.ref (p 12 0)] 0,am (.ref (p 6 0)) i,am (.ref (p 7 0)) i,ab j (p 6 1),ab y (p 7 1),aG w (f7 p o u s m h q t++([("one",p 8 16,.ref (p 11 0)),("two",p 8 18,.ref (p 12 0)),("same",p 8 20,.int 0 (D 1))]:List (Str×Nat×Yd))) (p 8 1),(aE [a,g] (p 11)).2,(aE [d] (p 12)).2],[]++[]):=by
 rw [cE]
 exact bt (enc:=cc) cD (orcs:=[o2 "str.__eq__" a d fun _=>.bool false,dz [8] a g,dy [9] d,di [a,g] [d] [] 10,c3 8 11 (fun p=>bc p 1 [a,g] 2) none (some 0) (fun p=>bc p 1 [] 2),jI [12],o2 "str.__ne__" (aU []) (aU []) fun _=>.bool false]) (aa (cv (iY x)) (aa (dJ [8] (by decide) a g z e (by decide)) (aa (dI [9] (by decide) d k (by decide)) (aa (Cr z e k E C x (by decide)) (aa (dA (by decide) (fun _=>by show 2≤1000;lia) (fun _=>by kernel_rfl)) (aa (kF (by decide) (by decide)) (aa (aQ (bne_self_eq_false _)) aq))))))) 141 7 [8,7,0,8,0,0,8,0,0,11,9,0,9,0,60,9,0,0,63,8,0,0,8,0,0,11,10,0,10,0,60,10,0,0,63,8,8,9,9,9,0,9,0,54,9,8,8,10,10,10,0,10,0,54,10,2,0,0,8,0,3,0,8,0,4,0,5,0,8,8,9,9,9,6,0,7,8] [0,1,2,3,4,5,6,7,8,9] none (fun n A f=>aB [p 8 20,A+0])
theorem LX (b c:Bool) (w:Yc) (a g d e:Str) (D:Yd) (q y t o j s x:Yd) (i:Nat) (k A:Yb) (p:af) (B:a∈aD) (h:g∈aD) (m:d∈aD) (u:e∈aD) (z:(a.cps.toList != d.cps.toList)=true) (G:aP [d,e] [a,g]=false) (E:aP [a,g] [d,e]=true):aI (B0 (W b c w)) 8 (execs (fB (cn w)) (dh w p)) [(p 1 0,ba (p 2 0) (p 3 0)),(p 2 0,az [.ref (p 4 0),.ref (p 5 0)] 0),(p 3 0,az [.ref (p 11 0),.ref (p 12 0)] 0),(p 4 0,am (.ref (p 6 0)) i),(p 5 0,am (.ref (p 7 0)) i),(p 6 0,ab k (p 6 1)),(p 7 0,ab A (p 7 1)),(p 8 0,aG w (f7 p q y t o j s x++([("one",p 8 16,.ref (p 11 0)),("two",p 8 18,.ref (p 12 0)),("same",p 8 20,D)]:List (Str×Nat×Yd))) (p 8 1)),aE [a,g] (p 11),aE [d,e] (p 12)] fun F=>(.next,[ba (p 2 0) (p 3 0),az [.ref (p 4 0),.ref (p 5 0)] 0,az [.ref (p 11 0),.ref (p 12 0)] 0,am (.ref (p 6 0)) i,am (.ref (p 7 0)) i,ab k (p 6 1),ab A (p 7 1),aG w (f7 p q y t o j s x++([("one",p 8 16,.ref (p 11 0)),("two",p 8 18,.ref (p 12 0)),("same",p 8 20,.int 0 (F 1))]:List (Str×Nat×Yd))) (p 8 1),(aE [a,g] (p 11)).2,(aE [d,e] (p 12)).2],[]++[]):=by
 rw [cE]
 exact bt (enc:=cc) cD (orcs:=[o2 "str.__eq__" a d fun _=>.bool false,dz [8] a g,dz [9] d e,di [a,g] [d,e] [] 10,c3 8 11 (fun p=>bc p 1 [a,g] 2) none (some 0) (fun p=>bc p 1 [] 2),jI [12],o2 "str.__ne__" (aU []) (aU []) fun _=>.bool false]) (aa (cv (iY z)) (aa (dJ [8] (by decide) a g B h (by decide)) (aa (dJ [9] (by decide) d e m u (by decide)) (aa (Cs B h m u G E z (by decide)) (aa (dA (by decide) (fun _=>by show 2≤1000;lia) (fun _=>by kernel_rfl)) (aa (kF (by decide) (by decide)) (aa (aQ (bne_self_eq_false _)) aq))))))) 141 7 [8,7,0,8,0,0,8,0,0,11,9,0,9,0,60,9,0,0,63,8,0,0,8,0,0,11,10,0,10,0,60,10,0,0,63,8,8,9,9,9,0,9,0,54,9,8,8,10,10,10,0,10,0,54,10,2,0,0,8,0,3,0,8,0,4,0,5,0,8,8,9,9,9,6,0,7,8] [0,1,2,3,4,5,6,7,8,9] none (fun n C f=>aB [p 8 20,C+0])
theorem LY (b c:Bool) (w:Yc) (a g e:Str) (A:Yd) (o x s m j q u:Yd) (i:Nat) (k z:Yb) (p:af) (d:a∈aD) (h:g∈aD) (t:e∈aD) (y:(g.cps.toList != e.cps.toList)=true) (D:aP [a,e] [a,g]=false) (B:aP [a,g] [a,e]=true):aI (B0 (W b c w)) 8 (execs (fB (cn w)) (dh w p)) [(p 1 0,ba (p 2 0) (p 3 0)),(p 2 0,az [.ref (p 4 0),.ref (p 5 0)] 0),(p 3 0,az [.ref (p 11 0),.ref (p 12 0)] 0),(p 4 0,am (.ref (p 6 0)) i),(p 5 0,am (.ref (p 7 0)) i),(p 6 0,ab k (p 6 1)),(p 7 0,ab z (p 7 1)),(p 8 0,aG w (f7 p o x s m j q u++([("one",p 8 16,.ref (p 11 0)),("two",p 8 18,.ref (p 12 0)),("same",p 8 20,A)]:List (Str×Nat×Yd))) (p 8 1)),aE [a,g] (p 11),aE [a,e] (p 12)] fun C=>(.next,[ba (p 2 0) (p 3 0),az [.ref (p 4 0),.ref (p 5 0)] 0,az [.ref (p 11 0),.ref (p 12 0)] 0,am (.ref (p 6 0)) i,am (.ref (p 7 0)) i,ab k (p 6 1),ab z (p 7 1),aG w (f7 p o x s m j q u++([("one",p 8 16,.ref (p 11 0)),("two",p 8 18,.ref (p 12 0)),("same",p 8 20,.int 1 (C 1))]:List (Str×Nat×Yd))) (p 8 1),(aE [a,g] (p 11)).2,(aE [a,e] (p 12)).2],[]++[]):=by
 rw [cE]
 exact bt (enc:=cc) cD (orcs:=[o2 "str.__eq__" a a fun _=>.bool true,o2 "str.__eq__" g e fun _=>.bool false,dz [8] a g,dz [9] a e,di [a,g] [a,e] [a] 10,c3 8 11 (fun p=>bc p 1 [a,g] 2) none (some 1) (fun p=>bc p 1 [a] 2),dy [12] a,o2 "str.__ne__" (aU [a]) (aU [a]) fun _=>.bool false]) (aa (cv (beq_self_eq_true _)) (aa (cv (iY y)) (aa (dJ [8] (by decide) a g d h (by decide)) (aa (dJ [9] (by decide) a e d t (by decide)) (aa (Ct d h t D B y (by decide)) (aa (dA (by decide) (fun _=>by show 2≤1000;lia) (fun _=>by kernel_rfl)) (aa (dI [12] (by decide) a d (by decide)) (aa (aQ (bne_self_eq_false _)) aq)))))))) 239 8 [8,7,0,8,0,0,8,0,0,11,9,0,9,0,60,9,0,0,63,8,0,0,8,0,0,11,10,0,10,0,60,10,0,0,63,8,8,9,9,9,0,9,0,54,9,8,8,10,10,10,0,10,0,54,10,2,8,0,0,16,8,7,0,8,0,0,8,0,0,11,9,0,9,0,60,9,0,0,63,8,0,0,8,0,0,11,10,0,10,0,60,10,0,0,63,8,8,9,9,9,0,9,0,54,9,8,8,10,10,10,0,10,0,54,10,3,0,0,8,0,4,0,8,0,5,0,6,0,8,8,9,9,9,7,0,8,9] [0,1,2,3,4,5,6,7,8,9] none (fun n E f=>aB [p 8 20,(f 0).2.1+1])
end
section
theorem LZ (b c:Bool) (w:Yc) (u v:Yd) (i:Nat) (a d:Yb) (e:Nat) (f:a[i]? = some (.ref e)) (g:d.length≤i) (p:af):aC (B0 (W b c w)) 9 (jr (cn w) (p 1 0) (p 8 0) [p 9 0,p 13 0]) [(p 1 0,ba (p 2 0) (p 3 0)),(p 2 0,az [.ref (p 4 0),.ref (p 5 0)] 0),(p 3 0,az [u,v] 0),(p 4 0,am (.ref (p 6 0)) i),(p 5 0,am (.ref (p 7 0)) i),(p 6 0,ab a (p 6 1)),(p 7 0,ab d (p 7 1))] (fun h=>(.next,[ba (p 2 0) (p 3 0),az [.ref (p 4 0),.ref (p 5 0)] 0,az [.ref e,v] 0,am (.ref (p 6 0)) (i+1),am .none i,ab a (p 6 1),ab d (p 7 1)],[])):=
 aA (orcs:=[cA 3 5 a i (.ref e),fJ 4 6 d i]) (aa (cP (by decide) f) (aa (iJ (by decide) g) aq)) 30 2 [1,0,1,0,94,1,1,2,1,1,1,0,4,2,3,3,2,3,5,3,1,0,8,0] [0,1,2,3,4,5,6] (fun _ _ _ _=>0) (hc:=aS (sO _ _ _ _))
end
def ip:Yg→Yg→Nat
 | x::xs,y::ys=>match decide (x=y) with
  | true=>ip xs ys+1
  | false=>0
 | _,_=>0
theorem p1 {a d:Str} (h:a≠d):(a.cps.toList != d.cps.toList)=true:=by
 cases e:a.cps.toList != d.cps.toList with
 | true=>rfl
 | false=>
  have:a.cps.toList=d.cps.toList:=by simpa [bne] using e
  exact absurd (Ak this) h
theorem p3 {a d:Str} {e f:Yg} (h:a≠d):ip (a::e) (d::f)=0:=by
 show (match decide (a=d) with | true=>_ | false=>0)=0
 rw [decide_eq_false h]
theorem tt {a:Str} {d e:Yg}:ip (a::d) (a::e)=ip d e+1:=by
 show (match decide (a=a) with | true=>_ | false=>0)=_
 rw [decide_eq_true rfl]
theorem nF {a d:Yg} (f:aP d a=false) (h:a≠d):aP a d=true:=by
 cases e:aP a d with
 | true=>rfl
 | false=>exact absurd (vD a d e f) h
theorem Cy {P:Yg→Yg→Nat→Prop} (A:∀a∈aD,P [a] [a] 1) (B:∀a∈aD,∀g∈aD,P [a,g] [a,g] 2)
  (C:∀a∈aD,∀e∈aD,aP [a,e] [a]=false→aP [a] [a,e]=true→P [a] [a,e] 1)
  (x:∀a∈aD,∀d∈aD,aP [d] [a]=false→aP [a] [d]=true→(a.cps.toList != d.cps.toList)=true→P [a] [d] 0)
  (t:∀a∈aD,∀d∈aD,∀e∈aD,aP [d,e] [a]=false→aP [a] [d,e]=true→(a.cps.toList != d.cps.toList)=true→P [a] [d,e] 0)
  (s:∀a∈aD,∀g∈aD,∀d∈aD,aP [d] [a,g]=false→aP [a,g] [d]=true→(a.cps.toList != d.cps.toList)=true→P [a,g] [d] 0)
  (u:∀a∈aD,∀g∈aD,∀d∈aD,∀e∈aD,aP [d,e] [a,g]=false→aP [a,g] [d,e]=true→(a.cps.toList != d.cps.toList)=true→P [a,g] [d,e] 0)
  (E:∀a∈aD,∀g∈aD,∀e∈aD,aP [a,e] [a,g]=false→aP [a,g] [a,e]=true→(g.cps.toList != e.cps.toList)=true→P [a,g] [a,e] 1)
  {m o:Yg} (hx:cB m) (y:cB o) (f:aP o m=false):P m o (ip m o):=by
 rcases hx with ⟨a,h,rfl⟩ | ⟨a,h,g,k,rfl⟩ <;> rcases y with ⟨d,j,rfl⟩ | ⟨d,j,e,n,rfl⟩
 ·by_cases q:a=d
  ·subst q;rw [tt];exact A a h
  ·rw [p3 q];exact x a h d j f (nF f fun z=>q (by cases z;rfl)) (p1 q)
 ·by_cases q:a=d
  ·subst q;rw [tt];exact C a h e n f (nF f fun z=>by cases z)
  ·rw [p3 q];exact t a h d j e n f (nF f fun z=>by cases z) (p1 q)
 ·by_cases q:a=d
  ·subst q
   have:aP [a] [a,g]=true:=by
    show (if a==a then aP [] [g] else _)=true
    rw [beq_self_eq_true,if_pos rfl];rfl
   rw [this] at f;cases f
  ·rw [p3 q];exact s a h g k d j f (nF f fun z=>by cases z) (p1 q)
 ·by_cases q:a=d
  ·subst q
   rw [tt]
   by_cases q2:g=e
   ·subst q2;rw [tt];exact B a h g k
   ·rw [p3 q2];exact E a h g k e n f (nF f fun z=>q2 (by cases z;rfl)) (p1 q2)
  ·rw [p3 q];exact u a h g k d j e n f (nF f fun z=>q (by cases z;rfl)) (p1 q)
section
def iq (w:Yc) (p:af):Code:=jr (cn w) (p 1 0) (p 8 0) [p 9 0,p 13 0]
theorem Cz (w:Yc) (p:af):iq w p = .forLoop (.Tuple (nb (fT (cn w))) (nm (fT (cn w))) (nq (fT (cn w)))) (.ref (p 1 0)) (fB (cn w)) [] (dh w p):=by
 unfold iq dh
 rw [vg (Ll w),Lm,←wG]
def tu (p:af) (vs ws:Yb) (u v:Yd) (i:Nat) (a:Obj) (d e:Yg):Ya:=[(p 1 0,ba (p 2 0) (p 3 0)),(p 2 0,az [.ref (p 4 0),.ref (p 5 0)] 0),(p 3 0,az [u,v] 0),(p 4 0,am (.ref (p 6 0)) i),(p 5 0,am (.ref (p 7 0)) i),(p 6 0,ab vs (p 6 1)),(p 7 0,ab ws (p 7 1)),(p 8 0,a),aE d (p 11),aE e (p 12)]
def nG (p:af) (vs ws:Yb) (u v:Yd) (i:Nat) (a:Obj) (d e:Yg):Yf:=[ba (p 2 0) (p 3 0),az [.ref (p 4 0),.ref (p 5 0)] 0,az [u,v] 0,am (.ref (p 6 0)) i,am (.ref (p 7 0)) i,ab vs (p 6 1),ab ws (p 7 1),a,(aE d (p 11)).2,(aE e (p 12)).2]
section
variable (b c:Bool) (w:Yc) (p:af) (v1 v2 v3 v4 v5 v6 v7:Yd) (i:Nat) (vs ws:Yb)
theorem L1 {m o:Yg} (hx:cB m) (x:cB o) (h:aP o m=false):aI (B0 (W b c w)) 8 (execs (fB (cn w)) (dh w p)) (tu p vs ws (.ref (p 11 0)) (.ref (p 12 0)) i (aG w (f7 p v1 v2 v3 v4 v5 v6 v7++([("one",p 8 16,.ref (p 11 0)),("two",p 8 18,.ref (p 12 0))]:List (Str×Nat×Yd))) (p 8 1)) m o) fun u=>
  (.next,nG p vs ws (.ref (p 11 0)) (.ref (p 12 0)) i (aG w (f7 p v1 v2 v3 v4 v5 v6 v7++([("one",p 8 16,.ref (p 11 0)),("two",p 8 18,.ref (p 12 0)),("same",u 0,.int (ip m o:Nat) (u 1))]:List (Str×Nat×Yd))) (p 8 1+1)) m o,[]):=
 Cy (P:=fun m o n=>aI (B0 (W b c w)) 8 (execs (fB (cn w)) (dh w p)) (tu p vs ws (.ref (p 11 0)) (.ref (p 12 0)) i (aG w (f7 p v1 v2 v3 v4 v5 v6 v7++([("one",p 8 16,.ref (p 11 0)),("two",p 8 18,.ref (p 12 0))]:List (Str×Nat×Yd))) (p 8 1)) m o) fun u=>
  (.next,nG p vs ws (.ref (p 11 0)) (.ref (p 12 0)) i (aG w (f7 p v1 v2 v3 v4 v5 v6 v7++([("one",p 8 16,.ref (p 11 0)),("two",p 8 18,.ref (p 12 0)),("same",u 0,.int (n:Nat) (u 1))]:List (Str×Nat×Yd))) (p 8 1+1)) m o,[]))
  (fun a f=>LI b c w a v1 v2 v3 v4 v5 v6 v7 i vs ws p f)
  (fun a f g q=>LJ b c w a g v1 v2 v3 v4 v5 v6 v7 i vs ws p f q)
  (fun a f e s h j=>LK b c w a e v1 v2 v3 v4 v5 v6 v7 i vs ws p f s h j)
  (fun a f d t h j k=>LM b c w a d v1 v2 v3 v4 v5 v6 v7 i vs ws p f t k h j)
  (fun a f d t e s h j k=>LN b c w a d e v1 v2 v3 v4 v5 v6 v7 i vs ws p f t s k h j)
  (fun a f g q d t h j k=>LO b c w a g d v1 v2 v3 v4 v5 v6 v7 i vs ws p f q t k h j)
  (fun a f g q d t e s h j k=>LP b c w a g d e v1 v2 v3 v4 v5 v6 v7 i vs ws p f q t s k h j)
  (fun a f g q e s h j k=>LQ b c w a g e v1 v2 v3 v4 v5 v6 v7 i vs ws p f q s k h j)
  hx x h
theorem L2 (o3:Yd) {m o:Yg} (hx:cB m) (x:cB o) (h:aP o m=false):aI (B0 (W b c w)) 8 (execs (fB (cn w)) (dh w p)) (tu p vs ws (.ref (p 11 0)) (.ref (p 12 0)) i (aG w (f7 p v1 v2 v3 v4 v5 v6 v7++([("one",p 8 16,.ref (p 11 0)),("two",p 8 18,.ref (p 12 0)),("same",p 8 20,o3)]:List (Str×Nat×Yd))) (p 8 1)) m o) fun u=>
  (.next,nG p vs ws (.ref (p 11 0)) (.ref (p 12 0)) i (aG w (f7 p v1 v2 v3 v4 v5 v6 v7++([("one",p 8 16,.ref (p 11 0)),("two",p 8 18,.ref (p 12 0)),("same",p 8 20,.int (ip m o:Nat) (u 1))]:List (Str×Nat×Yd))) (p 8 1)) m o,[]):=
 Cy (P:=fun m o n=>aI (B0 (W b c w)) 8 (execs (fB (cn w)) (dh w p)) (tu p vs ws (.ref (p 11 0)) (.ref (p 12 0)) i (aG w (f7 p v1 v2 v3 v4 v5 v6 v7++([("one",p 8 16,.ref (p 11 0)),("two",p 8 18,.ref (p 12 0)),("same",p 8 20,o3)]:List (Str×Nat×Yd))) (p 8 1)) m o) fun u=>
  (.next,nG p vs ws (.ref (p 11 0)) (.ref (p 12 0)) i (aG w (f7 p v1 v2 v3 v4 v5 v6 v7++([("one",p 8 16,.ref (p 11 0)),("two",p 8 18,.ref (p 12 0)),("same",p 8 20,.int (n:Nat) (u 1))]:List (Str×Nat×Yd))) (p 8 1)) m o,[]))
  (fun a f=>LR b c w a o3 v1 v2 v3 v4 v5 v6 v7 i vs ws p f)
  (fun a f g q=>LS b c w a g o3 v1 v2 v3 v4 v5 v6 v7 i vs ws p f q)
  (fun a f e s h j=>LT b c w a e o3 v1 v2 v3 v4 v5 v6 v7 i vs ws p f s h j)
  (fun a f d t h j k=>LU b c w a d o3 v1 v2 v3 v4 v5 v6 v7 i vs ws p f t k h j)
  (fun a f d t e s h j k=>LV b c w a d e o3 v1 v2 v3 v4 v5 v6 v7 i vs ws p f t s k h j)
  (fun a f g q d t h j k=>LW b c w a g d o3 v1 v2 v3 v4 v5 v6 v7 i vs ws p f q t k h j)
  (fun a f g q d t e s h j k=>LX b c w a g d e o3 v1 v2 v3 v4 v5 v6 v7 i vs ws p f q t s k h j)
  (fun a f g q e s h j k=>LY b c w a g e o3 v1 v2 v3 v4 v5 v6 v7 i vs ws p f q s k h j)
  hx x h
end
end
structure iZ where
 u:Yd
 v:Yd
 k:Option (Nat×Nat×Nat×Yd×Yd×Yd)
 n:Nat
abbrev jJ:=RD×RD
def nH (p:af) (v1 v2 v3 v4 v5 v6 v7:Yd):Option (Nat×Nat×Nat×Yd×Yd×Yd)→List (Str×Nat×Yd)
 | none=>f7 p v1 v2 v3 v4 v5 v6 v7
 | some (b,a,t3,o1,o2,o3)=>f7 p v1 v2 v3 v4 v5 v6 v7++([("one",b,o1),("two",a,o2),("same",t3,o3)]:List (Str×Nat×Yd))
def pG (p:af) (d:jJ) (n b c a t3:Nat):af:=fun j i=>match j,i with
 | 11,i=>d.1.2 i
 | 12,i=>d.2.2 i
 | 14,_=>b
 | 8,1=>n
 | 8,16=>c
 | 8,18=>a
 | 8,20=>t3
 | j,i=>p j i
section
section
variable (w:Yc) (p:af) (v1 v2 v3 v4 v5 v6 v7:Yd) (vs ws:Yb)
def ir (i:Nat) (s:iZ):Ya:=[(p 1 0,ba (p 2 0) (p 3 0)),(p 2 0,az [.ref (p 4 0),.ref (p 5 0)] 0),(p 3 0,az [s.u,s.v] 0),(p 4 0,am (.ref (p 6 0)) i),(p 5 0,am (.ref (p 7 0)) i),(p 6 0,ab vs (p 6 1)),(p 7 0,ab ws (p 7 1)),(p 8 0,aG w (nH p v1 v2 v3 v4 v5 v6 v7 s.k) s.n)]
def jK (d:jJ):Ya:=[aE d.1.1 d.1.2,aE d.2.1 d.2.2]
def tw (d:jJ) (s:iZ) (a:Ye):iZ:=
 {u:=.ref (d.1.2 0),v:=.ref (d.2.2 0),
  k:=match s.k with
   | none=>some (a 0,a 1,a 2,.ref (d.1.2 0),.ref (d.2.2 0),.int (ip d.1.1 d.2.1:Nat) (a 3))
   | some (c,b,t3,_,_,_)=>some (c,b,t3,.ref (d.1.2 0),.ref (d.2.2 0),.int (ip d.1.1 d.2.1:Nat) (a 3)),
  n:=match s.k with
   | none=>s.n+1+1+1
   | some _=>s.n}
def tx:Option (Nat×Nat×Nat×Yd×Yd×Yd)→Ye→Nat→Nat
 | none,a=>f8 (ev (od a) 0) (ev (od a) 1) (od (od a) 0) (od (od a) 1)
 | some _,a=>f8 0 0 0 (od (od a) 1)
theorem L3 (b c:Bool) {d:jJ} (i:Nat) (u v:Yd) (n:Nat) (hx:cB d.1.1) (o:cB d.2.1) (s:aP d.2.1 d.1.1=false) (k:vs[i]? = some (.ref (d.1.2 0))) (m:ws[i]? = some (.ref (d.2.2 0))) :
  aL (B0 (W b c w)) 9 (iq w p) (ir w p v1 v2 v3 v4 v5 v6 v7 vs ws i ⟨u,v,none,n⟩++jK d) fun g=>(.error (iq w p),bH (ir w p v1 v2 v3 v4 v5 v6 v7 vs ws (i+1) (tw d ⟨u,v,none,n⟩ (tx none g)))++bH (jK d),[]):=by
 rw [Cz]
 have j:=fun q=>LG b c w d.1.1 d.2.1 v1 v2 v3 v4 v5 v6 v7 (i+1) vs ws (pG p d n q 0 0 0)
 rw [wG] at j
 exact lu (bG (W b c w)) (e:=0) (rest:=tc p) (Z0:=ba (p 2 0) (p 3 0)) (T:=(ir w p v1 v2 v3 v4 v5 v6 v7 vs ws i ⟨u,v,none,n⟩).tail++jK d)
  (o1:=fun g=>(wH w d.1.1 d.2.1 (aG w (f7 p v1 v2 v3 v4 v5 v6 v7) n) u v i vs ws (pG p d n 0 0 0 0) g).tail) (V1:=fun g=>az [.ref (d.1.2 0),.ref (d.2.2 0)] 0)
  (o2:=fun g f=>(Cv w d.1.1 d.2.1 v1 v2 v3 v4 v5 v6 v7 (i+1) vs ws (pG p d n (g 0) 0 0 0) f).tail.dropLast) (V2:=fun _ _=>az [.ref (d.1.2 0),.ref (d.2.2 0)] 0)
  (o3:=fun g f h=>(nG (pG p d (n+1+1) (g 0) (f 0) (f 1) 0) vs ws (.ref (d.1.2 0)) (.ref (d.2.2 0)) (i+1) (aG w (f7 p v1 v2 v3 v4 v5 v6 v7++([("one",f 0,.ref (d.1.2 0)),("two",f 1,.ref (d.2.2 0)),("same",h 0,.int (ip d.1.1 d.2.1:Nat) (h 1))]:List (Str×Nat×Yd))) (n+1+1+1)) d.1.1 d.2.1).tail)
  (gQ (by intro id a e;cases e)) (Cu b c w d.1.1 d.2.1 (aG w (f7 p v1 v2 v3 v4 v5 v6 v7) n) u v i vs ws (pG p d n 0 0 0 0) k m) (fun _=>rfl)
  (fun g=>j (g 0)) (fun _ _=>rfl)
  (fun g f=>L1 b c w (pG p d (n+1+1) (g 0) (f 0) (f 1) 0) v1 v2 v3 v4 v5 v6 v7 (i+1) vs ws hx o s) (fun _ _ _=>rfl) fun g=>rfl
theorem L4 (b c:Bool) {d:jJ} (i:Nat) (u v:Yd) (n h g t3:Nat) (o1 o2 o3:Yd) (hx:cB d.1.1) (s:cB d.2.1) (t:aP d.2.1 d.1.1=false) (o:vs[i]? = some (.ref (d.1.2 0))) (q:ws[i]? = some (.ref (d.2.2 0))) :
  aL (B0 (W b c w)) 9 (iq w p) (ir w p v1 v2 v3 v4 v5 v6 v7 vs ws i ⟨u,v,some (h,g,t3,o1,o2,o3),n⟩++jK d) fun f=>(.error (iq w p),bH (ir w p v1 v2 v3 v4 v5 v6 v7 vs ws (i+1) (tw d ⟨u,v,some (h,g,t3,o1,o2,o3),n⟩ (tx (some (h,g,t3,o1,o2,o3)) f)))++bH (jK d),[]):=by
 rw [Cz]
 have m:=fun x=>LH b c w o1 o2 o3 d.1.1 d.2.1 v1 v2 v3 v4 v5 v6 v7 (i+1) vs ws (pG p d n x h g t3)
 rw [wG] at m
 exact lu (bG (W b c w)) (e:=0) (rest:=tc p) (Z0:=ba (p 2 0) (p 3 0)) (T:=(ir w p v1 v2 v3 v4 v5 v6 v7 vs ws i ⟨u,v,some (h,g,t3,o1,o2,o3),n⟩).tail++jK d)
  (o1:=fun f=>(wH w d.1.1 d.2.1 (aG w (nH p v1 v2 v3 v4 v5 v6 v7 (some (h,g,t3,o1,o2,o3))) n) u v i vs ws (pG p d n 0 0 0 0) f).tail) (V1:=fun f=>az [.ref (d.1.2 0),.ref (d.2.2 0)] 0)
  (o2:=fun f j=>(Cw w o1 o2 o3 d.1.1 d.2.1 v1 v2 v3 v4 v5 v6 v7 (i+1) vs ws (pG p d n (f 0) h g t3) j).tail.dropLast) (V2:=fun _ _=>az [.ref (d.1.2 0),.ref (d.2.2 0)] 0)
  (o3:=fun f j k=>(nG (pG p d n (f 0) h g t3) vs ws (.ref (d.1.2 0)) (.ref (d.2.2 0)) (i+1) (aG w (f7 p v1 v2 v3 v4 v5 v6 v7++([("one",h,.ref (d.1.2 0)),("two",g,.ref (d.2.2 0)),("same",t3,.int (ip d.1.1 d.2.1:Nat) (k 1))]:List (Str×Nat×Yd))) n) d.1.1 d.2.1).tail)
  (gQ (by intro id a e;cases e)) (Cu b c w d.1.1 d.2.1 (aG w (nH p v1 v2 v3 v4 v5 v6 v7 (some (h,g,t3,o1,o2,o3))) n) u v i vs ws (pG p d n 0 0 0 0) o q) (fun _=>rfl)
  (fun f=>m (f 0)) (fun _ _=>rfl)
  (fun f j=>L2 b c w (pG p d n (f 0) h g t3) v1 v2 v3 v4 v5 v6 v7 (i+1) vs ws o3 hx s t) (fun _ _ _=>rfl) fun f=>rfl
theorem L5 (b c:Bool) {d:jJ} {s:iZ} {i:Nat} (hx:cB d.1.1) (f:cB d.2.1) (g:aP d.2.1 d.1.1=false) (a:vs[i]? = some (.ref (d.1.2 0))) (e:ws[i]? = some (.ref (d.2.2 0))) :
  aL (B0 (W b c w)) 9 (iq w p) (ir w p v1 v2 v3 v4 v5 v6 v7 vs ws i s++jK d) fun m=>(.error (iq w p),bH (ir w p v1 v2 v3 v4 v5 v6 v7 vs ws (i+1) (tw d s (tx s.k m)))++bH (jK d),[]):=by
 obtain ⟨u,v,k,n⟩:=s
 cases k with
 | none=>exact L3 w p v1 v2 v3 v4 v5 v6 v7 vs ws b c i u v n hx f g a e
 | some k=>
  obtain ⟨o,j,t3,q,o2,h⟩:=k
  exact L4 w p v1 v2 v3 v4 v5 v6 v7 vs ws b c i u v n o j t3 q o2 h hx f g a e
def lD (R:Yi) (g:Ye):List jJ:=(cz R g).zip ((cz R g).drop 1)
theorem CA:∀(R:Yi) (g:Ye),(be R g).map (·.1)=(b9 R g).map fun d=>d.2 0
 | [],_=>rfl
 | r::l,g=>by show ev g 2::(be l (od g)).map _=ev g 2::(b9 l (od g)).map _;rw [CA l]
theorem L6 {R:Yi} (g:Ye) (h:0<R.length):(cz R g).Perm (b9 R g):=by
 have p:=(nj R h).map fun i=>(b9 R g).getD i ([],id)
 have e:(List.range R.length).map (fun i=>(b9 R g).getD i ([],id))=b9 R g:=by
  refine List.ext_getElem (by simp [f4]) fun i b a => ?_
  simp [List.getD,a]
 rw [e] at p
 exact p
theorem L7 {R:Yi} {g:Nat→Nat} (h:0<R.length) (nd:((be R g).map (·.1)).Nodup):((cz R g).map fun d=>d.2 0).Nodup:=by
 rw [CA] at nd
 exact ((L6 g h).map _).nodup_iff.mpr nd
theorem L8 {R:Yi} {g:Nat→Nat} (h:0<R.length) (nd:((be R g).map (·.1)).Nodup) {k:Nat} {d:jJ} (e:(lD R g)[k]? = some d) :
  (cz R g)[k]? = some d.1∧(cz R g)[k+1]? = some d.2∧aP d.2.1 d.1.1=false∧d.1.2 0≠d.2.2 0:=by
 unfold lD at e
 rw [List.getElem?_zip_eq_some] at e
 obtain ⟨i,b⟩:=e
 rw [List.getElem?_drop,Nat.add_comm] at b
 obtain ⟨hk1,q1⟩:=List.getElem?_eq_some_iff.mp i
 obtain ⟨hk2,q2⟩:=List.getElem?_eq_some_iff.mp b
 refine ⟨i,b,?_,?_⟩
 ·have n:=Ay R h
  have m:k+1<(perm R).length:=by rw [Bf h,←jD g h];exact hk2
  have:=(List.pairwise_iff_getElem.mp n) k (k+1) (by lia) m (Nat.lt_succ_self _)
  have q:∀j (c:j<(perm R).length) (a:j<(cz R g).length),((cz R g)[j]'a).1=R.getD ((perm R)[j]'c) []:=fun j c a=>by
   have z:=congrArg (fun l:Yi=>l[j]?) (Bg g h)
   simp only [List.getElem?_map,List.getElem?_eq_getElem a,Option.map_some] at z
   unfold ih at z
   simp only [List.getElem?_map,List.getElem?_eq_getElem c,Option.map_some] at z
   exact Option.some.inj z
  rw [←q1,←q2,q k (by lia) hk1,q (k+1) m hk2]
  exact this
 ·have f:=L7 h nd
  have z:=(List.pairwise_iff_getElem.mp f) k (k+1) (by simpa using hk1) (by simpa using hk2) (Nat.lt_succ_self _)
  simp only [List.getElem_map] at z
  rw [←q1,←q2]
  exact z
def wI (a:Nat) (n:Nat) (s:iZ):Yf:=[ba (p 2 0) (p 3 0),az [.ref (p 4 0),.ref (p 5 0)] 0,az [.ref a,s.v] 0,am (.ref (p 6 0)) (n+1),am .none n,ab vs (p 6 1),ab ws (p 7 1),aG w (nH p v1 v2 v3 v4 v5 v6 v7 s.k) s.n]
theorem L9 (b c:Bool) (s:iZ) (a:Nat) (d:vs[ws.length]? = some (.ref a)):aL (B0 (W b c w)) 9 (iq w p) (ir w p v1 v2 v3 v4 v5 v6 v7 vs ws ws.length s) fun _=>(.ok .next,wI w p v1 v2 v3 v4 v5 v6 v7 vs ws a ws.length s,[]):=
 aL.lift (need:=[(p 1 0,ba (p 2 0) (p 3 0)),(p 2 0,az [.ref (p 4 0),.ref (p 5 0)] 0),(p 3 0,az [s.u,s.v] 0),(p 4 0,am (.ref (p 6 0)) ws.length),(p 5 0,am (.ref (p 7 0)) ws.length),(p 6 0,ab vs (p 6 1)),(p 7 0,ab ws (p 7 1))]) [(p 8 0,aG w (nH p v1 v2 v3 v4 v5 v6 v7 s.k) s.n)] (src:=[]) (k:=fun _=>.ok .next) (o:=fun _=>[ba (p 2 0) (p 3 0),az [.ref (p 4 0),.ref (p 5 0)] 0,az [.ref a,s.v] 0,am (.ref (p 6 0)) (ws.length+1),am .none ws.length,ab vs (p 6 1),ab ws (p 7 1)]) (ads:=fun _=>[])
  (LZ b c w s.u s.v ws.length vs ws a d (Nat.le_refl _) p) (fun _=>rfl) (fun _ h=>nomatch h) List.nodup_nil
end
end
section
def qG (p:af):af:=fun j i=>match j,i with | 9,_=>p 0 3 | 13,_=>p 0 4 | j,i=>p j i
def wJ (p:af):iZ:=⟨.none,.none,none,p 8 1⟩
def CB (d:jJ) (s:iZ) (a:Ye):iZ:=tw d s (tx s.k a)
def fG (R:Yi) (g:Ye) (p:af) (a:Ye):iZ:=b5 CB (lD R g) (wJ p) a
def p5 (R:Yi) (g:Ye):Nat:=match (cz R g)[R.length-1]? with
 | some d=>d.2 0
 | none=>0
def c9 (R:Yi) (g:Ye):Yb:=f6 (aT R g) (perm R)
def Ma (d:af→Code) (w:Yc) (f:Yh) (R:Yi) (g:Ye) (a b c:Yd):aH:=bA d f
 (fun p=>ir w (qG p) (.ref (p 8 3)) (.ref (p 8 5)) (.ref (p 8 7)) a b c (.ref (p 8 15)) (c9 R g) ((c9 R g).drop 1) 0 (wJ p))
 (fun p e=>(.next,wI w (qG p) (.ref (p 8 3)) (.ref (p 8 5)) (.ref (p 8 7)) a b c (.ref (p 8 15)) (c9 R g) ((c9 R g).drop 1) (p5 R g) (R.length-1) (fG R g p e),[]))
def CC (w:Yc) (d:Yh) (R:Yi) (g:Ye) (a b c:Yd):aH:=Ma (fun p=>iq w (qG p)) w d R g a b c
theorem Mb {b c:Bool} {w:Yc} {m:Nat} {E:Yh} {R:Yi} {g:Nat→Nat} {o n t:Yd} (I:E.Nodup) (D:∀r∈R,cB r) (j:0<R.length) (F:9≤m):(CC w E R g o n t).SureF (B0 (W b c w)) m (be R g):=by
 refine (pd I (fun _ _=>rfl) fun p=>aL.nd fun nd => ?_:aH.SureF (B0 (W b c w)) 9 _ _).le F
 have ndS:((be R g).map (·.1)).Nodup:=List.Sublist.nodup (List.Sublist.map _ (List.sublist_append_right _ _)) nd
 have u:c9 R g=(cz R g).map f3:=(wc g j).symm
 have K:(c9 R g).length=R.length:=by rw [u,List.length_map,jD g j]
 have x:((c9 R g).drop 1).length=R.length-1:=by rw [List.length_drop,K]
 have gl:(lD R g).length=R.length-1:=by
  unfold lD
  rw [List.length_zip,List.length_drop,jD g j]
  lia
 have a:∀(k:Nat) (d:RD),(cz R g)[k]? = some d→(c9 R g)[k]? = some (.ref (d.2 0)):=fun k d e=>by rw [u,List.getElem?_map,e];rfl
 have f:(c9 R g)[((c9 R g).drop 1).length]? = some (.ref (p5 R g)):=by
  rw [x]
  have G:R.length-1<(cz R g).length:=by rw [jD g j];lia
  have e:=List.getElem?_eq_getElem G
  rw [a _ _ e]
  unfold p5
  rw [e]
 have L:=sH (bG (W b c w)) (m:=9) (code:=iq w (qG p)) (be R g) (fun i s=>ir w (qG p) (.ref (p 8 3)) (.ref (p 8 5)) (.ref (p 8 7)) o n t (.ref (p 8 15)) (c9 R g) ((c9 R g).drop 1) i s) (fun s=>wI w (qG p) (.ref (p 8 3)) (.ref (p 8 5)) (.ref (p 8 7)) o n t (.ref (p 8 15)) (c9 R g) ((c9 R g).drop 1) (p5 R g) ((c9 R g).drop 1).length s) CB jK nu
  (fun i d _=>(lD R g)[i]? = some d) (fun _ _=>True) ((c9 R g).drop 1).length (fun _ _ _ _=>rfl)
  (fun i d s P Q O=>by
   obtain ⟨A,z,H,N⟩:=L8 j ndS O
   have C:=pN j (List.mem_of_getElem? A)
   have B:=pN j (List.mem_of_getElem? z)
   refine ⟨fun q y => ?_,?_,fun _=>trivial,L5 w (qG p) (.ref (p 8 3)) (.ref (p 8 5)) (.ref (p 8 7)) o n t (.ref (p 8 15)) (c9 R g) ((c9 R g).drop 1) b c (D _ C.2) (D _ B.2) H (a _ _ A) ?_⟩
   ·rcases List.mem_cons.mp y with rfl | y
    ·exact C.1
    ·have:q=aE d.2.1 d.2.2:=by simpa using y
     rw [this];exact B.1
   ·show [d.1.2 0,d.2.2 0].Nodup
    rw [List.nodup_cons]
    exact ⟨fun h=>N (by simpa using h),by simp⟩
   ·rw [List.getElem?_drop,Nat.add_comm]
    exact a _ _ z)
  (fun s _=>L9 w (qG p) (.ref (p 8 3)) (.ref (p 8 5)) (.ref (p 8 7)) o n t (.ref (p 8 15)) (c9 R g) ((c9 R g).drop 1) b c s (p5 R g) f)
  (fun _ _=>rfl) (lD R g) 0 (wJ p) (by rw [gl,x];lia) trivial (fun k d e _=>by rw [Nat.zero_add];exact e)
 refine aL.re (out:=_) L fun J=>⟨J,?_⟩
 rw [pK,x]
 rfl
end
theorem Mc {R:Yi} {g:Nat→Nat} (h:0<R.length):(c9 R g).length=R.length:=by
 unfold c9
 rw [←wc g h,List.length_map,jD g h]
section
def lE (w:Yc) (a c b:Yd) (R:bu) (p:af):Ya:=[(p 8 0,aG w [("script",p 8 2,.ref (p 16 0)),("rows",p 8 4,.ref (p 6 0)),("written",p 8 6,.ref (p 7 0)),("row",p 8 8,a),("parts",p 8 10,c),("path",p 8 12,b),("due",p 8 14,.ref (p 17 0))] (p 8 1)),(p 7 0,ab (aT (R.map (·.map ao)) (p 21)) (p 7 1))]
def CD (w:Yc) (b d c:Yd) (R:bu) (p:af) (a:Ye):Flow:=.next
def nI (w:Yc) (b d c:Yd) (R:bu) (p:af) (a:Ye):Yf:=[aG w (nH p (.ref (p 16 0)) (.ref (p 6 0)) (.ref (p 7 0)) b d c (.ref (p 17 0)) (fG (R.map (·.map ao)) (p 21) p a).k) (fG (R.map (·.map ao)) (p 21) p a).n,ab (aT (R.map (·.map ao)) (p 21)) (p 7 1)]
def CE (w:Yc) (b d c:Yd) (R:bu) (p:af) (a:Ye):Ya:=[]
def CF (w:Yc) (b d c:Yd) (R:bu) (p:af) (a:Ye):Ya:=[]
theorem Md (b c:Bool) (w:Yc) (d e a:Yd) (R:bu) (p:af) (i:∀r∈R,b7 r) (q:6≤R.length) (j:R.length≤12):aI (B0 (W b c w)) 10 (execs [sS w 8] (bm w p)) (lE w d e a R p++be (R.map (·.map ao)) (p 21)) fun g=>(CD w d e a R p g,nI w d e a R p g++bH (be (R.map (·.map ao)) (p 21)),CE w d e a R p g++CF w d e a R p g):=by
 have h:=mY (b:=b) (c:=c) (m:=9) (t:=nk [sS w 8] (bm w p)) (need:=lE w d e a R p) (val:=CD w d e a R p) (objs:=nI w d e a R p) (ads:=CE w d e a R p) (tail:=CF w d e a R p) (enc:=cc) cD (orcs:=[lz [1] (R.map (·.map ao)) (p 21),lz [1] (R.map (·.map ao)) (p 21),c3 3 4 (fun _=>(c9 (R.map (·.map ao)) (p 21))) (some 1) none (fun _=>(c9 (R.map (·.map ao)) (p 21)).drop 1),CC w [10,8,9,6,7,2,5,0] (R.map (·.map ao)) (p 21) d e a]) (be (R.map (·.map ao)) (p 21)) (jk (wa (by decide) (by rw [List.length_map];lia) (by rw [List.length_map];lia) (by decide)) (jk (wa (by decide) (by rw [List.length_map];lia) (by rw [List.length_map];lia) (by decide)) (jk (aH.Sure.toF (o:=c3 3 4 (fun _=>(c9 (R.map (·.map ao)) (p 21))) (some 1) none (fun _=>(c9 (R.map (·.map ao)) (p 21)).drop 1)) (dA (vs:=fun _=>(c9 (R.map (·.map ao)) (p 21))) (by decide) (fun _=>by rw [Mc (by rw [List.length_map];lia),List.length_map];lia) (fun _=>Bp _)) _) (jk (Mb (by decide) (wf i) (by rw [List.length_map];lia) (by decide)) pc)))) 79 4 [0,0,0,0,1,2,0,0,1,3,4,4,4,4,0,95,0,0,0,0,0,92,3,3,0,3,0,23,7,6,6,0,6,0,23,8,11,11,0,11,0,29,11,11,11,0,11,0,93,11,5] [0,1] none (fun n k f=>(f 3).2.2)
 rw [←cE] at h
 exact h
end
section
open SeqAt MeetsSeq3
structure bp (B:bf) (h0:Heap) (L0:List Addr) (T:Ya) (h:Heap):Prop where
 nd:(T.map (·.1)).Nodup
 own:∀p∈T,h.get? p.1=some p.2
 lo:∀p∈T,B.lo≤p.1
 inB:B.In h
 keep:∀b ob,h0.get? b=some ob→b∉L0→h.get? b=some ob
 size:h0.objs.size≤h.objs.size
 new:∀p∈T,p.1∈L0∨h0.objs.size≤p.1
theorem bp.sub {B:bf} {h0:Heap} {L0:List Addr} {T b:Ya} {h:Heap} (H:bp B h0 L0 T h) (c:∃l:Ya,l.Perm b∧l.Sublist T):bp B h0 L0 b h:=by
 obtain ⟨l,p,s⟩:=c
 have mem:∀q∈b,q∈T:=fun q a=>s.subset (p.mem_iff.mpr a)
 refine ⟨?_,fun q a=>H.own q (mem q a),fun q a=>H.lo q (mem q a),H.inB,H.keep,H.size,fun q a=>H.new q (mem q a)⟩
 exact (p.map _).nodup_iff.mp (List.Sublist.nodup (s.map _) H.nd)
structure bw {α : Type} (B:bf) (A:Around) (t:Sem α) (Q : α→Shared→Prop) (E:Yd→Shared→Prop) (s:Shared):Prop where
 go:wpAny B.M A t Q E s
section
variable {B:bf} {m:Nat} {α : Type} {A:Around} {h0 h:Heap} {L0:List Addr} {tk:Nat} {gs:Array GenState} {d:Drawn} {os:OsState} {E:Yd→Shared→Prop}
theorem bp.step (O:B.Ok) {t:Sem α} {e:Ya} {v:Ye→α} {o:Ye→Yf} {N:Ye→Ya} (P:aI B m t e fun f=>(v f,o f,N f)) (V:∀f,(o f).length=e.length) (F:Ya) (T:Lv m A) (H:bp B h0 L0 (e++F) h) {Q : α→Shared→Prop}
  (U:∀w u f,bp B h0 L0 ((e.map (·.1)).zip (o f)++N f++F) w→Q (v f) ⟨w,gs,d,u,os⟩):bw B A t Q E ⟨h,gs,d,tk,os⟩:=by
 have nd:=H.nd
 rw [List.map_append,List.nodup_append] at nd
 refine ⟨P.go A T h tk gs d os Q E nd.1 (fun p k=>⟨H.own p (List.mem_append_left _ k),H.lo p (List.mem_append_left _ k)⟩) H.inB fun w u f le I k j C=>U w u f ?_⟩
 have R:=jj (V f)
 have g:∀a∈e.map (·.1),B.lo≤a∧(a∈L0∨h0.objs.size≤a)∧a<h.objs.size:=fun a j=>by
  obtain ⟨p,k,rfl⟩:=List.mem_map.mp j
  exact ⟨H.lo p (List.mem_append_left _ k),H.new p (List.mem_append_left _ k),ij (H.own p (List.mem_append_left _ k))⟩
 have J:∀q∈(e.map (·.1)).zip (o f),q.1∈e.map (·.1):=fun q c=>by rw [←R];exact List.mem_map_of_mem c
 have G:∀q∈F,q.1<h.objs.size:=fun q c=>ij (H.own q (List.mem_append_right _ c))
 refine ⟨?_,fun q c => ?_,fun q c => ?_,mR O H.inB le (fun a j=>(g a j).1) I,fun b K q L => ?_,Nat.le_trans H.size le,fun q c => ?_⟩
 ·rw [List.map_append,List.map_append,R]
  refine List.nodup_append.mpr ⟨List.nodup_append.mpr ⟨nd.1,C,fun a i b x => ?_⟩,nd.2.1,fun a i b x => ?_⟩
  ·obtain ⟨z,n,rfl⟩:=List.mem_map.mp x
   exact Nat.ne_of_lt (Nat.lt_of_lt_of_le (g a i).2.2 (j z n).2)
  ·rcases List.mem_append.mp i with i | i
   ·exact nd.2.2 a i b x
   ·obtain ⟨z,n,rfl⟩:=List.mem_map.mp i
    obtain ⟨y,X,rfl⟩:=List.mem_map.mp x
    exact Nat.ne_of_gt (Nat.lt_of_lt_of_le (G y X) (j z n).2)
 ·rcases List.mem_append.mp c with c | c
  ·rcases List.mem_append.mp c with c | c
   ·exact k q c
   ·exact (j q c).1
  ·exact I q.1 q.2 (H.own q (List.mem_append_right _ c)) fun D=>nd.2.2 _ D _ (List.mem_map_of_mem c) rfl
 ·rcases List.mem_append.mp c with c | c
  ·rcases List.mem_append.mp c with c | c
   ·exact (g _ (J q c)).1
   ·exact Nat.le_trans H.inB.2 (j q c).2
  ·exact H.lo q (List.mem_append_right _ c)
 ·have S:=H.keep b K q L
  refine I b K S fun D => ?_
  rcases (g b D).2.1 with i | i
  ·exact L i
  ·exact absurd (ij q) (Nat.not_lt.mpr i)
 ·rcases List.mem_append.mp c with c | c
  ·rcases List.mem_append.mp c with c | c
   ·exact (g _ (J q c)).2.1
   ·exact .inr (Nat.le_trans H.size (j q c).2)
  ·exact H.new q (List.mem_append_right _ c)
theorem bp.stepS (O:B.Ok) {t:Sem α} {a S:Ya} {v:Ye→α} {o:Ye→Yf} {N:Ye→Ya} (P:aI B m t (a++S) fun b=>(v b,o b++bH S,N b)) (f:∀b,(o b).length=a.length) (F:Ya) (j:Lv m A) (H:bp B h0 L0 (a++S++F) h) {Q : α→Shared→Prop}
  (i:∀e c b,bp B h0 L0 ((a.map (·.1)).zip (o b)++S++N b++F) e→Q (v b) ⟨e,gs,d,c,os⟩):bw B A t Q E ⟨h,gs,d,tk,os⟩:=
 bp.step O P (fun b=>by rw [List.length_append,List.length_append,f,sG]) F j H fun e c b g=>i e c b (by rw [u9 (f b)] at g;exact g)
theorem bw.cons {s:Stmt} {l:List Stmt} {a:Env} {Q:Flow→Shared→Prop} {st:Shared} (h:bw B A (PySem.exec s a) (fun f b=>match f with | .next=>bw B A (execs l a) Q E b | f=>Q f b) E st):bw B A (execs (s::l) a) Q E st:=
 ⟨wpAny_execs_cons (wpAny_mono h.go (fun f b q=>by cases f <;> first | exact q.go | exact q) fun _ _ q=>q)⟩
theorem bp.stmt (O:B.Ok) {s:Stmt} {l:List Stmt} {c:Env} {a:Ya} {o:Ye→Yf} {N:Ye→Ya} (P:aI B m (PySem.exec s c) a fun b=>(Flow.next,o b,N b)) (i:∀b,(o b).length=a.length) (F:Ya) (j:Lv m A) (H:bp B h0 L0 (a++F) h) {Q:Flow→Shared→Prop}
  (g:∀f e b,bp B h0 L0 ((a.map (·.1)).zip (o b)++N b++F) f→bw B A (execs l c) Q E ⟨f,gs,d,e,os⟩):bw B A (execs (s::l) c) Q E ⟨h,gs,d,tk,os⟩:=
 bw.cons (bp.step O P i F j H g)
theorem bp.stmtS (O:B.Ok) {s:Stmt} {l:List Stmt} {b:Env} {a S:Ya} {o:Ye→Yf} {N:Ye→Ya} (P:aI B m (PySem.exec s b) (a++S) fun ax=>(Flow.next,o ax++bH S,N ax)) (i:∀ax,(o ax).length=a.length) (F:Ya) (g:Lv m A) (H:bp B h0 L0 (a++S++F) h) {Q:Flow→Shared→Prop}
  (f:∀e c ax,bp B h0 L0 ((a.map (·.1)).zip (o ax)++S++N ax++F) e→bw B A (execs l b) Q E ⟨e,gs,d,c,os⟩):bw B A (execs (s::l) b) Q E ⟨h,gs,d,tk,os⟩:=
 bw.cons (bp.stepS O P i F g H f)
theorem bw.ifNe {l r:Expr} {b o:List Stmt} {P j:Pos} {a:Env} {Q:Flow→Shared→Prop} {st:Shared} (i:behindInMarks .NotEq r=false)
  (h:bw B A (eval l a) (fun v g=>bw B A (eval r a) (fun u e=>bw B A (compareOp .NotEq v u) (fun c s3=>bw B A (truthy c) (fun t f=>t=false∧bw B A (execs o a) Q E f) E s3) E e) E g) E st):bw B A (PySem.exec (.If (.Compare l [.NotEq] [r] P) b o j) a) Q E st:=by
 refine ⟨wpAny_If (wpAny_isTrue_Compare1 (wpAny_mono h.go (fun v g q1=>wpAny_mono q1.go (fun u e q2=>wpAny_mono q2.go (fun c s3 q3=>wpAny_mono q3.go (fun t f k => ?_) fun _ _ q=>q) fun _ _ q=>q) fun _ _ q=>q) fun _ _ q=>q) i)⟩
 obtain ⟨rfl,q⟩:=k
 exact q.go
end
section
variable {B:bf} {A:Around} {E:Yd→Shared→Prop} {s:Shared} {Q:Bool→Shared→Prop}
theorem bw.neLists {a b:Addr} {e g:Yb} {n o:Nat} {f:Yg} (i:A.units<cLine) (p:s.heap.get? a=some (ab e n)) (j:s.heap.get? b=some (ab g o)) (t:StrsAre e f) (k:StrsAre g f) (h:Q false s) :
  bw B A (compareOp .NotEq (.ref a) (.ref b)) (fun c s3=>bw B A (truthy c) Q E s3) E s:=by
 refine ⟨wpAny_mono (vO (B:=B) (E:=E) i p j t k h) (fun c s3 q=>⟨q⟩) fun _ _ q=>q⟩
theorem bw.neRows {a b:Addr} {R:Yi} {f g:Yb} {n I:Nat} (X:A.units+10<cLine) (T:s.heap.get? a=some (ab f n)) (P:s.heap.get? b=some (ab g I)) (lv:f.length=R.length) (N:g.length=R.length)
  (t:∀(j:Nat) (r:Yg),R[j]? = some r→∃x y o z k F,f[j]? = some (.ref x)∧g[j]? = some (.ref y)∧x≠y∧s.heap.get? x=some (ab o k)∧s.heap.get? y=some (ab z F)∧StrsAre o r∧StrsAre z r) (h:Q false s) :
  bw B A (compareOp .NotEq (.ref a) (.ref b)) (fun c s3=>bw B A (truthy c) Q E s3) E s:=by
 have u:A.units<cLine:=by lia
 have q:=RcNeAt.lists (A:=A) (s:=s) (l:=a) (b:=b) (items:=f.toArray) (items2:=g.toArray) (e:=fun _=>true) ⟨_,T,rfl,n,rfl⟩ ⟨_,P,rfl,I,rfl⟩ (by rw [List.size_toArray,List.size_toArray,lv,N]) u fun j D H=>by
  rw [List.size_toArray] at D H
  have O:j<R.length:=by rw [←lv];exact D
  obtain ⟨x,y,o,z,k,F,L,K,S,U,V,J,G⟩:=t j R[j] (List.getElem?_eq_getElem O)
  have w:f.toArray[j] = .ref x:=by rw [List.getElem_toArray];exact Option.some.inj ((List.getElem?_eq_getElem D).symm.trans L)
  have p:g.toArray[j] = .ref y:=by rw [List.getElem_toArray];exact Option.some.inj ((List.getElem?_eq_getElem H).symm.trans K)
  rw [w,p]
  refine EqAt.of_refs S ?_
  have q:=RcAt.lists (A:=A.in1) (s:=s) (l:=x) (b:=y) (e:=fun i=>R[j][i]? == R[j][i]?) ⟨_,U,rfl,_,rfl⟩ ⟨_,V,rfl,_,rfl⟩ (by rw [List.size_toArray,List.size_toArray,hZ J,hZ G]) (by show A.units+1<cLine;lia) (uQ J G)
  have C:(List.range o.toArray.size).all (fun i=>R[j][i]? == R[j][i]?)=true:=by
   rw [List.all_eq_true]
   intro i _
   exact beq_self_eq_true _
  rw [C] at q
  exact q
 have C:(List.range f.toArray.size).all (fun _=>true)=true:=by simp
 rw [C] at q
 refine ⟨?_⟩
 exact q B.prog B.w E _ ⟨wpAny_truthy_bool h⟩
end
end
theorem CG (a:Addr×Obj) [BEq (Addr×Obj)] (T:Ya):T.count a=(T.map fun x=>if x==a then 1 else 0).sum:=by
 induction T with
 | nil=>rfl
 | cons x l d=>rw [List.count_cons,d,List.map_cons,List.sum_cons,Nat.add_comm]
theorem ge {T d:Ya} (h:∀f:Addr×Obj→Nat,(T.map f).sum=(d.map f).sum):T.Perm d:=by
 classical
 refine List.perm_iff_count.mpr fun a => ?_
 rw [CG,CG]
 exact h _
theorem bp.perm {B:bf} {e:Heap} {f:List Addr} {T d:Ya} {h:Heap} (H:bp B e f T h) (p:T.Perm d):bp B e f d h:=H.sub ⟨T,p,List.Sublist.refl _⟩
theorem bp.left {B:bf} {d:Heap} {e:List Addr} {T X:Ya} {h:Heap} (H:bp B d e (T++X) h):bp B d e T h:=H.sub ⟨T,List.Perm.refl _,List.sublist_append_left _ _⟩
section
variable (a b c s r g wl x y z hh due:Addr×Obj) (S SR SW Sx F:Ya)
theorem Me:([a,b,c,s]++([r]++S)++[]).Perm ([a,b,c,r]++S++[s]):=ge fun f=>by simp only [List.map_append,List.map_cons,List.map_nil,List.sum_append,List.sum_cons,List.sum_nil];lia
theorem Mf:([a,b,c,r]++SR++([wl]++SW)++[s]).Perm ([a,b,c]++([r,wl,s]++SR++SW)):=ge fun f=>by simp only [List.map_append,List.map_cons,List.map_nil,List.sum_append,List.sum_cons,List.sum_nil];lia
theorem Mg:([a,b,c]++([g]++[])++([r,wl,s]++SR++SW)).Perm ([a,b,c,g,r,wl]++(SR++([s]++SW))):=ge fun f=>by simp only [List.map_append,List.map_cons,List.map_nil,List.sum_append,List.sum_cons,List.sum_nil];lia
theorem Mh:([a,b,c,g,r,wl]++([]++[])++(SR++([s]++SW))).Perm ([a,b,c,g,r,wl]++SR++([s]++SW)):=ge fun f=>by simp only [List.map_append,List.map_cons,List.map_nil,List.sum_append,List.sum_cons,List.sum_nil];lia
theorem Mi:([a,b,c,g,r,wl]++SR++([x]++Sx)++([s]++SW)).Perm ([a,b]++([c,g,r,wl,s]++SR++SW)++([x]++Sx)):=ge fun f=>by simp only [List.map_append,List.map_cons,List.map_nil,List.sum_append,List.sum_cons,List.sum_nil];lia
theorem Mj:([a,b]++([hh]++[])++([c,g,r,wl,s]++SR++SW)).Perm ([a,b,hh,r,wl]++(SR++SW)++[c,g,s]):=ge fun f=>by simp only [List.map_append,List.map_cons,List.map_nil,List.sum_append,List.sum_cons,List.sum_nil];lia
theorem Mk:([a,b,hh,r,wl]++(SR++SW)++([]++[])++[c,g,s]).Perm ([a,wl]++SW++([b,hh,r,s,c,g]++SR)):=ge fun f=>by simp only [List.map_append,List.map_cons,List.map_nil,List.sum_append,List.sum_cons,List.sum_nil];lia
theorem Ml:([a,wl]++SW++([due]++[])++([b,hh,r,s,c,g]++SR)).Perm ([a,b,hh,due,r]++([wl,s]++SW)++([c,g]++SR)):=ge fun f=>by simp only [List.map_append,List.map_cons,List.map_nil,List.sum_append,List.sum_cons,List.sum_nil];lia
theorem Mm:([a,b,hh,due,r]++([]++[])++F).Perm ([a,b,hh,due,r]++F):=ge fun f=>by simp only [List.map_append,List.map_cons,List.map_nil,List.sum_append,List.sum_cons,List.sum_nil];lia
theorem Mo:([a,b,hh,due,r]++([x]++[])++F).Perm ([a,b,hh,due,r]++([x]++F)):=ge fun f=>by simp only [List.map_append,List.map_cons,List.map_nil,List.sum_append,List.sum_cons,List.sum_nil];lia
theorem Mp:([a,b,hh,due,r]++([y]++[])++([x]++F)).Perm ([a,b,hh,due,r]++F++[x,y]):=ge fun f=>by simp only [List.map_append,List.map_cons,List.map_nil,List.sum_append,List.sum_cons,List.sum_nil];lia
theorem Mq:([a,b,hh,due,r]++([z]++[])++([wl,s]++SW)).Perm ([a,wl]++SW++[s]++[b,hh,due,r,z]):=ge fun f=>by simp only [List.map_append,List.map_cons,List.map_nil,List.sum_append,List.sum_cons,List.sum_nil];lia
theorem Ms:([a,wl]++SW++([]++[])++[s]).Perm ([s]++([a,wl]++SW)):=ge fun f=>by simp only [List.map_append,List.map_cons,List.map_nil,List.sum_append,List.sum_cons,List.sum_nil];lia
end
theorem bw.ifOr3 {B:bf} {A:Around} {E:Yd→Shared→Prop} {e k j i f:Expr} {b o:List Stmt} {X J C U:Pos} {d:Env} {Q:Flow→Shared→Prop} {st:Shared} (T:behindInMarks .NotEq j=false) (P:behindInMarks .NotEq f=false)
  (h:bw B A (PySem.isTrue e d (eval e d)) (fun t G=>t=false∧bw B A (eval k d) (fun v N=>bw B A (eval j d) (fun u H=>bw B A (compareOp .NotEq v u) (fun c s3=>bw B A (truthy c) (fun t D=>t=false∧
   bw B A (eval i d) (fun v L=>bw B A (eval f d) (fun u I=>bw B A (compareOp .NotEq v u) (fun c K=>bw B A (truthy c) (fun t p=>t=false∧bw B A (execs o d) Q E p) E K) E I) E L) E D) E s3) E H) E N) E G) E st) :
  bw B A (PySem.exec (.If (.BoolOp .Or [e,.Compare k [.NotEq] [j] J,.Compare i [.NotEq] [f] C] X) b o U) d) Q E st:=by
 refine ⟨wpAny_If (wpAny_isTrue_BoolOp (wpAny_allTrue_Or_cons (wpAny_mono h.go (fun t G m => ?_) fun _ _ q=>q)))⟩
 obtain ⟨rfl,m⟩:=m
 show wpAny _ A (allTrue .Or [.Compare k [.NotEq] [j] J,.Compare i [.NotEq] [f] C] d) _ E G
 refine wpAny_allTrue_Or_cons (wpAny_isTrue_Compare1 (wpAny_mono m.go (fun v N q1=>wpAny_mono q1.go (fun u H q2=>wpAny_mono q2.go (fun c s3 q3=>wpAny_mono q3.go (fun t D w => ?_) fun _ _ q=>q) fun _ _ q=>q) fun _ _ q=>q) fun _ _ q=>q) T)
 obtain ⟨rfl,w⟩:=w
 show wpAny _ A (allTrue .Or [.Compare i [.NotEq] [f] C] d) _ E D
 refine wpAny_allTrue_Or_cons (wpAny_isTrue_Compare1 (wpAny_mono w.go (fun v L O=>wpAny_mono O.go (fun u I R=>wpAny_mono R.go (fun c K V=>wpAny_mono V.go (fun t p n => ?_) fun _ _ q=>q) fun _ _ q=>q) fun _ _ q=>q) fun _ _ q=>q) P)
 obtain ⟨rfl,n⟩:=n
 show wpAny _ A (allTrue .Or [] d) _ E p
 refine wpAny_allTrue_Or_nil ?_
 exact n.go
section
open SeqAt MeetsSeq3
theorem bp.go {B:bf} {h0:Heap} {L0:List Addr} {T e a f:Ya} {h:Heap} (H:bp B h0 L0 T h) (i:T=e) (p:e.Perm a) (g:a=f):bp B h0 L0 f h:=by
 subst i;subst g;exact H.perm p
def gl (l:Ya) (i:Nat):Addr×Obj:=l.getD i (0,dc)
def p6 (p:af) (a:Ye):af:=fun j i=>match j,i with | 8,1=>p 8 1+1 | 8,4=>a 1 | 6,0=>a 0 | 6,1=>a 2 | 20,i=>a (i+3) | j,i=>p j i
def ty (p:af) (a:Ye):af:=fun j i=>match j,i with | 8,1=>p 8 1+1 | 8,6=>a 1 | 7,0=>a 0 | 7,1=>a 2 | 21,i=>a (i+3) | j,i=>p j i
def p8 (p:af) (a:Ye):af:=fun j i=>match j,i with | 15,i=>a i | j,i=>p j i
def tz (p:af) (a:Ye):af:=fun j i=>match j,i with | 10,0=>a 0 | 10,1=>0 | j,i=>p j i
def wL (R:bu) (p:af) (a:Ye):af:=fun j i=>match j,i with | 8,1=>(fD R (p 20) (p 21) p a).n | 8,8=>kT 0 (fD R (p 20) (p 21) p a).k | 8,10=>kT 1 (fD R (p 20) (p 21) p a).k | 8,12=>kT 2 (fD R (p 20) (p 21) p a).k | 10,1=>(fD R (p 20) (p 21) p a).hn | j,i=>p j i
def nJ (p:af) (ax:Ye):af:=fun j i=>match j,i with | 8,1=>p 8 1+1 | 8,14=>ax 1 | 17,0=>ax 0 | 17,1=>ax 2 | j,i=>p j i
def ct (p:af) (a:Ye):af:=fun j i=>match j,i with | 10,1=>a 0 | 17,1=>a 2 | j,i=>p j i
def cN (p:af) (a:Ye):af:=fun j i=>match j,i with | 10,1=>a 1 | j,i=>p j i
def i0 (B:bf) (h0:Heap) (L0:List Addr) (s:Addr×Obj) (gs:Array GenState) (d:Drawn) (os:OsState) (Q:Flow→Shared→Prop):Prop:=∀e a X,bp B h0 L0 ([s]++X) e→Q (.ret (.bool true)) ⟨e,gs,d,a,os⟩
section
variable {b c:Bool} {w:Yc} {A:Around} {h0 h:Heap} {L0:List Addr} {tk:Nat} {gs:Array GenState} {d:Drawn} {os:OsState} {E:Yd→Shared→Prop} {Q:Flow→Shared→Prop} {s:Addr×Obj}
theorem Mt (p:af) (i:Lv 10 A) (X:Ya) (f:i0 (B0 (W b c w)) h0 L0 s gs d os Q) (H:bp (B0 (W b c w)) h0 L0 ([s]++X) h):bw (B0 (W b c w)) A (execs [sS w 9] (bm w p)) Q E ⟨h,gs,d,tk,os⟩:=
 bp.step (bG (W b c w)) (Lk b c w p) (fun e=>by kernel_rfl) ([s]++X) (i.le (by decide)) H fun g a e j=>f g a X (j.go (by kernel_rfl) (List.Perm.refl ([s]++X)) (by kernel_rfl))
theorem Mu (e f a:Yd) (R:bu) (p:af) (k:∀r∈R,b7 r) (n:6≤R.length) (i:R.length≤12) (j:Lv 10 A) (m:i0 (B0 (W b c w)) h0 L0 s gs d os Q)
  (H:bp (B0 (W b c w)) h0 L0 (lE w e f a R p++be (R.map (·.map ao)) (p 21)++[s]) h):bw (B0 (W b c w)) A (execs [sS w 8,sS w 9] (bm w p)) Q E ⟨h,gs,d,tk,os⟩:=
 bp.stmtS (bG (W b c w)) (Md b c w e f a R p k n i).exec (fun g=>by kernel_rfl) [s] j H fun t o g q=>Mt p j ([gl (((lE w e f a R p).map (·.1)).zip (nI w e f a R p g)) 0,gl (((lE w e f a R p).map (·.1)).zip (nI w e f a R p g)) 1]++be (R.map (·.map ao)) (p 21)) m
  (q.go (by kernel_rfl) (Ms (gl (((lE w e f a R p).map (·.1)).zip (nI w e f a R p g)) 0) s (gl (((lE w e f a R p).map (·.1)).zip (nI w e f a R p g)) 1) (be (R.map (·.map ao)) (p 21))) (by kernel_rfl))
end
end
section
open SeqAt MeetsSeq3
theorem wM {A:Around} (a:Lv 10 A):A.units+10<cLine:=by
 have:=a.2.2
 have e:cLine=9900:=rfl
 lia
structure F7 (n:Nat) (L D:Yb) (x:Str) (t1 t2:Nat) (due:Yg):Prop where
 h0:0<L.length
 hv:L.length≤90
 hs:bk L
 hx:dO L = .str x t1
 hd:D[(0:Int).toNat]? = some (.str x t2)
 dl:D.length≤500
 len:∀t,(cI L "/zz" t).length=n
 st:∀t,bk (cI L "/zz" t)
 hp:∀t,Hp (cI L "/zz" t)
 pv:∀t,StrsAre (fR n (cI L "/zz" t)) (due.drop 1++[("/zz" : Str)])
 pr:∀t,fS n (cI L "/zz" t)=[]
 dv:∀t,StrsAre (D.drop 1++[.str "/zz" t]) (due.drop 1++[("/zz" : Str)])
section
def e7 (w:Yc) (i:Nat):Expr:=cW (c1 (bN (sS w 7))) i
theorem Mv (w:Yc):sS w 7 = .If (.BoolOp .Or [e7 w 0,.Compare (d1 (e7 w 1)) [.NotEq] [db (e7 w 1)] (na (e7 w 1)),.Compare (d1 (e7 w 2)) [.NotEq] [db (e7 w 2)] (na (e7 w 2))] (vh (bN (sS w 7)))) (po (sS w 7)) [] (pp (sS w 7)):=by kernel_rfl
theorem Mw (w:Yc):behindInMarks .NotEq (db (e7 w 1))=false:=by kernel_rfl
theorem Mx (w:Yc):behindInMarks .NotEq (db (e7 w 2))=false:=by kernel_rfl
section
variable {b c:Bool} {w:Yc} {A:Around} {h0 h:Heap} {L0:List Addr} {tk:Nat} {gs:Array GenState} {d:Drawn} {os:OsState} {E:Yd→Shared→Prop} {Q:Flow→Shared→Prop} {s:Addr×Obj}
theorem My (i k j:Yd) (L D:Yb) (x:Str) (P G:Nat) (q:Yg) (R:bu) (p:af) (f:F7 R.length L D x P G q) (hr:∀r∈R,b7 r) (V:6≤R.length) (J:R.length≤12) (o:Lv 10 A) (hQ:i0 (B0 (W b c w)) h0 L0 s gs d os Q)
  (H:bp (B0 (W b c w)) h0 L0 (lB w i k j L D x P G R p++([(p 7 0,ab (aT (R.map (·.map ao)) (p 21)) (p 7 1)),s]++be (R.map (·.map ao)) (p 21))) h):bw (B0 (W b c w)) A (execs [sS w 7,sS w 8,sS w 9] (bm w p)) Q E ⟨h,gs,d,tk,os⟩:=by
 refine bw.cons ?_
 rw [Mv]
 refine bw.ifOr3 (Mw w) (Mx w) ?_
 refine bp.step (bG (W b c w)) (Lf b c w i k j L D x P G R p f.h0 f.hv f.hs f.hx f.hd) (fun ax=>by kernel_rfl) _ (o.le (by decide)) H fun h1 tk1 e S=>⟨rfl,?_⟩
 generalize hF:([(p 7 0,ab (aT (R.map (·.map ao)) (p 21)) (p 7 1)),s]++be (R.map (·.map ao)) (p 21))=F at S
 obtain ⟨N1,hN1⟩:∃N,N=ts w i k j (cI L "/zz" (e 1)) D R (ct p e):=⟨_,rfl⟩
 have u:bp (B0 (W b c w)) h0 L0 (ts w i k j (cI L "/zz" (e 1)) D R (ct p e)++F) h1:=S.go (by kernel_rfl) (List.Perm.refl (ts w i k j (cI L "/zz" (e 1)) D R (ct p e)++F)) rfl
 refine bp.step (bG (W b c w)) (Lg b c w i k j (cI L "/zz" (e 1)) D R (ct p e) (f.len _) (by rw [f.len];lia) (f.st _) (f.hp _) V) (fun ax=>by kernel_rfl) F (o.le (by decide)) u fun h2 tk2 g H2 => ?_
 obtain ⟨M,Y⟩:∃M,M=fS (aT R (p 20)).length (cI L "/zz" (e 1)):=⟨_,rfl⟩
 have I:M=[]:=by rw [Y,ls,f.pr]
 obtain ⟨Z,T⟩:∃Z,Z=fR (aT R (p 20)).length (cI L "/zz" (e 1)):=⟨_,rfl⟩
 have z:StrsAre Z (q.drop 1++[("/zz" : Str)]):=by rw [T,ls];exact f.pv _
 have K:bp (B0 (W b c w)) h0 L0 (lC w i k j M D R (cN (ct p e) g)++([(g 0,ab Z (g 2))]++F)) h2:=by
  subst Y;subst T
  exact H2.go (by kernel_rfl) (Mo (gl (lC w i k j (fS (aT R (p 20)).length (cI L "/zz" (e 1))) D R (cN (ct p e) g)) 0) (gl (lC w i k j (fS (aT R (p 20)).length (cI L "/zz" (e 1))) D R (cN (ct p e) g)) 1) (gl (lC w i k j (fS (aT R (p 20)).length (cI L "/zz" (e 1))) D R (cN (ct p e) g)) 4) (g 0,ab (fR (aT R (p 20)).length (cI L "/zz" (e 1))) (g 2)) (gl (lC w i k j (fS (aT R (p 20)).length (cI L "/zz" (e 1))) D R (cN (ct p e) g)) 2) (gl (lC w i k j (fS (aT R (p 20)).length (cI L "/zz" (e 1))) D R (cN (ct p e) g)) 3) F) (by kernel_rfl)
 refine bp.step (bG (W b c w)) (Lh b c w i k j M D R (cN (ct p e) g) f.dl) (fun ax=>by kernel_rfl) _ (o.le (by decide)) K fun t tk3 m C => ?_
 have gx:t.get? (g 0)=some (ab Z (g 2)):=C.own _ (List.mem_append_right _ (.head _))
 have gy:t.get? (m 0)=some (ab (D.drop 1++[.str "/zz" (m 1)]) 0):=C.own _ (List.mem_append_left _ (List.mem_append_right _ (.head _)))
 refine bw.neLists (a:=g 0) (b:=m 0) (Nat.lt_of_le_of_lt (Nat.le_add_right _ _) (wM o)) gx gy z (f.dv _) ⟨rfl,?_⟩
 have O:bp (B0 (W b c w)) h0 L0 ((dF w i k j M D R (cN (ct p e) g))++F) t:=bp.left (X:=[(g 0,ab Z (g 2)),(m 0,ab (D.drop 1++[.str "/zz" (m 1)]) 0)]) (C.go (by kernel_rfl) (Mp (gl (dF w i k j M D R (cN (ct p e) g)) 0) (gl (dF w i k j M D R (cN (ct p e) g)) 1) (gl (dF w i k j M D R (cN (ct p e) g)) 4) (g 0,ab Z (g 2)) (m 0,ab (D.drop 1++[.str "/zz" (m 1)]) 0) (gl (dF w i k j M D R (cN (ct p e) g)) 2) (gl (dF w i k j M D R (cN (ct p e) g)) 3) F) (by kernel_rfl))
 refine bp.step (bG (W b c w)) (Li b c w i k j M D R (cN (ct p e) g)) (fun ax=>by kernel_rfl) _ (o.le (by decide)) O fun h4 tk4 ax4 H4 => ?_
 have y:bp (B0 (W b c w)) h0 L0 ((Cl w i k j M D R (cN (ct p e) g))++F) h4:=H4.go (by kernel_rfl) (Mm (gl (dF w i k j M D R (cN (ct p e) g)) 0) (gl (dF w i k j M D R (cN (ct p e) g)) 1) (gl (dF w i k j M D R (cN (ct p e) g)) 4) (gl (dF w i k j M D R (cN (ct p e) g)) 2) (gl (dF w i k j M D R (cN (ct p e) g)) 3) F) (by kernel_rfl)
 refine bp.step (bG (W b c w)) (Lj b c w i k j M D R (cN (ct p e) g)) (fun ax=>by kernel_rfl) _ (o.le (by decide)) y fun U tk5 n B => ?_
 subst I
 have ga:U.get? (p 10 0)=some (ab [] (g 1)):=B.own _ (List.mem_append_left _ (List.mem_append_left _ (.tail _ (.tail _ (.head _)))))
 have gb:U.get? (n 0)=some (ab [] 0):=B.own _ (List.mem_append_left _ (List.mem_append_right _ (.head _)))
 refine bw.neLists (a:=p 10 0) (b:=n 0) (Nat.lt_of_le_of_lt (Nat.le_add_right _ _) (wM o)) ga gb .nil .nil ⟨rfl,?_⟩
 refine ⟨wpAny_execs_nil ?_⟩
 show bw (B0 (W b c w)) A (execs [sS w 8,sS w 9] (bm w p)) Q E _
 subst hF
 exact Mu i k j R p hr V J o hQ (bp.left (X:=[(gl (dF w i k j [] D R (cN (ct p e) g)) 1),(gl (dF w i k j [] D R (cN (ct p e) g)) 2),(gl (dF w i k j [] D R (cN (ct p e) g)) 3),(gl (dF w i k j [] D R (cN (ct p e) g)) 4),(n 0,ab [] 0)]) (B.go (by kernel_rfl) (Mq (gl (dF w i k j [] D R (cN (ct p e) g)) 0) (gl (dF w i k j [] D R (cN (ct p e) g)) 1) s (gl (dF w i k j [] D R (cN (ct p e) g)) 4) (p 7 0,ab (aT (R.map (·.map ao)) (p 21)) (p 7 1)) (n 0,ab [] 0) (gl (dF w i k j [] D R (cN (ct p e) g)) 2) (gl (dF w i k j [] D R (cN (ct p e) g)) 3) (be (R.map (·.map ao)) (p 21))) (by kernel_rfl)))
end
end
end
section
open SeqAt MeetsSeq3
theorem CI:∀{vs:Yb},bk vs→StrsAre vs (vs.map sv)
 | [],_=>.nil
 | v::r,h=>by
  obtain ⟨y,t,rfl⟩:=h v (.head _)
  exact .cons _ _ (CI fun u a=>h u (.tail _ a))
theorem CJ:∀{vs b:Yb} {a c:Yg},StrsAre vs a→StrsAre b c→StrsAre (vs++b) (a++c)
 | _,_,_,_,.nil,h=>h
 | _,_,_,_,.cons _ _ h,k=>.cons _ _ (CJ h k)
theorem Mz {R:bu} {L:Yb} {g ax:Nat→Nat} (m:∀r∈R,b7 r) (C:6≤R.length) (A:R.length≤12) (p:Hp L) (i:bk L) (h:L.length=R.length) (B:(L.map sv).Perm ((R.map (·.map ao)).map aU)) :
  ∃x n k,F7 R.length L (c0 gc (cz (R.map (·.map ao)) g) ax) x n k ((ih (R.map (·.map ao))).map aU):=by
 have u:=wf m
 have w:(R.map (·.map ao)).length=R.length:=List.length_map ..
 have c:0<(R.map (·.map ao)).length:=by lia
 have j:L.length≤90:=by lia
 have P:=HT _ c
 have a:=fun t=>HM p i j B (fun e=>by rw [List.map_eq_nil_iff] at e;rw [e] at c;exact absurd c (by decide)) (HU _ c u) (P.map aU) (y:="/zz") (fun x hx=>by
  obtain ⟨r,m,rfl⟩:=List.mem_map.mp hx
  exact HS (u r m)) t
 have b:StrsAre (c0 gc (cz (R.map (·.map ao)) g) ax) ((ih (R.map (·.map ao))).map aU):=by
  have q:=Bh (cz (R.map (·.map ao)) g) ax
  have e:(cz (R.map (·.map ao)) g).map (fun d=>aU d.1)=(ih (R.map (·.map ao))).map aU:=by
   rw [←Bg g c,List.map_map];rfl
  rw [e] at q
  exact q
 have dl:((ih (R.map (·.map ao))).map aU).length=R.length:=by rw [List.length_map,P.length_eq,w]
 obtain ⟨y,n,s⟩:=i (dO L) ((vB p i (by lia) j).2.mem_iff.mp (.head _))
 generalize o:(ih (R.map (·.map ao))).map aU=z at a b dl
 generalize c0 gc (cz (R.map (·.map ao)) g) ax=D at b
 have f:=hZ b
 cases b with
 | nil=>exact absurd dl (by show ¬0=R.length;lia)
 | cons x k b=>
  have hx:y=x:=by
   have:=(a 0).1
   rw [s] at this
   exact this
  subst hx
  refine ⟨y,n,k,by lia,j,i,s,rfl,?_,fun t => ?_,fun t=>(a t).2.2.2.1,fun t=>(a t).2.2.2.2.2,fun t => ?_,fun t => ?_,fun t => ?_⟩
  ·rw [f,dl];lia
  ·rw [(a t).2.2.2.2.1,h]
  ·have q:=CI (vs:=fR R.length (cI L "/zz" t)) (by
    refine HK (a t).2.2.2.1 ?_
    exact (vC _ _ (by rw [(a t).2.2.2.2.1,h]) (a t).2.2.2.2.2 (a t).2.2.2.1 (by lia)).1)
   have e:=(a t).2.1
   rw [h] at e
   rw [e] at q
   exact q
  ·have e:=(a t).2.2.1
   rw [h] at e
   exact e
  ·exact CJ b (.cons _ _ .nil)
end
section
open SeqAt MeetsSeq3
section
section
variable {b c:Bool} {w:Yc} {A:Around} {h0 h:Heap} {L0:List Addr} {tk:Nat} {gs:Array GenState} {d:Drawn} {os:OsState} {E:Yd→Shared→Prop} {Q:Flow→Shared→Prop} {s:Addr×Obj}
theorem MA (a j e:Yd) (L:Yb) (o g:Addr×Obj) (R:bu) (p:af) (t:∀r∈R,b7 r) (q:6≤R.length) (k:R.length≤12) (u:Lv 10 A) (y:i0 (B0 (W b c w)) h0 L0 s gs d os Q) (z:Hp L) (C:bk L) (B:L.length=R.length) (F:(L.map sv).Perm ((R.map (·.map ao)).map aU))
  (H:bp (B0 (W b c w)) h0 L0 (pZ w a j e R p++(be (R.map (·.map ao)) (p 21))++([(p 9 0,aJ (.ref (p 10 0))),(p 10 0,ab L (p 10 1)),(p 6 0,ab (aT R (p 20)) (p 6 1)),s,o,g]++(be R (p 20)))) h):bw (B0 (W b c w)) A (execs [sS w 6,sS w 7,sS w 8,sS w 9] (bm w p)) Q E ⟨h,gs,d,tk,os⟩:=
 bp.stmtS (bG (W b c w)) (Ld b c w a j e R p t q k).exec (fun ax=>by kernel_rfl) _ (u.le (by decide)) H fun I G ax D=>by
  obtain ⟨x,n,m,f⟩:=Mz (g:=p 21) (ax:=fun i=>ax (i+3)) t q k z C B F
  exact My a j e L _ x n m _ R (nJ p ax) f t q k u y (bp.left (X:=[o,g]++(be R (p 20))) (D.go (by kernel_rfl) (Ml (gl (lB w a j e L (c0 gc (cz (R.map (·.map ao)) (p 21)) fun i=>ax (i+3)) x n m R (nJ p ax)) 0) (gl (lB w a j e L (c0 gc (cz (R.map (·.map ao)) (p 21)) fun i=>ax (i+3)) x n m R (nJ p ax)) 1) o s (gl (lB w a j e L (c0 gc (cz (R.map (·.map ao)) (p 21)) fun i=>ax (i+3)) x n m R (nJ p ax)) 4) g (p 7 0,ab (aT (R.map (·.map ao)) (p 21)) (p 7 1)) (gl (lB w a j e L (c0 gc (cz (R.map (·.map ao)) (p 21)) fun i=>ax (i+3)) x n m R (nJ p ax)) 2) (gl (lB w a j e L (c0 gc (cz (R.map (·.map ao)) (p 21)) fun i=>ax (i+3)) x n m R (nJ p ax)) 3) (be R (p 20)) (be (R.map (·.map ao)) (p 21))) (by kernel_rfl)))
theorem MB (f g:Addr×Obj) (R:bu) (p:af) (o:∀r∈R,b7 r) (n:6≤R.length) (e:R.length≤12) (i:Lv 10 A) (x:i0 (B0 (W b c w)) h0 L0 s gs d os Q)
  (H:bp (B0 (W b c w)) h0 L0 (nD w R p++((be R (p 20))++(be (R.map (·.map ao)) (p 21)))++[f,g,s]) h):bw (B0 (W b c w)) A (execs [sS w 5,sS w 6,sS w 7,sS w 8,sS w 9] (bm w p)) Q E ⟨h,gs,d,tk,os⟩:=by
 have P:=(Lc b c w R p o n e).exec
 rw [List.append_assoc] at P
 refine bp.stmtS (bG (W b c w)) P (fun a=>by kernel_rfl) _ (i.le (by decide)) H fun D C a B => ?_
 obtain ⟨t,u,m,q⟩:=Bd (f9 R (p 20) (p 21)) (tj p) a (fun j _ z=>absurd z (Nat.not_lt_zero _)) (fun v y=>by cases y) (by rw [nz];show 0+R.length≤90;lia)
 exact MA (kV 0 (fD R (p 20) (p 21) p a).k) (kV 1 (fD R (p 20) (p 21) p a).k) (kV 2 (fD R (p 20) (p 21) p a).k) (fD R (p 20) (p 21) p a).hv f g R (wL R p a) o n e i x t u (by rw [nz] at m;exact m.trans (Nat.zero_add _)) (by
  rw [Ba (fun r=>aU (r.map ao))] at q
  rw [List.map_map]
  exact q) (B.go (by kernel_rfl) (Mk (gl (pZ w (kV 0 (fD R (p 20) (p 21) p a).k) (kV 1 (fD R (p 20) (p 21) p a).k) (kV 2 (fD R (p 20) (p 21) p a).k) R (wL R p a)) 0) (p 9 0,aJ (.ref (p 10 0))) f s (p 6 0,ab (aT R (p 20)) (p 6 1)) g (gl (pZ w (kV 0 (fD R (p 20) (p 21) p a).k) (kV 1 (fD R (p 20) (p 21) p a).k) (kV 2 (fD R (p 20) (p 21) p a).k) R (wL R p a)) 1) (p 10 0,ab (fD R (p 20) (p 21) p a).hv (fD R (p 20) (p 21) p a).hn) (be R (p 20)) (be (R.map (·.map ao)) (p 21))) (by kernel_rfl))
theorem MC (f g:Addr×Obj) (R:bu) (p:af) (j:∀r∈R,b7 r) (m:6≤R.length) (e:R.length≤12) (i:Lv 10 A) (k:i0 (B0 (W b c w)) h0 L0 s gs d os Q)
  (H:bp (B0 (W b c w)) h0 L0 (Cc w p++([f,g,(p 6 0,ab (aT R (p 20)) (p 6 1)),(p 7 0,ab (aT (R.map (·.map ao)) (p 21)) (p 7 1)),s]++(be R (p 20))++(be (R.map (·.map ao)) (p 21)))) h):bw (B0 (W b c w)) A (execs [sS w 4,sS w 5,sS w 6,sS w 7,sS w 8,sS w 9] (bm w p)) Q E ⟨h,gs,d,tk,os⟩:=
 bp.stmt (bG (W b c w)) (Lb b c w p).exec (fun a=>by kernel_rfl) _ (i.le (by decide)) H fun q n a o=>
  MB f g R (tz p a) j m e i k (o.go (by kernel_rfl) (Mj (gl (nD w R (tz p a)) 0) (gl (nD w R (tz p a)) 1) f s (p 6 0,ab (aT R (p 20)) (p 6 1)) g (p 7 0,ab (aT (R.map (·.map ao)) (p 21)) (p 7 1)) (gl (nD w R (tz p a)) 2) (be R (p 20)) (be (R.map (·.map ao)) (p 21))) (by kernel_rfl))
end
end
end
section
open SeqAt MeetsSeq3
theorem MD (w:Yc):sS w 3 = .If (.Compare (d1 (bN (sS w 3))) [.NotEq] [db (bN (sS w 3))] (na (bN (sS w 3)))) (po (sS w 3)) [] (pp (sS w 3)):=by kernel_rfl
theorem ME (w:Yc):behindInMarks .NotEq (db (bN (sS w 3)))=false:=by kernel_rfl
theorem CK {δ : Type} (a : δ→Ye→Yd):∀(f:List δ) (e:Ye),(c0 a f e).length=f.length
 | [],_=>rfl
 | _::r,e=>by show (c0 a r (od e)).length+1=_;rw [CK a r];rfl
theorem CL {δ : Type} (f : δ→Ye→Yd) (g : δ→Ye→Ya):∀(m:List δ) (i:Ye) (j:Nat) (d : δ),m[j]? = some d→∃a,(c0 f m i)[j]? = some (f d a)∧∀q∈g d a,q∈fN g m i
 | e::r,i,0,d,h=>by
  obtain rfl:e=d:=Option.some.inj h
  exact ⟨ev i,rfl,fun q k=>List.mem_append_left _ k⟩
 | e::r,i,j+1,d,h=>by
  obtain ⟨a,o,n⟩:=CL f g r (od i) j d h
  exact ⟨a,o,fun q k=>List.mem_append_right _ (n q k)⟩
section
section
variable {b c:Bool} {w:Yc} {A:Around} {h0 h:Heap} {L0:List Addr} {tk:Nat} {gs:Array GenState} {d:Drawn} {os:OsState} {E:Yd→Shared→Prop} {Q:Flow→Shared→Prop} {s:Addr×Obj}
theorem MF (R:bu) (p:af) (D:∀r∈R,b7 r) (C:6≤R.length) (x:R.length≤12) (y:Lv 10 A) (K:i0 (B0 (W b c w)) h0 L0 s gs d os Q)
  (H:bp (B0 (W b c w)) h0 L0 (dV w R p++((be R (p 20))++([s]++(be (R.map (·.map ao)) (p 21))))) h):bw (B0 (W b c w)) A (execs [sS w 3,sS w 4,sS w 5,sS w 6,sS w 7,sS w 8,sS w 9] (bm w p)) Q E ⟨h,gs,d,tk,os⟩:=by
 refine bw.cons ?_
 rw [MD]
 refine bw.ifNe (ME w) ?_
 refine bp.step (bG (W b c w)) (K7 b c w R p) (fun U=>by kernel_rfl) _ (y.le (by decide)) H fun Z L P J => ?_
 have z:bp (B0 (W b c w)) h0 L0 (pX w R p++(be R (p 20))++([s]++(be (R.map (·.map ao)) (p 21)))) Z:=J.go (by kernel_rfl) (Mh (gl (dV w R p) 0) (gl (dV w R p) 1) (gl (dV w R p) 2) s (gl (dV w R p) 4) (gl (dV w R p) 3) (gl (dV w R p) 5) (be R (p 20)) (be (R.map (·.map ao)) (p 21))) (by kernel_rfl)
 refine bp.stepS (bG (W b c w)) (La b c w R p D C x) (fun U=>by kernel_rfl) _ (y.le (by decide)) z fun B Y g n => ?_
 have O:B.get? (p 7 0)=some (ab (aT (R.map (·.map ao)) (p 21)) (p 7 1)):=n.own _ (List.mem_append_left _ (List.mem_append_left _ (List.mem_append_left _ (.tail _ (.tail _ (.tail _ (.tail _ (.tail _ (.head _)))))))))
 have T:B.get? (g 0)=some (ab (c0 eQ (b9 R (p 20)) fun i=>g (i+2)) (g 1)):=n.own _ (List.mem_append_left _ (List.mem_append_right _ (.head _)))
 refine bw.neRows (a:=p 7 0) (b:=g 0) (R:=R.map (·.map ao)) (wM y) O T (ls _ _) (by rw [CK,f4,List.length_map]) (fun j r m => ?_) ⟨rfl,?_⟩
 ·obtain ⟨e,rfl,S,N,_⟩:=vE _ (p 21) j r m
  rw [List.getElem?_map] at m
  have o:=wd R (p 20) j
  match I:(b9 R (p 20))[j]?,o with
  | none,o=>rw [←o] at m;cases m
  | some d,o=>
   rw [←o] at m
   obtain ⟨k,V,G⟩:=CL eQ nw (b9 R (p 20)) (fun i=>g (i+2)) j d I
   have u:aE e.1 e.2∈[s]++(be (R.map (·.map ao)) (p 21)):=List.mem_append_right _ N
   have t:=G (k 2,nv d.1 d.2 fun i=>k (i+3)) (.head _)
   have nd:=n.nd
   rw [List.map_append,List.nodup_append] at nd
   refine ⟨_,k 2,_,_,_,_,S,V,fun q => ?_,n.own (aE e.1 e.2) (List.mem_append_right _ u),n.own _ (List.mem_append_left _ (List.mem_append_right _ (.tail _ t))),lr _ _ _,?_⟩
   ·exact nd.2.2 (k 2) (List.mem_map_of_mem (f:=Prod.fst) (List.mem_append_right _ (.tail _ t))) _ (List.mem_map_of_mem (f:=Prod.fst) u) q.symm
   ·have q:=A2 (df d.1 (fun i=>d.2 (i+1)) 0) (fun i=>k (i+3))
    rw [A3] at q
    have F:d.1.map ao=e.1:=Option.some.inj m
    rw [F] at q
    exact q
 refine ⟨wpAny_execs_nil ?_⟩
 show bw (B0 (W b c w)) A (execs [sS w 4,sS w 5,sS w 6,sS w 7,sS w 8,sS w 9] (bm w p)) Q E _
 exact MC (gl (dV w R p) 2) (gl (dV w R p) 3) R p D C x y K (bp.left (X:=[(g 0,ab (c0 eQ (b9 R (p 20)) fun i=>g (i+2)) (g 1))]++(fN nw (b9 R (p 20)) fun i=>g (i+2))) (n.go (by kernel_rfl) (Mi (gl (dV w R p) 0) (gl (dV w R p) 1) (gl (dV w R p) 2) s (gl (dV w R p) 4) (gl (dV w R p) 3) (gl (dV w R p) 5) (g 0,ab (c0 eQ (b9 R (p 20)) fun i=>g (i+2)) (g 1)) (be R (p 20)) (be (R.map (·.map ao)) (p 21)) (fN nw (b9 R (p 20)) fun i=>g (i+2))) (by kernel_rfl)))
theorem MG (R:bu) (p:af) (g:∀r∈R,b7 r) (j:6≤R.length) (e:R.length≤12) (f:Lv 10 A) (i:i0 (B0 (W b c w)) h0 L0 s gs d os Q)
  (H:bp (B0 (W b c w)) h0 L0 (pV w p++([(p 6 0,ab (aT R (p 20)) (p 6 1)),(p 7 0,ab (aT (R.map (·.map ao)) (p 21)) (p 7 1)),s]++(be R (p 20))++(be (R.map (·.map ao)) (p 21)))) h):bw (B0 (W b c w)) A (execs [sS w 2,sS w 3,sS w 4,sS w 5,sS w 6,sS w 7,sS w 8,sS w 9] (bm w p)) Q E ⟨h,gs,d,tk,os⟩:=
 bp.stmt (bG (W b c w)) (K6 b c w p).exec (fun a=>by kernel_rfl) _ (f.le (by decide)) H fun n k a m=>
  MF R (p8 p a) g j e f i (m.go (by kernel_rfl) (Mg (gl (dV w R (p8 p a)) 0) (gl (dV w R (p8 p a)) 1) (gl (dV w R (p8 p a)) 2) s (p 6 0,ab (aT R (p 20)) (p 6 1)) (gl (dV w R (p8 p a)) 3) (p 7 0,ab (aT (R.map (·.map ao)) (p 21)) (p 7 1)) (be R (p 20)) (be (R.map (·.map ao)) (p 21))) (by kernel_rfl))
theorem MH (R:bu) (p:af) (f:∀r∈R,b7 r) (g:6≤R.length) (e:R.length≤12) (j:Lv 10 A) (k:i0 (B0 (W b c w)) h0 L0 s gs d os Q)
  (H:bp (B0 (W b c w)) h0 L0 (jH w R p++(be R (p 20))++[s]) h):bw (B0 (W b c w)) A (execs [sS w 1,sS w 2,sS w 3,sS w 4,sS w 5,sS w 6,sS w 7,sS w 8,sS w 9] (bm w p)) Q E ⟨h,gs,d,tk,os⟩:=
 bp.stmtS (bG (W b c w)) (K5 b c w R p f g e).exec (fun a=>by kernel_rfl) _ (j.le (by decide)) H fun o m a n=>
  MG R (ty p a) f g e j k (n.go (by kernel_rfl) (Mf (gl (pV w (ty p a)) 0) (gl (pV w (ty p a)) 1) (gl (pV w (ty p a)) 2) s (p 6 0,ab (aT R (p 20)) (p 6 1)) (a 0,ab (aT (R.map (·.map ao)) fun i=>a (i+3)) (a 2)) (be R (p 20)) (be (R.map (·.map ao)) fun i=>a (i+3))) (by kernel_rfl))
theorem MI (a:List c7):∀r∈eU a,b7 r:=fun r h=>by
 obtain ⟨x,_,rfl⟩:=List.mem_map.mp h
 unfold fK
 split
 ·exact .inl ⟨_,u0 _,rfl⟩
 ·exact .inr ⟨_,u0 _,_,u0 _,rfl⟩
theorem MJ (a:List c7) (p:af) (j:a.length≤63) (f:Lv 10 A) (g:i0 (B0 (W b c w)) h0 L0 (p 16 0,ab (a.map cx) (p 16 1)) gs d os Q)
  (H:bp (B0 (W b c w)) h0 L0 (kE w a p) h):bw (B0 (W b c w)) A (execs [sS w 0,sS w 1,sS w 2,sS w 3,sS w 4,sS w 5,sS w 6,sS w 7,sS w 8,sS w 9] (bm w p)) Q E ⟨h,gs,d,tk,os⟩:=
 bp.stmt (bG (W b c w)) (K2 b c w a p j).exec (fun e=>by kernel_rfl) [] (f.le (by decide)) (by rw [List.append_nil];exact H) fun n k e m=>
  MH (eU a) (p6 p e) (MI a) (we a).1 (we a).2 f g (m.go (by kernel_rfl) (Me (gl (jH w (eU a) (p6 p e)) 0) (gl (jH w (eU a) (p6 p e)) 1) (gl (jH w (eU a) (p6 p e)) 2) (p 16 0,ab (a.map cx) (p 16 1)) (gl (jH w (eU a) (p6 p e)) 3) (be (eU a) fun i=>e (i+3))) (by kernel_rfl))
end
end
end
section
def CM (w:Yc) (a:Yb) (p:af):Code:=.call (.ref 291) ⟨[.ref (p 16 0)],[]⟩
def wN (w:Yc) (a:Yb) (p:af):Ya:=[(p 16 0,ab a (p 16 1))]
theorem MK (b c:Bool) (w:Yc) (d:Yb) (p:af):aL (B0 (W b c w)) 6 (CM w d p) (wN w d p) (fun a=>(.error (.func (iP (ig w)) (m9 (de w) (a 0) [a 2,a 1])),[ab d (p 16 1)],[(a 0,aG w [("script",a 3,.ref (p 16 0))] 1),(a 1,dc),(a 2,dc)])):=
 aA (orcs:=[]) aq 13 0 [0,0,2,1,0,1] [0,1,2,3] (fun n e f=>aB [n+0,n+1,n+2,e+0])
end
section
open SeqAt MeetsSeq3
theorem bw.func {w:Yc} {e:Program} {A:Around} {a:List Stmt} {b:Env} {R:Result→Shared→Prop} {s:Shared} {v:Yd} {B:bf} (c:B.M=model e w)
  (h:∀E,bw B (A.under (.func a b)) (execs a b) (fun f d=>f = .ret v∧R (.ok (.ret v)) d) E s):codeAny B.M A (.func a b) R s:=by
 refine codeAny_of_tree ?_
 rw [c]
 show wpAny _ _ (denote table (.func a b)) _ _ _
 unfold denote
 refine wpAny_bind (wpAny_point (wpAny_bind (wpAny_onRaise ?_)))
 refine wpAny_mono (c▸(h _).go) (fun f d q => ?_) fun _ _ q=>q
 obtain ⟨rfl,q⟩:=q
 exact wpAny_pure q
def tA (p:af) (a:Ye):af:=fun j i=>match j,i with | 8,0=>a 0 | 8,1=>1 | 8,2=>a 3 | 9,0=>a 2 | 13,0=>a 1 | j,i=>p j i
section
theorem ML (w:Yc):iP (ig w)=[sS w 0,sS w 1,sS w 2,sS w 3,sS w 4,sS w 5,sS w 6,sS w 7,sS w 8,sS w 9]:=by kernel_rfl
theorem MM (a b c s:Addr×Obj):[s,a,c,b].Perm [a,b,c,s]:=ge fun f=>by simp only [List.map_cons,List.map_nil,List.sum_cons,List.sum_nil];lia
theorem MN (b c:Bool) (w:Yc) (i:List c7) (L:i.length≤63) (p:af):aC (B0 (W b c w)) 11 (CM w (i.map cx) p) (wN w (i.map cx) p) fun _=>(.ret (.bool true),[ab (i.map cx) (p 16 1)],[]):=by
 intro A D h J F d G R nd y t S
 refine MK b c w (i.map cx) p A (D.le (by decide)) h J F d G R nd y t fun m u f le I Q B C => ?_
 show codeAny (B0 (W b c w)).M A (.func (iP (ig w)) (m9 (de w) (f 0) [f 2,f 1])) R ⟨m,F,d,u,G⟩
 rw [ML]
 have O:=bG (W b c w)
 have lo:∀a∈(wN w (i.map cx) p).map (·.1),(B0 (W b c w)).lo≤a:=fun a B=>by
  obtain ⟨q,g,rfl⟩:=List.mem_map.mp B
  exact (y q g).2
 have o:p 16 0<h.objs.size:=ij (y _ (.head _)).1
 have P:m.get? (p 16 0)=some (ab (i.map cx) (p 16 1)):=Q (p 16 0,ab (i.map cx) (p 16 1)) (.head _)
 have j:∀q∈[(f 0,aG w [("script",f 3,.ref (p 16 0))] 1),(f 1,dc),(f 2,dc)],m.get? q.1=some q.2∧h.objs.size≤q.1:=B
 have k:(([(f 0,aG w [("script",f 3,.ref (p 16 0))] 1),(f 1,dc),(f 2,dc)]:Ya).map (·.1)).Nodup:=C
 have H:bp (B0 (W b c w)) h [p 16 0] ((p 16 0,ab (i.map cx) (p 16 1))::[(f 0,aG w [("script",f 3,.ref (p 16 0))] 1),(f 1,dc),(f 2,dc)]) m:=by
  refine ⟨?_,fun q g => ?_,fun q g => ?_,mR O t le lo I,I,le,fun q g => ?_⟩
  ·rw [List.map_cons,List.nodup_cons]
   refine ⟨fun K => ?_,k⟩
   obtain ⟨q,g,e⟩:=List.mem_map.mp K
   have:=(j q g).2
   rw [e] at this
   exact absurd o (Nat.not_lt.mpr this)
  ·rcases List.mem_cons.mp g with rfl | g
   ·exact P
   ·exact (j q g).1
  ·rcases List.mem_cons.mp g with rfl | g
   ·exact lo _ (.head _)
   ·exact Nat.le_trans t.2 (j q g).2
  ·rcases List.mem_cons.mp g with rfl | g
   ·exact .inl (.head _)
   ·exact .inr (j q g).2
 refine bw.func (v:=.bool true) rfl fun E => ?_
 refine MJ i (tA p f) L (D.under (gQ fun id a e=>by cases e)) (fun N z X s=>⟨rfl,?_⟩) (H.go rfl (MM (gl (kE w i (tA p f)) 0) (gl (kE w i (tA p f)) 1) (gl (kE w i (tA p f)) 2) (p 16 0,ab (i.map cx) (p 16 1))) (by kernel_rfl))
 refine S N z id s.size s.keep (fun x hx => ?_) (fun q g=>by cases g) List.nodup_nil
 have e:x=(p 16 0,ab (i.map cx) (p 16 1)):=by
  have n:x∈[(p 16 0,ab (i.map cx) (p 16 1))]:=hx
  exact List.mem_singleton.mp n
 subst e
 exact s.own _ (.head _)
end
end
def hH (w:Yc):Heap:=absHeap (ji w.params) 292 {}
def CN (v:Option Obj) (x:Obj):Option Obj:=match v with | some _=>alive x | none=>none
def kH:KT→BT→KT
 | .nil,_=>.nil
 | .node _ _ _,.nil=>.nil
 | .node v l r,.node x a b=>.node (CN v x) (kH l a) (kH r b)
theorem wO:∀(k:KT) (t:BT) (j:Nat) (o:Obj),(kH k t).get j=some o→∃x,t.get j=some x∧alive x=some o
 | .nil,_,_,_,e=>by simp [kH,KT.get] at e
 | .node _ _ _,.nil,_,_,e=>by simp [kH,KT.get] at e
 | .node v l r,.node x a d,j,o,e=>by
  change (KT.node (CN v x) (kH l a) (kH r d)).get j=some o at e
  unfold KT.get at e
  unfold BT.get
  cases c:Nat.beq j 0 with
  | true=>
   rw [c] at e
   cases v with
   | none=>cases e
   | some _=>exact ⟨x,rfl,e⟩
  | false=>
   rw [c] at e
   cases b:Nat.beq (j % 2) 1 with
   | true=>rw [b] at e;exact wO l a _ o e
   | false=>rw [b] at e;exact wO r d _ o e
theorem MO (P:Params):kH (o6 P) (ji P)=o6 P:=by kernel_rfl
theorem MP (w:Yc) (b:Nat) (o:Obj) (e:(B0 w).kt.get b=some o):(hH w).get? b=some o:=by
 have l:b<292:=(bG w).kt b o e
 have a:(o6 w.params).get b=some o:=e
 rw [←MO] at a
 obtain ⟨x,z,y⟩:=wO _ _ _ _ a
 exact (abs_get l z).trans y
theorem MQ:Lv 11 callerA:=⟨rfl,by decide +kernel,by decide +kernel⟩
def MR (x:Addr):af:=fun i j=>match i,j with | 16,0=>x | _,_=>0
theorem MS (w:Yc) (a:Shared) (c:List c7) (q:c.length≤63) (x:Addr) (hx:a.heap.get? x=some (ab (c.map cx) 0)) (lo:292≤x) (s:(B0 w).In a.heap) (Q:Yd→Shared→Prop) (E:Yd→Shared→Prop)
  (k:∀f:Shared,(∀b o,a.heap.get? b=some o→f.heap.get? b=some o)→f.os=a.os→f.gens=a.gens→Q (.bool true) f):wpAny (B0 w).M callerA (PySem.call (.ref 291) [.ref x]) Q E a:=by
 refine wpAny_call ?_
 have D:=MN (w.params.followText "special-get-raises") (w.params.followText "comprehension-iter-twice") w c q (MR x)
 rw [DY] at D
 obtain ⟨h,t,d,m,u⟩:=a
 refine D callerA MQ h m t d u _ (by exact List.nodup_cons.mpr ⟨List.not_mem_nil,List.nodup_nil⟩) (fun p j => ?_) s fun B A C le y j F nd => ?_
 ·have e:p=(x,ab (c.map cx) 0):=List.mem_singleton.mp j
  subst e
  exact ⟨hx,lo⟩
 ·refine k _ (fun b o i => ?_) rfl rfl
  by_cases e:b=x
  ·subst e
   have z:=j (b,ab (c.map cx) 0) (.head _)
   have g:h.get? b=some (ab (c.map cx) 0):=hx
   rw [g] at i
   cases i
   exact z
  ·refine y b o i fun n=>e ?_
   have:b∈[x]:=n
   exact List.mem_singleton.mp this
def tB (c:Code→Sem Fin) (p:Program) (w:Yc) (a:Nat) (d:Option Yd) (b:Nat):Nat→SharedT→Thread→Option (SharedT×Thread)
 | 0,s,t=>some (s,t)
 | n+1,s,t=>match endAt b t with
  | some _=>none
  | none=>match stepOk a d t with
   | false=>none
   | true=>match stepT c p w s t with
    | some (e,f)=>tB c p w a d b n e f
    | none=>none
def dW (c:Code→Sem Fin) (p:Program) (w:Yc) (a:Nat) (d:Option Yd) (b:Nat):Nat→SharedT→Thread→Option (Flow×SharedT×Code×Pos)
 | 0,_,_=>none
 | n+1,s,t=>match endAt b t with
  | some f=>some (f,s,t.code,t.pos)
  | none=>match stepOk a d t with
   | false=>none
   | true=>match stepT c p w s t with
    | some (e,g)=>dW c p w a d b n e g
    | none=>none
theorem CO (d:String→Option Builtin) (p:Program) (w:Yc) (a:Nat) (c:Option Yd) (b:Nat):∀(n:Nat) (s:SharedT) (t:Thread),segGoT d p w a c b n s t=tB (denote d) p w a c b n s t
 | 0,_,_=>rfl
 | n+1,s,t=>by unfold segGoT tB;simp only [CO d p w a c b n];rfl
theorem wP (d:String→Option Builtin) (p:Program) (w:Yc) (a:Nat) (c:Option Yd) (b:Nat):∀(n:Nat) (s:SharedT) (t:Thread),segRunT d p w a c b n s t=dW (denote d) p w a c b n s t
 | 0,_,_=>rfl
 | n+1,s,t=>by unfold segRunT dW;simp only [wP d p w a c b n];rfl
def dG (w:Yc) (k:Nat) (s:SharedT) (t:Thread):Option (SharedT×Thread):=tB dr pw w 28 (some (.ref 6)) 1 k s t
def dn (l:List Stmt) (p:Pos):Thread:=⟨(PySem.W.Fast.tw12563942051412417395 l iI).wrap doneF deadEnd id id,cd,p,[topFrame ⟨0,0,0,0⟩]⟩
def Wi (w:Yc) (c:Bool):Yc:=w.withFollow "comprehension-iter-twice" c
def Wg (w:Yc) (b:Bool):Yc:=w.withFollow "special-get-raises" b
def wQ:Option (SharedT×Thread)→Thread
 | some (_,t)=>t
 | none=>⟨.unsupported "",cd,⟨0,0,0,0⟩,[]⟩
theorem tC (l:List Stmt) (p:Pos):dn l p=piecesOf l iI cd p [topFrame ⟨0,0,0,0⟩]:=by
 unfold dn
 rw [←PySem.W.Fast.te12563942051412417395]
theorem jM {w:Yc} {k:Nat} {s a:SharedT} {l:List Stmt} {p b:Pos} (h:dW dr pw w 28 (some (.ref 6)) 1 k s (dn l p)=some (.next,a,cd,b)):segRun treeTable pw w 28 (some (.ref 6)) 1 k s.abs (piecesOf l iI cd p [topFrame ⟨0,0,0,0⟩])=some (.next,a.abs,cd,b):=by
 rw [ss,table_eq_tree,←wP,tC] at h
 exact segRun_of h
theorem kI {w:Yc} {k:Nat} {s a:SharedT} {t:Thread} {b:Pos} (h:dW dr pw w 28 (some (.ref 6)) 1 k s t=some (.next,a,cd,b)):segRun treeTable pw w 28 (some (.ref 6)) 1 k s.abs t=some (.next,a.abs,cd,b):=by
 rw [ss,table_eq_tree,←wP] at h
 exact segRun_of h
theorem dX {w:Yc} {k:Nat} {s a:SharedT} {t b:Thread} (h:dG w k s t=some (a,b)):segGo treeTable pw w 28 (some (.ref 6)) 1 k s.abs t=some (a.abs,b):=by
 unfold dG at h
 rw [ss,table_eq_tree,←CO] at h
 exact segGo_of h
theorem MT (w:Yc) (a:OsState):dW dr pw w 28 (some (.ref 6)) 1 117 (hT (o0 w.params) 32 282 a) (dn (hP 0 3) (Pos.mk 0 0 0 0))=some (.next,(hT (lb w.params) 44 326 a),cd,Pos.mk 6 0 6 2):=by kernel_rfl
theorem MU (w:Yc) (a:OsState):dW dr pw w 28 (some (.ref 6)) 1 133 (hT (sp w.params) 50 1354 a) (dn (hP 4 8) (Pos.mk 7 0 7 11))=some (.next,(hT (o4 w.params) 54 1371 a),cd,Pos.mk 15 0 15 8):=by kernel_rfl
theorem MV (w:Yc) (a:OsState):dW dr pw w 28 (some (.ref 6)) 1 25 (hT (sq w.params) 57 1579 a) (dn (hP 13 1) (Pos.mk 16 9 16 74))=some (.next,(hT (o5 w.params) 57 1582 a),cd,Pos.mk 18 0 18 28):=by kernel_rfl
theorem MW (w:Yc) (a:OsState):dW dr pw (Wg w false) 28 (some (.ref 6)) 1 306 (hT (mQ w.params) 60 1868 a) (dn (hP 15 8) (Pos.mk 19 9 19 110))=some (.next,(hT (sr w.params) 101 1918 a),cd,Pos.mk 62 0 64 44):=by kernel_rfl
theorem MX (w:Yc) (a:OsState):dW dr pw (Wg w true) 28 (some (.ref 6)) 1 306 (hT (mQ w.params) 60 1868 a) (dn (hP 15 8) (Pos.mk 19 9 19 110))=some (.next,(hT (sr w.params) 101 1918 a),cd,Pos.mk 62 0 64 44):=by kernel_rfl
theorem MY (w:Yc) (a:OsState):dW dr pw w 28 (some (.ref 6)) 1 220 (hT (sr w.params) 101 1918 a) (dn (hP 23 9) (Pos.mk 62 0 64 44))=some (.next,(hT (yX w.params) 143 1984 a),cd,Pos.mk 113 0 113 8):=by kernel_rfl
theorem MZ (w:Yc) (a:OsState):dW dr pw w 28 (some (.ref 6)) 1 528 (hT (yX w.params) 143 1984 a) (dn (hP 32 3) (Pos.mk 113 0 113 8))=some (.next,(hT (yY w.params) 195 2051 a),cd,Pos.mk 119 0 133 16):=by kernel_rfl
theorem M0 (w:Yc) (a:OsState):dW dr pw w 28 (some (.ref 6)) 1 217 (hT (yY w.params) 195 2051 a) (dn (hP 35 9) (Pos.mk 119 0 133 16))=some (.next,(hT (yZ w.params) 237 2114 a),cd,Pos.mk 189 0 196 23):=by kernel_rfl
theorem M1 (w:Yc) (a:OsState):dW dr pw w 28 (some (.ref 6)) 1 274 (hT (yZ w.params) 237 2114 a) (dn (hP 44 10) (Pos.mk 189 0 196 23))=some (.next,(hT (ji w.params) 292 2190 a),cd,Pos.mk 289 0 314 15):=by kernel_rfl
def CP (P:Params) (x t:Nat) (o:Obj):Obj:={o with data:=match o.data with | .dict b n=>.dict (b.toList.dropLast++[ag P gp 1379 (ah x t)]).toArray n | d=>d}
def CQ:Yh→Nat→Yb→Yb
 | [],_,l=>l
 | b::r,t,l=>CQ r (t+3) (l.set b (ad ⟨#[b]⟩ t))
def CR (bs:Yh) (t:Nat) (o:Obj):Obj:={o with data:=match o.data with | .seq a n=>.seq (CQ bs t a.toList).toArray n | d=>d}
def CS (i:Nat) (o:Obj):Obj:={o with data:=match o.data with | .fields a=>.fields (a.toList.take 1++[ah i 0]).toArray | d=>d}
def CT:Yh:=[45,33,42,43,47,97,98,99,100,101,102,103,104,105,106,107,108,109,110,111,112,113,114,115,116,117,118,119,120,121,122,65,66,67,68,69,70,71,72,73,74,75,76,77,78,79,80,81,82,83,84,85,86,87,88,89,90,48,49,50,51,52,53,54,55,56,57]
def CU:Yh:=[32,33,34,35,36,37,38,39,40,41,42,43,44,45,46,47,48,49,50,51,52,53,54,55,56,57,58,59,60,62,63,64,65,66,67,68,69,70,71,72,73,74,75,76,77,78,79,80,81,82,83,84,85,86,87,88,89,90,91,92,93,94,95,96,97,98,99,100,101,102,103,104,105,106,107,108,109,110,111,112,113,114,115,116,117,118,119,120,121,122,123,124,125,126,9]
def kJ (w:Yc) (a:OsState) (i:Nat):SharedT:=hT ((((DT w.params).set 3 (CP w.params (CT.getD i 0) (1378+3*i))).set 51 (CR (CT.take (i+1)) 1380)).set 54 (CS (i+1))) 55 (1381+3*i) a
def kK (w:Yc) (a:OsState):Thread:=wQ (dG (Wg w false) 134 (hT (o4 w.params) 54 1371 a) (dn (hP 12 1) (Pos.mk 15 0 15 8)))
theorem M2 (w:Yc) (a:OsState):dG (Wg w false) 134 (hT (o4 w.params) 54 1371 a) (dn (hP 12 1) (Pos.mk 15 0 15 8))=some (kJ w a 1,kK w a):=by kernel_rfl
theorem M3 (w:Yc) (a:OsState):dG (Wg w false) (45*65) (kJ w a 1) (kK w a)=some (kJ w a 66,kK w a):=by kernel_rfl
theorem M4 (w:Yc) (a:OsState):dW dr pw (Wg w false) 28 (some (.ref 6)) 1 18 (kJ w a 66) (kK w a)=some (.next,hT (sq w.params) 57 1579 a,cd,Pos.mk 16 9 16 74):=by kernel_rfl
theorem M5 (w:Yc) (a:OsState):dG (Wg w true) 134 (hT (o4 w.params) 54 1371 a) (dn (hP 12 1) (Pos.mk 15 0 15 8))=some (kJ w a 1,kK w a):=by kernel_rfl
theorem M6 (w:Yc) (a:OsState):dG (Wg w true) (45*65) (kJ w a 1) (kK w a)=some (kJ w a 66,kK w a):=by kernel_rfl
theorem M7 (w:Yc) (a:OsState):dW dr pw (Wg w true) 28 (some (.ref 6)) 1 18 (kJ w a 66) (kK w a)=some (.next,hT (sq w.params) 57 1579 a,cd,Pos.mk 16 9 16 74):=by kernel_rfl
def kL (w:Yc) (a:OsState) (i:Nat):SharedT:=hT ((((DU w.params).set 3 (CP w.params (CU.getD i 0) (1583+3*i))).set 53 (CR (CU.take (i+1)) 1585)).set 57 (CS (i+1))) 58 (1586+3*i) a
def kM (w:Yc) (a:OsState):Thread:=wQ (dG (Wg w false) 100 (hT (o5 w.params) 57 1582 a) (dn (hP 14 1) (Pos.mk 18 0 18 28)))
theorem M8 (w:Yc) (a:OsState):dG (Wg w false) 100 (hT (o5 w.params) 57 1582 a) (dn (hP 14 1) (Pos.mk 18 0 18 28))=some (kL w a 1,kM w a):=by kernel_rfl
theorem M9 (w:Yc) (a:OsState):dG (Wg w false) (45*93) (kL w a 1) (kM w a)=some (kL w a 94,kM w a):=by kernel_rfl
theorem Na (w:Yc) (a:OsState):dW dr pw (Wg w false) 28 (some (.ref 6)) 1 18 (kL w a 94) (kM w a)=some (.next,hT (mQ w.params) 60 1868 a,cd,Pos.mk 19 9 19 110):=by kernel_rfl
theorem Nb (w:Yc) (a:OsState):dG (Wg w true) 100 (hT (o5 w.params) 57 1582 a) (dn (hP 14 1) (Pos.mk 18 0 18 28))=some (kL w a 1,kM w a):=by kernel_rfl
theorem Nc (w:Yc) (a:OsState):dG (Wg w true) (45*93) (kL w a 1) (kM w a)=some (kL w a 94,kM w a):=by kernel_rfl
theorem Nd (w:Yc) (a:OsState):dW dr pw (Wg w true) 28 (some (.ref 6)) 1 18 (kL w a 94) (kM w a)=some (.next,hT (mQ w.params) 60 1868 a,cd,Pos.mk 19 9 19 110):=by kernel_rfl
theorem Nf (w:Yc):((absHeap (iH w.params) 28 {}).isNs mainGlobals&&(#[]:Array GenState).size==0,(absHeap (iH w.params) 28 {}).objs.size,(absHeap (iH w.params) 28 {}).nsMap mainGlobals "__annotations__")=(true,28,some (.ref 6)):=by kernel_rfl
theorem qa (w:Yc) (a:OsState):topGo treeTable pw w 28 (some (.ref 6)) 12 (hT (iH w.params) 28 276 a).abs (topStub pw)=some ((hT (o0 w.params) 32 282 a).abs,⟨denote treeTable cd,cd,⟨0,0,0,0⟩,[topFrame ⟨0,0,0,0⟩]⟩):=by kernel_rfl
theorem Ng (w:Yc) (a:OsState):segRun treeTable pw w 28 (some (.ref 6)) 1 1 (hT (o0 w.params) 32 282 a).abs (blockOf (behindTheImports pw) iI cd ⟨0,0,0,0⟩ [topFrame ⟨0,0,0,0⟩])=some (.next,(hT (o0 w.params) 32 282 a).abs,cd,⟨0,0,0,0⟩):=by kernel_rfl
theorem Nh (w:Yc) (a:OsState):topRun treeTable pw w 28 (some (.ref 6)) 2 (hT (ji w.params) 292 2190 a).abs ⟨doneF .next,cd,⟨289,0,314,15⟩,[topFrame ⟨0,0,0,0⟩]⟩=some (hT (ji w.params) 292 2190 a).abs:=by kernel_rfl
theorem tD (w:Yc):Wg w false=w∨Wg w true=w:=by
 have e:=World.withFollow_self w "special-get-raises"
 cases a:w.params.followText "special-get-raises" <;> rw [a] at e
 ·exact .inl e
 ·exact .inr e
theorem Ni (w:Yc):Wi w false=w∨Wi w true=w:=by
 have e:=World.withFollow_self w "comprehension-iter-twice"
 cases a:w.params.followText "comprehension-iter-twice" <;> rw [a] at e
 ·exact .inl e
 ·exact .inr e
theorem Nj (w:Yc) (a:OsState):segRun treeTable pw w 28 (some (.ref 6)) 1 (134+(45*65+18)) (hT (o4 w.params) 54 1371 a).abs (piecesOf (hP 12 1) iI cd ⟨15,0,15,8⟩ [topFrame ⟨0,0,0,0⟩])=some (.next,(hT (sq w.params) 57 1579 a).abs,cd,⟨16,9,16,74⟩):=by
 rw [←tC]
 rcases tD w with e | e
 ·have d:=M2 w a;have b:=M3 w a;have c:=M4 w a
  rw [e] at d b c
  exact seg_go (dX d) (seg_go (dX b) (kI c))
 ·have d:=M5 w a;have b:=M6 w a;have c:=M7 w a
  rw [e] at d b c
  exact seg_go (dX d) (seg_go (dX b) (kI c))
theorem Nk (w:Yc) (a:OsState):segRun treeTable pw w 28 (some (.ref 6)) 1 (100+(45*93+18)) (hT (o5 w.params) 57 1582 a).abs (piecesOf (hP 14 1) iI cd ⟨18,0,18,28⟩ [topFrame ⟨0,0,0,0⟩])=some (.next,(hT (mQ w.params) 60 1868 a).abs,cd,⟨19,9,19,110⟩):=by
 rw [←tC]
 rcases tD w with e | e
 ·have d:=M8 w a;have b:=M9 w a;have c:=Na w a
  rw [e] at d b c
  exact seg_go (dX d) (seg_go (dX b) (kI c))
 ·have d:=Nb w a;have b:=Nc w a;have c:=Nd w a
  rw [e] at d b c
  exact seg_go (dX d) (seg_go (dX b) (kI c))
def hx (P:Params):Yb:=match (f1 P).data with | Data.seq a _=>a.toList | _=>[]
def s3 (w:Yc) (a:OsState) (i:Nat):SharedT:=hT ((((DS w.params).set 45 fun _=>ay "range_iterator" (.fields #[ah i 0,ah (256-i) 0,ah 1 0])).set 46 fun _=>ay "list" (.seq ((hx w.params).take i).toArray i)).set 47 fun _=>ay "dict" (.dict #[ag w.params gp 330 (ah (i-1:Nat) (325+4*i))] 1)) 48 (329+4*i) a
def t3 (w:Yc) (a:OsState):Thread:=wQ (dG (Wg (Wi w false) false) 89 (hT (lb w.params) 44 326 a) (dn (hP 3 1) ⟨6,0,6,2⟩))
theorem Nl (w:Yc) (a:OsState):dG (Wg (Wi w false) false) 89 (hT (lb w.params) 44 326 a) (dn (hP 3 1) ⟨6,0,6,2⟩)=some (s3 w a 1,t3 w a):=by kernel_rfl
theorem Nm (w:Yc) (a:OsState):dG (Wg (Wi w true) false) 79 (hT (lb w.params) 44 326 a) (dn (hP 3 1) ⟨6,0,6,2⟩)=some (s3 w a 1,t3 w a):=by kernel_rfl
theorem CV (w:Yc) (a:OsState):dG (Wg w false) (37*128) (s3 w a 1) (t3 w a)=some (s3 w a 129,t3 w a):=by kernel_rfl
theorem CW (w:Yc) (a:OsState):dG (Wg w false) (37*127) (s3 w a 129) (t3 w a)=some (s3 w a 256,t3 w a):=by kernel_rfl
theorem CX (w:Yc) (a:OsState):dW dr pw (Wg w false) 28 (some (.ref 6)) 1 28 (s3 w a 256) (t3 w a)=some (.next,hT (sp w.params) 50 1354 a,cd,⟨7,0,7,11⟩):=by kernel_rfl
theorem Nn (w:Yc) (a:OsState):dG (Wg (Wi w false) true) 89 (hT (lb w.params) 44 326 a) (dn (hP 3 1) ⟨6,0,6,2⟩)=some (s3 w a 1,t3 w a):=by kernel_rfl
theorem No (w:Yc) (a:OsState):dG (Wg (Wi w true) true) 79 (hT (lb w.params) 44 326 a) (dn (hP 3 1) ⟨6,0,6,2⟩)=some (s3 w a 1,t3 w a):=by kernel_rfl
theorem CY (w:Yc) (a:OsState):dG (Wg w true) (37*128) (s3 w a 1) (t3 w a)=some (s3 w a 129,t3 w a):=by kernel_rfl
theorem CZ (w:Yc) (a:OsState):dG (Wg w true) (37*127) (s3 w a 129) (t3 w a)=some (s3 w a 256,t3 w a):=by kernel_rfl
theorem C0 (w:Yc) (a:OsState):dW dr pw (Wg w true) 28 (some (.ref 6)) 1 28 (s3 w a 256) (t3 w a)=some (.next,hT (sp w.params) 50 1354 a,cd,⟨7,0,7,11⟩):=by kernel_rfl
theorem l3 (w:Yc) (a:OsState):∃x,x≤89∧segRun treeTable pw w 28 (some (.ref 6)) 1 (x+(37*128+(37*127+28))) (hT (lb w.params) 44 326 a).abs (piecesOf (hP 3 1) iI cd ⟨6,0,6,2⟩ [topFrame ⟨0,0,0,0⟩])=some (.next,(hT (sp w.params) 50 1354 a).abs,cd,⟨7,0,7,11⟩):=by
 rw [←tC]
 rcases tD w with e | e <;> rcases Ni w with i | i
 ·have f:=Nl w a;have c:=CV w a;have d:=CW w a;have b:=CX w a
  rw [i,e] at f
  rw [e] at c d b
  exact ⟨89,by decide,seg_go (dX f) (seg_go (dX c) (seg_go (dX d) (kI b)))⟩
 ·have f:=Nm w a;have c:=CV w a;have d:=CW w a;have b:=CX w a
  rw [i,e] at f
  rw [e] at c d b
  exact ⟨79,by decide,seg_go (dX f) (seg_go (dX c) (seg_go (dX d) (kI b)))⟩
 ·have f:=Nn w a;have c:=CY w a;have d:=CZ w a;have b:=C0 w a
  rw [i,e] at f
  rw [e] at c d b
  exact ⟨89,by decide,seg_go (dX f) (seg_go (dX c) (seg_go (dX d) (kI b)))⟩
 ·have f:=No w a;have c:=CY w a;have d:=CZ w a;have b:=C0 w a
  rw [i,e] at f
  rw [e] at c d b
  exact ⟨79,by decide,seg_go (dX f) (seg_go (dX c) (seg_go (dX d) (kI b)))⟩
theorem Np:behindTheImports pw=hP 0 3++(hP 3 1++(hP 4 8++(hP 12 1++(hP 13 1++(hP 14 1++(hP 15 8++(hP 23 9++(hP 32 3++(hP 35 9++(hP 44 10++[])))))))))):=by kernel_rfl
theorem Nq (w:Yc) (a:OsState):segRun treeTable pw w 28 (some (.ref 6)) 1 306 (hT (mQ w.params) 60 1868 a).abs (piecesOf (hP 15 8) iI cd ⟨19,9,19,110⟩ [topFrame ⟨0,0,0,0⟩])=some (.next,(hT (sr w.params) 101 1918 a).abs,cd,⟨62,0,64,44⟩):=by
 rcases tD w with e | e
 ·have h:=MW w a;rw [e] at h;exact jM h
 ·have h:=MX w a;rw [e] at h;exact jM h
theorem Nr (w:Yc) (a:OsState):∃M,M≤29000∧topRun treeTable pw w 28 (some (.ref 6)) M (hT (o0 w.params) 32 282 a).abs (PySem.W.restOf (behindTheImports pw) iI cd ⟨0,0,0,0⟩ [topFrame ⟨0,0,0,0⟩])=some (hT (ji w.params) 292 2190 a).abs:=by
 obtain ⟨x,hx,b⟩:=l3 w a
 rw [Np]
 refine ⟨_,?_,piece_app (jM (MT w a)) (piece_app b (piece_app (jM (MU w a)) (piece_app (Nj w a) (piece_app (jM (MV w a)) (piece_app (Nk w a) (piece_app (Nq w a) (piece_app (jM (MY w a)) (piece_app (jM (MZ w a)) (piece_app (jM (M0 w a)) (piece_app (jM (M1 w a)) (piece_nil (Nh w a))))))))))))⟩
 lia
theorem Nt (w:Yc) (a:OsState):∃M,M≤29100∧topRun treeTable pw w 28 (some (.ref 6)) M (hT (iH w.params) 28 276 a).abs (topStub pw)=some (hT (ji w.params) 292 2190 a).abs:=by
 obtain ⟨M,b,h⟩:=Nr w a
 refine ⟨_,?_,go_top (qa w a) (piece_block (Ng w a) h)⟩
 lia
theorem Nu (w:Yc):(fencedOpening treeTable pw w 30000).map (fun s=>(s.heap,s.gens,s.drawn,s.toks))=some (absHeap (iH w.params) 28 {},#[],⟨0,0,0,0⟩,276):=by kernel_rfl
theorem Nv (w:Yc) (a:OsState):topRun treeTable pw w 28 (some (.ref 6)) 30000 ⟨absHeap (iH w.params) 28 {},#[],⟨0,0,0,0⟩,276,a⟩ (topStub pw)=some ⟨absHeap (ji w.params) 292 {},#[],⟨0,0,0,0⟩,2190,a⟩:=by
 obtain ⟨M,b,h⟩:=Nt w a
 have r:=topRun_mono (30000-M) _ _ _ _ h
 rw [show M+(30000-M)=30000 by lia] at r
 exact r
def qv:Program:={pw with main:={pw.main with body:=[kW pw.main.body 54]}}
def lv:List PySem.Str:=[d9,dY,gm,gn,gS,he,hg,hy,hD,hE,hG,hI,gT,gU,lU,gV,gW,gX,hJ,hK,hM,hN,hO,hU,hV,hW,i8,i9,ja,jb,jc,jd,jZ,j0,j1,j2,j3,j4,j5,j6]
abbrev hS (w:Yc) (a:OsState):Shared:=⟨hH w,#[],⟨0,0,0,0⟩,2190,a⟩
def Da (s:Shared):Bool:=xlAt qv [] s&&recOk [] s
theorem Nw (w:Yc) (a:OsState):(staticsOk (importedModules pw.main.body) (absHeap (iH w.params) 28 {}) (hH w)&&namesBound pw (hH w)&&gensDone (hS w a)&&laidKept (absHeap (iH w.params) 28 {}) (hH w))=true:=by kernel_rfl
theorem hk1 (w:Yc) (b:OsState):seen ((recsOf qv).map (·.name)) (ownsOf qv) [] {hS w b with gens:=#[]}=expectedOf qv:=by kernel_rfl
theorem hk2 (w:Yc) (a:OsState):(hS w a).heap.bltView=bltViewBooted:=by kernel_rfl
theorem Nx (w:Yc) (a:OsState):((hS w a).heap.keysOk (looseW qv lv) ((recsOf qv).map (·.name)) ((litsOf qv).map (·.1)) ((clssOf qv (looseW qv lv)).map (·.name))&&(hS w a).heap.accountedOkI (importedModules pw.main.body)&&(hS w a).heap.isNs mainGlobals&&(hS w a).heap.isNs builtinsNs&&tablesOk qv (hS w a).heap&&Da (hS w a)&&(if true then (hS w a).gens.size==0 else !leftWithCleanup (hS w a).gens))=true:=by kernel_rfl
theorem Ny (w:Yc) (a:OsState):tabsOk qv (hS w a)=true:=by kernel_rfl
theorem Nz (w:Yc) (a:OsState):pinSeenD qv (drecsOf qv) (hS w a)=pinGoodD (drecsOf qv):=by kernel_rfl
theorem NA (w:Yc) (a:OsState):plainSeenE qv (looseW qv lv) (hS w a)=plainGoodE qv (looseW qv lv):=by kernel_rfl
theorem NB (w:Yc) (a:OsState):plainSeenD qv lv (hS w a)=plainGoodD qv lv:=by kernel_rfl
theorem NC (w:Yc) (a:OsState):wideSeen qv (hS w a)=wideGood qv:=by kernel_rfl
theorem ND (w:Yc) (a:OsState):clsSeenW qv lv (hS w a)=clsGoodW qv lv:=by kernel_rfl
abbrev Db:RowW:=PySem.Challenge.rw_pd0113_01.row.toRowW
theorem NE {a:List WData} (qa:Db.claim.pre a=true):∃b,a=[.list b]∧WShape.hasItems [] b .int=true∧b.length≤63:=by
 obtain ⟨i,h⟩:=pre_splitW qa
 have e:WShape.hasAll [] a [.list .int]=true:=i
 obtain ⟨d,r,rfl,g,f⟩:=hasAllW_cons e
 obtain rfl:=hasAllW_nil f
 obtain ⟨b,rfl,hx⟩:=hasW_list g
 refine ⟨b,rfl,hx,?_⟩
 have c:(WTm.and (.not (.lt (.lit (.int 63)) (.len (.arg 0)))) (.lit (.bool true))).holds [] {args:=[.list b]}=true:=h
 have j:¬((63:Int)<(b.length:Int)):=by
  intro q
  simp [WTm.holds,WTm.value,less?,Num.less?,q] at c
 lia
theorem Dc {P:Params} {h:Heap}:∀{vs:Yb} {e:List WData},WellAll P h vs e→WShape.hasItems [] e .int=true→∃c:List c7,vs=c.map cx∧c.length=e.length
 | _,_,.nil,_=>⟨[],rfl,rfl⟩
 | _,_,.cons (v:=v) (vs:=vs) (d:=d) (ds:=ds) a b,x=>by
  have f:(WShape.has [] d .int&&WShape.hasItems [] ds .int)=true:=x
  obtain ⟨j,k⟩:=Bool.and_eq_true_iff.mp f
  obtain ⟨i,rfl⟩:=hasW_int j
  obtain ⟨c,rfl,g⟩:=Dc b k
  cases a with
  | int i t=>exact ⟨(i,t)::c,rfl,congrArg (· + 1) g⟩
def dk:DefRec×List (PySem.Str×Expr):=(defOf qv PySem.Challenge.rw_pd0113_01.name).getD (⟨⟨#[]⟩,default,[],default,default⟩,[])
theorem NF:defOf qv PySem.Challenge.rw_pd0113_01.row.name=some (dk.1,dk.2):=by kernel_rfl
theorem NG:dk.1.name=hX:=by kernel_rfl
theorem NH {i:PySem.Str→Option Yd} {w:Yc} {d c:Shared} (e:d.heap=hH w) (t:∀b o,d.heap.get? b=some o→c.heap.get? b=some o) (s:c.heap.Ns mainGlobals i) {a:Addr} (g:i hX=some (.ref a)):a=291:=by
 obtain ⟨o,f,p,j,m,_,n⟩:=s
 have z:c.heap.get? mainGlobals=some (mP w.params):=t _ _ (by rw [e];exact (abs_get (o:=mP w.params) (by decide +kernel) (by kernel_rfl)).trans (by kernel_rfl))
 rw [z] at j
 cases j
 rw [←n] at g
 have h:(mP w.params).data = .dict f p:=m
 have q:(match (mP w.params).data with | .dict f _=>nsFind f hX | _=>none)=some (.ref 291):=by kernel_rfl
 rw [h] at q
 have k:nsFind f hX=some (.ref 291):=q
 rw [k] at g
 cases g
 rfl
theorem NI {w:Yc} {a c:Shared} (e:a.heap=hH w) (d:∀b o,a.heap.get? b=some o→c.heap.get? b=some o) (le:a.heap.objs.size≤c.heap.objs.size):(B0 w).In c.heap:=by
 refine ⟨fun b o q=>d b o ?_,?_⟩
 ·rw [e];exact MP w b o q
 ·have z:a.heap.objs.size=292:=by rw [e];exact absHeap_size _ _ _
  show 292≤_
  lia
theorem NJ:WalkX qv lv (XL qv []) (fun s=>s.heap) hH Db dk.1 dk.2 fun f n=>PySem.call f n:=by
 intro w b d mg mb G Y a o pm V E U kV ho R z T e c t q y L qa p g j K
 obtain ⟨S,rfl,hx,F⟩:=NE qa
 rw [NG] at e
 obtain rfl:a=291:=NH Y L.keeps G.T.g e
 cases j with
 | cons B H=>
  cases H with
  | nil=>
   cases B with
   | list u A=>
    rename_i x n
    obtain ⟨Q,rfl,i⟩:=Dc A hx
    have k:x∈y:=by
     cases g with
     | cons I Z=>cases I with | list=>exact List.mem_append_left _ (.head _)
    have O:b.heap.objs.size=292:=by
     have C:b.heap=hH w:=Y
     rw [C];exact absHeap_size _ _ _
    have m:=(L.within.2.2 x k).1
    have D:=MS w d Q (i▸F) x u (O▸m) (NI Y L.keeps L.within.1)
    refine D _ _ fun X P N J=>GoodW.toG ⟨.inl ⟨.bool true,.bool true,[],rfl,fun _=>rfl,.bool true,by kernel_rfl,fun _=>⟨List.nodup_nil,fun _ h=>by cases h⟩⟩,P,N,J.trans c⟩
theorem NK:LeftO pw qv lv Da (fun s=>s.heap) hH 30000:=
 LeftO.of_pieces (H₀ := fun P=>absHeap (iH P) 28 {}) (H₁ := fun P=>absHeap (ji P) 292 {}) Nu Nf Nv (by decide +kernel) fun w=>funext fun a=>by
  show (_,(_,_,_,_,_,_,_,_,_),_)=_
  exact Prod.ext (Nw w a) (Prod.ext (Prod.ext (hk1 w a) (Prod.ext (hk2 w a) (Prod.ext (Nx w a) (Prod.ext (Ny w a) (Prod.ext (Nz w a) (Prod.ext (NA w a) (Prod.ext (NB w a) (Prod.ext (NC w a) (ND w a))))))))) rfl)
theorem law_row (a:PySem.Challenge.rw_pd0113_01.row.wellSaid=true):PySem.Challenge.rw_pd0113_01.row.Holds:=
 holds_openX (r:=PySem.Challenge.rw_pd0113_01.row) (q:=qv) (XP:=XL qv []) (d:=dk.1) (kwd:=dk.2) NK (fun s e=>xl_of s (Bool.and_eq_true_iff.mp e).1) XL.keeps NF (by kernel_rfl) (by kernel_rfl) (fun s e=>recFacts_of (Bool.and_eq_true_iff.mp e).2) rfl a (by kernel_rfl) ⟨rfl,rfl,rfl,rfl,rfl,by decide +kernel⟩ ⟨[.list [.int 1]],by decide +kernel,by decide +kernel⟩ NJ
abbrev jN:=PySem.Challenge.rw_pd0113_01
theorem NL:namesResolve jN.row.prog=true:=by kernel_rfl
theorem NM:noRoadLSs {strict := !(importedModules jN.prog.main.body).all cThrough.contains,foot:=none,bare:=(["vars","dir","locals"]:Yg).filter (readsOut jN.prog jN.prog.main.body)} jN.prog.main.body=true:=by kernel_rfl
theorem NN:namesMeet jN.prog jN.prog.main.body (fun _ n=>attrL n)=true:=by kernel_rfl
theorem NO:looksOpen jN.row.prog=true:=look_both (look_both (look_both (look_both (look_both (by kernel_rfl) (by kernel_rfl)) NL) (by kernel_rfl)) NM) NN
theorem NP:jN.row.wellSaid=true:=by
 unfold OpenRow.wellSaid OpenRow.partSaid
 repeat' with_reducible apply look_both
 exact NO
 all_goals kernel_rfl
theorem said0:PySem.Challenge.rw_pd0113_01.wellSaid=true:=by
 unfold OpenLaw.wellSaid
 repeat' with_reducible apply look_both
 exact NP
 all_goals kernel_rfl
end
end Mine
theorem PySem.Challenge.cw_pd0113_01_holds : PySem.Challenge.rw_pd0113_01.Holds := by
  exact PySem.W.holds_law Mine.said0 Mine.law_row
