import PyProof.Rows.All
import Wide.All
import OpenK.AllK
import Wide.FinOn
import Open.Pieces
import KE.KSortAsk
import PyProof.Walk
import PySem.Challenge.RW_pd0113_01
set_option Elab.async false
set_option maxRecDepth 100000
set_option maxHeartbeats 0
set_option linter.all false
namespace Mine
open PySem PySem.W PySem.W.X PyProof.Rows
noncomputable section
abbrev Ya:=List (Addr×Obj)
abbrev Yb:=List Value
abbrev Yc:=World
abbrev Yd:=Value
abbrev Ye:=Nat→Nat
abbrev Yf:=List Obj
abbrev Yg:=List Str
abbrev Yh:=List Nat
abbrev Yi:=List (List Str)
abbrev Kn:=Ya
inductive Ob where
 | a (x y:Nat)
 | c (x y:Code)
 | t (x y:Option (Addr×Obj))
 | s (x y:Sem Fin)
 | i (x y:Option String)
def Ob.l:Ob→Ob
 | .a x _=>.a x x
 | .c x _=>.c x x
 | .t x _=>.t x x
 | .s x _=>.s x x
 | .i x _=>.i x x
def Ob.r:Ob→Ob
 | .a _ y=>.a y y
 | .c _ y=>.c y y
 | .t _ y=>.t y y
 | .s _ y=>.s y y
 | .i _ y=>.i y y
def Ob.Ok:Ob→Prop
 | .a x y=>x=y
 | .c x y=>x=y
 | .t x y=>x=y
 | .s x y=>x=y
 | .i x y=>x=y
def lK (l:List Ob):Prop:=l.map Ob.l=l.map Ob.r
theorem Ob.ok_of:∀{o:Ob},o.l=o.r→o.Ok
 | .a _ _,h=>(Ob.a.inj h).1
 | .c _ _,h=>(Ob.c.inj h).1
 | .t _ _,h=>(Ob.t.inj h).1
 | .s _ _,h=>(Ob.s.inj h).1
 | .i _ _,h=>(Ob.i.inj h).1
theorem lK.ok {l:List Ob} (h:lK l):∀o∈l,o.Ok:=by
 unfold lK at h
 induction l with
 | nil=>intro o a;cases a
 | cons x r b=>
  simp only [List.map_cons,List.cons.injEq] at h
  intro o a
  rcases List.mem_cons.mp a with rfl | a
  ·exact Ob.ok_of h.1
  ·exact b h.2 o a
def bW {α : Type}:List α→Nat→Option α
 | [],_=>none
 | x::l,i=>match i with
  | 0=>some x
  | j+1=>bW l j
def gT:Kn→Nat→Obj→Kn
 | [],_,_=>[]
 | p::l,i,o=>match i with
  | 0=>(p.1,o)::l
  | j+1=>p::gT l j o
def ja {α : Type}:List α→α→List α
 | [],x=>[x]
 | y::l,x=>y::ja l x
def kQ:Yd→Nat
 | .str _ t=>t
 | .int _ t=>t
 | .ref a=>a
 | .bytes _ t=>t
 | .float _ t=>t
 | _=>0
def qc (l:Yb) (i:Nat):Nat:=match bW l i with
 | some v=>kQ v
 | none=>0
def tG (b:Env) (i:Nat):Nat:=match i with
 | 0=>b.locals
 | 1=>match b.frame with
  | some a=>a
  | none=>0
 | j+2=>match bW b.cells j with
  | some p=>p.2
  | none=>0
def Dg (c:Code) (i:Nat):Nat:=match c with
 | .call _ a=>qc a.pos i
 | .builtin _ a=>qc a.pos i
 | .whileLoop _ _ _ b=>tG b i
 | .forLoop _ d _ _ b=>match i with
  | 0=>kQ d
  | j+1=>tG b j
 | .compStart _ _ d e b=>match i with
  | 0=>kQ d
  | 1=>kQ e
  | j+2=>tG b j
 | _=>0
def wV:List DictEntry→Nat→Nat
 | [],_=>0
 | e::l,i=>match i with
  | 0=>kQ e.key
  | 1=>kQ e.val
  | j+2=>wV l j
def Dh (o:Obj) (i:Nat):Nat:=match o.data with
 | .seq c n=>match i with
  | 0=>n
  | j+1=>qc c.toList j
 | .fields b=>qc b.toList i
 | .dict a n=>match i with
  | 0=>n
  | j+1=>wV a.toList j
 | .cell v=>match v with
  | some v=>kQ v
  | none=>0
 | _=>0
abbrev af:=Nat→Nat→Nat
def Di (a:List (Nat→Nat)) (k i:Nat):Nat:=match bW a k with
 | some f=>f i
 | none=>0
def jV (c:Code) (T:Kn) (a:Yh) (b:List (Nat→Nat)):af:=fun j i=>match j with
 | 0=>Dg c i
 | j+1=>match bW a j with
  | none=>Di b (j-999) i
  | some p=>match bW T p with
   | none=>0
   | some q=>match i with
    | 0=>q.1
    | i+1=>Dh q.2 i
structure aH where
 code:af→Code
 pl:Yh:=[]
 objs:af→Ya:=fun _=>[]
 strm:Bool:=false
 dt:Nat:=0
 bad:Bool:=false
 out:af→Ye→Flow×Yf×Ya
def lL (a:Bool) (f:Flow):Result:=match a with
 | false=>.ok f
 | true=>match f with
  | .ret v=>.error v
  | f=>.ok f
abbrev Oc:=Nat×Nat×(Nat→Nat)
inductive Ko where
 | base
 | code (c:Code)
 | ret (c:Code) (k:Result→Sem Fin) (κ : Ko)
def Ko.len:Ko→Nat
 | .base=>0
 | .code _=>1
 | .ret _ _ κ => κ.len+1
structure SV where
 prog:Program
 w:Yc
 pa:Params
 pb:Params
 den:Code→Sem Fin
 kt:KT
 lo:Nat
 oS:Obj
 ef:Sem Unit
 cr:String→Sem Unit
 bd:Sem Unit→(Unit→Sem Fin)→Sem Fin
 lg:Yd→Yd→Sem Unit
 words:List String
 ids:List String
 orcs:List aH
inductive Rs where
 | ret (r:Result)
 | again (c:Code)
 | cut (c:Code) (k:Result→Sem Fin) (κ : Ko)
structure c1 where
 r:Rs
 T:Kn
 n:Nat
 tk:Nat
 ob:List Ob
abbrev jW:=Yh→List Oc→List Ye→Ko→Sem Fin→Kn→Nat→Nat→List Ob→Option c1
def lM (T:Kn):Yh→Ya→List Ob→List Ob
 | [],[],ob=>ob
 | i::l,x::r,ob=>lM T l r (.t (bW T i) (some x)::ob)
 | _,_,ob=>.a 0 1::ob
def fW (T:Kn):Yh→Yf→Kn
 | [],_=>T
 | _::_,[]=>T
 | i::l,o::r=>fW (gT T i o) l r
def kR {α β : Type}:List α→List β→Bool
 | [],[]=>true
 | _::l,_::r=>kR l r
 | _,_=>false
def kS:Kn→Ya→Kn
 | [],l=>l
 | p::T,l=>p::kS T l
def lN (V:SV) (c:Code) (a:Yh) (b:List Ob) (k:Yh→List Ob→Option c1):Option c1:=match c with
 | .builtin id _=>match a with
  | j::a=>k a (.i (some id) (bW V.ids j)::b)
  | []=>none
 | _=>k a b
def qd (e:jW) (a:Yh) (c:List Oc) (f:List (Nat→Nat)) (r:Result) (κ : Ko) (T:Kn) (n b:Nat) (d:List Ob):Option c1:=match κ with
 | .base=>some ⟨.ret r,T,n,b,d⟩
 | .code _=>some ⟨.ret r,T,n,b,d⟩
 | .ret _ k κ => e a c f κ (k r) T n b d
def nK (V:SV) (j:Nat) (d:Code) (a:List Oc) (b:List (Nat→Nat)) (T:Kn) (n m:Nat) (q:List Ob) (k:List Oc→List Ye→Result→Kn→Nat→Nat→List Ob→Option c1):Option c1:=match bW V.orcs j with
 | none=>none
 | some o=>match o.strm with
  | false=>match o.out (jV d T o.pl b) (fun i=>m+i) with
   | ⟨f,g,e⟩=>match e with
    | []=>match kR o.pl g with
     | true=>k a b (lL o.bad f) (fW T o.pl g) n (m+o.dt) (lM T o.pl (o.objs (jV d T o.pl b)) (.c d (o.code (jV d T o.pl b))::q))
     | false=>none
    | _::_=>none
  | true=>match a with
   | []=>none
   | ⟨s,h,p⟩::a=>match o.out (jV d T o.pl b) p with
    | ⟨f,g,e⟩=>match kR o.pl g with
     | true=>k a (ja b p) (lL o.bad f) (kS (fW T o.pl g) e) s h (lM T o.pl (o.objs (jV d T o.pl b)) (.c d (o.code (jV d T o.pl b))::q))
     | false=>none
def qe:Nat→String
 | 0=>"zip"
 | _+1=>"enumerate"
noncomputable def aW (e:Nat) (x:Yd) (rest:Yb):Obj:={cls:=.type (qe e),dict:=none,data:=.fields (x::rest).toArray,slots:=#[]}
def restOf (o:Obj):Yb:=match o.data with
 | .fields a=>match a.toList with
  | []=>[]
  | _::r=>r
 | _=>[]
def nL (V:SV) (j:jW) (t:Sem Fin) (a:Addr) (k:Obj→Sem Fin):jW:=fun b d m κ _ T n h i=>match b with
 | g::jt::e::b=>match bW T g with
  | some c=>match bW T jt with
   | some f=>j b d m κ (k V.oS) (gT T g (aW e .none (restOf c.2))) n h (.s t (V.bd (V.lg (.ref a) (.ref f.1)) fun _=>k V.oS) :: .t (some c) (some (a,aW e (rawInt f.1) (restOf c.2)))::i)
   | none=>none
  | none=>none
 | _=>none
def cm (V:SV) (i:jW):jW:=fun b c h κ t T n g d=>match t with
 | .pure w=>match w with
  | .done f=>qd i b c h (.ok f) κ T n g d
  | .again m=>match b with
   | []=>none
   | op::b=>match κ with
    | .base=>none
    | .code _=>match op with
     | 0=>lN V m b d fun b d=>i b c h (.code m) (V.den m) T n g d
     | 1=>lN V m b d fun _ d=>some ⟨.again m,T,n,g,d⟩
     | _=>none
    | .ret _ k κ => match op with
     | 0=>lN V m b d fun b d=>i b c h (.ret m k κ) (V.den m) T n g d
     | _=>none
 | .raise e=>qd i b c h (.error e) κ T n g d
 | .rule _ k=>i b c h κ (k ()) T n g d
 | .at _ k=>i b c h κ (k ()) T n g d
 | .point _ k=>i b c h κ (k ()) T n g d
 | .ask k=>i b c h κ (k ⟨V.prog,V.pa⟩) T n g (.s (k ⟨V.prog,V.pb⟩) (k ⟨V.prog,V.pa⟩)::d)
 | .load a _ k=>match b with
  | []=>none
  | op::b=>match op with
   | 0=>match V.kt.get a with
    | some o=>i b c h κ (k o) T n g d
    | none=>none
   | j+1=>match bW T j with
    | some p=>i b c h κ (k p.2) T n g (.a a p.1::d)
    | none=>nL V i t a k b c h κ t T n g d
 | .loadIfAlive a k=>match b with
  | []=>none
  | op::b=>match op with
   | 0=>match V.kt.get a with
    | some o=>i b c h κ (k (some o)) T n g d
    | none=>none
   | j+1=>match bW T j with
    | some p=>i b c h κ (k (some p.2)) T n g (.a a p.1::d)
    | none=>none
 | .alloc o k=>match o.isFreed with
  | true=>none
  | false=>i b c h κ (k n) (ja T (n,o)) (n+1) g d
 | .update a _ f k=>match b with
  | []=>none
  | j::b=>match bW T j with
   | some p=>match (f p.2).isFreed with
    | true=>none
    | false=>i b c h κ (k ()) (gT T j (f p.2)) n g (.a a p.1::d)
   | none=>none
 | .fresh k=>i b c h κ (k g) T n (g+1) d
 | .handled u k=>match u with
  | false=>i b c h κ (k none) T n g d
  | true=>none
 | .stack k=>match b with
  | []=>none
  | op::b=>match op with
   | 0=>match k [] with
    | .load _ _ x=>i b c h κ (x V.oS) T n g (.s (.stack k) (V.bd V.ef fun _=>x V.oS)::d)
    | _=>none
   | j+1=>match bW V.words j with
    | some q=>i b c h κ (k []) T n g (.s (.stack k) (V.bd (V.cr q) fun _=>k [])::d)
    | none=>none
 | .call m y _ _ k=>match y with
  | some _=>none
  | none=>match b with
   | []=>none
   | op::b=>match op with
    | 0=>match Nat.ble 44 κ.len with
     | true=>none
     | false=>lN V m b d fun b d=>i b c h (.ret m k κ) (V.den m) T n g d
    | 1=>some ⟨.cut m k κ,T,n,g,d⟩
    | j+2=>nK V j m c h T n g d fun c h r T n g d=>i b c h κ (k r) T n g d
 | _=>none
def d7 (V:SV):Nat→jW
 | 0=>fun _ _ _ _ _ _ _ _ _=>none
 | n+1=>cm V (d7 V n)
structure fX (c:Code):Prop where
 weight:c.weight≤1
 units:c.cUnits≤4
 quiet:c.quiet=true
def nM (id:String):Prop:=∀a,fX (.builtin id a)
theorem wW {id:String} (h:plainId id=true):nM id:=fun a=>
 ⟨by rw [plainId_weight h];exact Nat.zero_le _,by rw [plainId_units h];decide,plainId_quiet h a⟩
theorem Dj:nM "type.__call__" := fun a=>by
 have b:(Code.builtin "type.__call__" a).frames=0:=rfl
 have d:(Code.builtin "type.__call__" a).isGuard=false:=by
  show guardIds.contains "type.__call__" = false
  decide +kernel
 have c:(Code.builtin "type.__call__" a).isCaller=false:=rfl
 refine ⟨?_,?_,Code.quiet_builtin _ (by decide +kernel)⟩
 ·unfold Code.weight
  rw [b,d,c]
  cases (Code.builtin "type.__call__" a).isCreation <;> decide
 ·show 1+3*(Code.builtin "type.__call__" a).frames≤4
  rw [b];decide
theorem Dk {c:Code} (d:c.weight=c.frames) (e:c.cUnits=3*c.frames) (a:c.frames=if c.isFrame then 1 else 0) (b:c.quiet=true):fX c:=by
 have:c.frames≤1:=by rw [a];split <;> decide
 exact ⟨by lia,by lia,b⟩
theorem gU {c:Code} (h:∀id a,c≠.builtin id a):fX c:=by
 cases c with
 | builtin id a=>exact absurd rfl (h id a)
 | call f a=>exact ⟨by show (0+0+0+0:Nat)≤1;decide,by show (1:Nat)≤4;decide,rfl⟩
 | _=>exact Dk (by simp [Code.weight,Code.isCreation,Code.isGuard,Code.isCaller]) rfl rfl rfl
structure Cx where
 h₀ : Heap
 M₀ : List Addr
 A₀ : Around
 R₀ : Result→Shared→Prop
 g:Array GenState
 d:Drawn
 os:OsState
section
variable (V:SV) (X:Cx)
abbrev SV.M (V:SV):Model:=model V.prog V.w
def AK:Ko→Around
 | .base=>X.A₀
 | .code c=>X.A₀.under c
 | .ret c _ κ => (AK κ).under c
def QK (κ : Ko) (E:Result→Shared→Prop) (c:Fin) (s:Shared):Prop:=match c with
 | .done f=>E (.ok f) s
 | .again a=>match κ with
  | .base=>False
  | .code _=>a.quiet=true∧codeAny V.M X.A₀ a E s
  | .ret _ _ b=>a.quiet=true∧codeAny V.M (AK X b) a E s
def En:Ko→Result→Shared→Prop
 | .base=>X.R₀
 | .code _=>X.R₀
 | .ret _ k κ => fun r s=>wpAny V.M (AK X κ) (k r) (QK V X κ (En κ)) (fun e s=>En κ (.error e) s) s
def Mn (κ : Ko) (t:Sem Fin) (s:Shared):Prop:=wpAny V.M (AK X κ) t (QK V X κ (En V X κ)) (fun e s=>En V X κ (.error e) s) s
structure dr (h:Heap) (T:Kn) (n:Nat):Prop where
 size:h.objs.size=n
 own:∀p∈T,h.get? p.1=some p.2
 hi:∀p∈T,V.lo≤p.1
 nd:(T.map (·.1)).Nodup
 old:∀b o,V.kt.get b=some o→h.get? b=some o
 keep:∀b o,X.h₀.get? b=some o→b∉X.M₀→h.get? b=some o
 new:∀p∈T,p.1∈X.M₀∨X.h₀.objs.size≤p.1
 grow:X.h₀.objs.size≤n
def tH (A:Around):Prop:=A.handled=none∧A.depth≤X.A₀.depth+46∧A.units≤X.A₀.units+250
def aH.Ok (o:aH):Prop:=∀(a:af) (A:Around),tH X A→∀(h:Heap) (f:Nat) (g:Bool) (l:Yb) (k:Result→Sem Fin) (Q:Fin→Shared→Prop) (E:Yd→Shared→Prop),
 ((o.objs a).map (·.1)).Nodup→(∀x∈o.objs a,h.get? x.1=some x.2∧V.lo≤x.1)→(∀b ob,V.kt.get b=some ob→h.get? b=some ob)→V.lo≤h.objs.size→
 (∀b ob,X.h₀.get? b=some ob→b∉X.M₀→h.get? b=some ob)→(∀x∈o.objs a,x.1∈X.M₀∨X.h₀.objs.size≤x.1)→
 (∀(c:Heap) (d:Nat) (e:Ye),(o.strm=false→c.objs.size=h.objs.size∧d=f+o.dt∧e=fun i=>f+i)→h.objs.size≤c.objs.size→
  (∀b ob,h.get? b=some ob→b∉(o.objs a).map (·.1)→c.get? b=some ob)→
  (∀x∈((o.objs a).map (·.1)).zip (o.out a e).2.1,c.get? x.1=some x.2)→
  (∀p∈(o.out a e).2.2,c.get? p.1=some p.2∧h.objs.size≤p.1)→((o.out a e).2.2.map (·.1)).Nodup→
  wpAny V.M A (k (lL o.bad (o.out a e).1)) Q E ⟨c,X.g,X.d,d,X.os⟩)→
 wpAny V.M A (.call (o.code a) none g l k) Q E ⟨h,X.g,X.d,f,X.os⟩
structure gg:Prop where
 den:V.den=denote table
 pab:V.w.params=V.pa∨V.w.params=V.pb
 ef:V.ef=enterFrame
 cr:V.cr=cRoom
 bd:V.bd=fun a b=>a.bind b
 lg:V.lg=letOwnedTupleGo (.Tuple [] 0 ⟨0,0,0,0⟩)
 kt:∀b o,V.kt.get b=some o→b<V.lo
 stat:V.kt.get cStatics=some V.oS
 lim:∀h:Heap,h.get? cStatics=some V.oS→h.NoLimit
 ids:∀id∈V.ids,nM id
 hd:X.A₀.handled=none
 depth:X.A₀.depth+70<recursionLimit
 units:X.A₀.units+300<cLine
 low:V.lo≤X.h₀.objs.size
 orcs:∀o∈V.orcs,o.pl.Nodup∧o.Ok V X
def nN:Ko→Prop
 | .base=>True
 | .code c=>fX c
 | .ret c _ κ => fX c∧nN κ
def fs (x:Option c1):Prop:=∃o,x=some o∧lK o.ob∧∀h,dr V X h o.T o.n→match o.r with
 | .ret r=>X.R₀ r ⟨h,X.g,X.d,o.tk,X.os⟩
 | .again a=>codeAny V.M X.A₀ a X.R₀ ⟨h,X.g,X.d,o.tk,X.os⟩
 | .cut a k κ => nN κ→κ.len≤45→∀g l,Mn V X κ (.call a none g l k) ⟨h,X.g,X.d,o.tk,X.os⟩
end
theorem dn {α : Type}:∀{l:List α} {i:Nat} {x : α},bW l i=some x→x∈l
 | [],_,_,h=>by cases h
 | y::l,0,x,h=>by cases h;exact .head _
 | y::l,i+1,x,h=>.tail _ (dn (l:=l) h)
theorem qg {α : Type} {x y : α}:∀{l:List α},y∈ja l x→y∈l∨y=x
 | [],h=>by rcases List.mem_cons.mp h with rfl | h;exact .inr rfl;cases h
 | z::l,h=>by
  rcases List.mem_cons.mp h with rfl | h
  ·exact .inl (.head _)
  ·exact (qg h).imp (.tail _) id
theorem wX {α : Type} (x : α):∀l:List α,ja l x=l++[x]
 | []=>rfl
 | y::l=>by show y::ja l x=y::(l++[x]);rw [wX x l]
theorem qh (o:Obj):∀(T:Kn) (i:Nat),(gT T i o).map (·.1)=T.map (·.1)
 | [],_=>rfl
 | p::T,0=>rfl
 | p::T,i+1=>by show p.1::(gT T i o).map _=p.1::_;rw [qh o T i]
theorem nO {o:Obj} {q p:Addr×Obj}:∀{T:Kn} {i:Nat},(T.map (·.1)).Nodup→bW T i=some p→q∈gT T i o→q=(p.1,o)∨(q∈T∧q.1≠p.1)
 | [],_,_,h,_=>by cases h
 | x::T,0,nd,h,m=>by
  cases h
  rcases List.mem_cons.mp m with rfl | m
  ·exact .inl rfl
  ·refine .inr ⟨.tail _ m,fun e => ?_⟩
   rw [List.map_cons,List.nodup_cons] at nd
   exact nd.1 (by rw [←e];exact List.mem_map_of_mem m)
 | x::T,i+1,nd,h,m=>by
  rw [List.map_cons,List.nodup_cons] at nd
  rcases List.mem_cons.mp m with rfl | m
  ·refine .inr ⟨.head _,fun e => ?_⟩
   exact nd.1 (by rw [e];exact List.mem_map_of_mem (dn (l:=T) h))
  ·rcases nO nd.2 (show bW T i=some p from h) m with e | ⟨a,b⟩
   ·exact .inl e
   ·exact .inr ⟨.tail _ a,b⟩
section
variable {V:SV} {X:Cx} {h:Heap} {T:Kn} {n:Nat}
theorem dr.alloc (O:V.lo≤X.h₀.objs.size) (D:dr V X h T n) {o:Obj} (i:o.isFreed=false):dr V X (h.push o) (ja T (n,o)) (n+1):=by
 have g:∀p∈T,p.1<n:=fun p c=>D.size▸Heap.lt_size (D.own p c)
 refine ⟨by rw [Heap.size_push,D.size],fun p c => ?_,fun p c => ?_,?_,fun b d e=>Heap.get?_push_of_some _ (D.old b d e),fun b d e m=>Heap.get?_push_of_some _ (D.keep b d e m),fun p c => ?_,Nat.le_succ_of_le D.grow⟩
 ·rcases qg c with c | rfl
  ·exact Heap.get?_push_of_some _ (D.own p c)
  ·show (h.push o).get? n=some o
   rw [←D.size];exact Heap.get?_push_size _ i
 ·rcases qg c with c | rfl
  ·exact D.hi p c
  ·exact Nat.le_trans O D.grow
 ·rw [wX,List.map_append]
  refine List.nodup_append.mpr ⟨D.nd,by simp,fun a j b f => ?_⟩
  obtain ⟨p,c,rfl⟩:=List.mem_map.mp j
  simp only [List.map_cons,List.map_nil,List.mem_singleton] at f
  subst f
  exact Nat.ne_of_lt (g p c)
 ·rcases qg c with c | rfl
  ·exact D.new p c
  ·exact .inr D.grow
theorem dr.update (G:∀b o,V.kt.get b=some o→b<V.lo) (D:dr V X h T n) {j:Nat} {p:Addr×Obj} {f:Obj→Obj} (e:bW T j=some p) (k:(f p.2).isFreed=false):dr V X (h.update p.1 f) (gT T j (f p.2)) n:=by
 have c:=dn e
 have t:=D.own p c
 have i:Heap.SameBut p.1 h (h.update p.1 f):=Heap.SameBut.update ..
 refine ⟨by rw [i.1,D.size],fun q a => ?_,fun q a => ?_,by rw [qh];exact D.nd,fun b g d => ?_,fun b g d m => ?_,fun q a => ?_,D.grow⟩
 ·rcases nO D.nd e a with rfl | ⟨a,s⟩
  ·exact Heap.get?_update_self _ t k
  ·exact (i.2 _ s).trans (D.own q a)
 ·rcases nO D.nd e a with rfl | ⟨a,_⟩
  ·exact D.hi p c
  ·exact D.hi q a
 ·have:b≠p.1:=fun z=>absurd (G b g d) (by rw [z];exact Nat.not_lt.mpr (D.hi p c))
  exact (i.2 _ this).trans (D.old b g d)
 ·have:b≠p.1:=by
   rintro rfl
   rcases D.new p c with q | q
   ·exact m q
   ·exact absurd (Heap.lt_size d) (Nat.not_lt.mpr q)
  exact (i.2 _ this).trans (D.keep b g d m)
 ·rcases nO D.nd e a with rfl | ⟨a,_⟩
  ·exact D.new p c
  ·exact D.new q a
theorem wY {o o':Obj} {a:Addr}:∀{T:Kn} {i j:Nat},bW T j=some (a,o)→∃b,bW (gT T i o') j=some (a,b)
 | [],_,_,h=>by cases h
 | p::T,0,0,h=>by cases h;exact ⟨_,rfl⟩
 | p::T,0,j+1,h=>⟨o,h⟩
 | p::T,i+1,0,h=>⟨o,h⟩
 | p::T,i+1,j+1,h=>wY (T:=T) (i:=i) (j:=j) h
inductive At (T:Kn):Yh→List Addr→Prop where
 | nil:At T [] []
 | cons {i:Nat} {a:Addr} {o:Obj} {l:Yh} {r:List Addr}:bW T i=some (a,o)→At T l r→At T (i::l) (a::r)
theorem At.put {T:Kn} {l:Yh} {r:List Addr} (h:At T l r) (i:Nat) (o:Obj):At (gT T i o) l r:=by
 induction h with
 | nil=>exact .nil
 | cons e _ c=>obtain ⟨a,b⟩:=wY (i:=i) (o':=o) e;exact .cons b c
theorem At.mem {T:Kn} {l:Yh} {r:List Addr} (h:At T l r):∀a∈r,∃p∈T,p.1=a:=by
 induction h with
 | nil=>intro a b;cases b
 | cons e _ c=>
  intro a b
  rcases List.mem_cons.mp b with rfl | b
  ·exact ⟨_,dn e,rfl⟩
  ·exact c a b
theorem tI:∀{T:Kn} {i j:Nat} {p q:Addr×Obj},(T.map (·.1)).Nodup→bW T i=some p→bW T j=some q→p.1=q.1→i=j
 | [],_,_,_,_,_,h,_,_=>by cases h
 | x::T,0,0,_,_,_,_,_,_=>rfl
 | x::T,0,j+1,p,q,nd,hp,hq,e=>by
  cases hp
  rw [List.map_cons,List.nodup_cons] at nd
  exact absurd (by rw [e];exact List.mem_map_of_mem (dn (l:=T) hq)) nd.1
 | x::T,i+1,0,p,q,nd,hp,hq,e=>by
  cases hq
  rw [List.map_cons,List.nodup_cons] at nd
  exact absurd (by rw [←e];exact List.mem_map_of_mem (dn (l:=T) hp)) nd.1
 | x::T,i+1,j+1,p,q,nd,hp,hq,e=>by
  rw [List.map_cons,List.nodup_cons] at nd
  rw [tI (T:=T) nd.2 hp hq e]
theorem At.place {T:Kn} {l:Yh} {r:List Addr} (h:At T l r):∀a∈r,∃i∈l,∃o,bW T i=some (a,o):=by
 induction h with
 | nil=>intro a b;cases b
 | cons e _ c=>
  intro a b
  rcases List.mem_cons.mp b with rfl | b
  ·exact ⟨_,.head _,_,e⟩
  ·obtain ⟨i,d,o,q⟩:=c a b
   exact ⟨i,.tail _ d,o,q⟩
theorem At.nodup {T:Kn} {l:Yh} {r:List Addr} (nd:(T.map (·.1)).Nodup) (h:At T l r):l.Nodup→r.Nodup:=by
 induction h with
 | nil=>intro _;exact List.nodup_nil
 | cons e h c=>
  intro a
  rw [List.nodup_cons] at a ⊢
  refine ⟨fun b => ?_,c a.2⟩
  obtain ⟨i,d,o,q⟩:=h.place _ b
  exact a.1 (tI nd e q rfl▸d)
theorem tJ:∀(b:Yh) (a:Yf) (T:Kn),(fW T b a).map (·.1)=T.map (·.1)
 | [],_,_=>by simp [fW]
 | _::_,[],_=>rfl
 | i::l,o::r,T=>by show (fW (gT T i o) l r).map _=_;rw [tJ l r,qh]
theorem wZ {q:Addr×Obj}:∀{d:Yh} {r:List Addr} {b:Yf} {T:Kn},(T.map (·.1)).Nodup→At T d r→d.length=b.length→q∈fW T d b→(q∈r.zip b)∨(q∈T∧q.1∉r)
 | [],_,b,T,_,h,_,c=>by
  cases h
  refine .inr ⟨?_,by simp⟩
  simpa [fW] using c
 | i::l,_,[],T,_,h,hl,c=>by simp at hl
 | i::l,_,o::b,T,nd,h,hl,c=>by
  cases h with
  | cons e h=>
   rename_i a j r
   rcases wZ (by rw [qh];exact nd) (h.put i o) (by simpa using hl) c with w | ⟨w,f⟩
   ·exact .inl (.tail _ w)
   ·rcases nO nd e w with rfl | ⟨w,g⟩
    ·exact .inl (.head _)
    ·refine .inr ⟨w,fun m => ?_⟩
     rcases List.mem_cons.mp m with m | m
     ·exact g m
     ·exact f m
theorem tK (l:Ya):∀(T:Kn),kS T l=T++l
 | []=>rfl
 | p::T=>by show p::kS T l=p::(T++l);rw [tK l T]
theorem dr.change (G:∀b o,V.kt.get b=some o→b<V.lo) (O:V.lo≤X.h₀.objs.size) (D:dr V X h T n) {k:Heap} {z:Nat} {j:Yh} {r:List Addr} {f:Yf} {i:Ya} (g:At T j r) (E:j.length=f.length)
  (H:k.objs.size=z) (le:n≤z) (y:∀b A,h.get? b=some A→b∉r→k.get? b=some A) (d:∀x∈r.zip f,k.get? x.1=some x.2)
  (u:∀p∈i,k.get? p.1=some p.2∧n≤p.1) (nd:(i.map (·.1)).Nodup):dr V X k (kS (fW T j f) i) z:=by
 have J:∀p∈T,p.1<n:=fun p d=>D.size▸Heap.lt_size (D.own p d)
 have w:∀q∈fW T j f,(q∈r.zip f)∨(q∈T∧q.1∉r):=fun q c=>wZ D.nd g E c
 have s:∀q∈fW T j f,∃p∈T,p.1=q.1:=fun q c=>by
  have:q.1∈(fW T j f).map (·.1):=List.mem_map_of_mem c
  rw [tJ] at this
  obtain ⟨p,d,e⟩:=List.mem_map.mp this
  exact ⟨p,d,e⟩
 rw [tK]
 refine ⟨H,fun q c => ?_,fun q c => ?_,?_,fun b o e => ?_,fun b o e m => ?_,fun q c => ?_,Nat.le_trans D.grow le⟩
 ·rcases List.mem_append.mp c with c | c
  ·rcases w q c with hx | ⟨c,F⟩
   ·exact d q hx
   ·exact y _ _ (D.own q c) F
  ·exact (u q c).1
 ·rcases List.mem_append.mp c with c | c
  ·obtain ⟨p,d,e⟩:=s q c
   rw [←e];exact D.hi p d
  ·exact Nat.le_trans (Nat.le_trans O D.grow) (u q c).2
 ·rw [List.map_append,tJ]
  refine List.nodup_append.mpr ⟨D.nd,nd,fun a C b B => ?_⟩
  obtain ⟨p,d,rfl⟩:=List.mem_map.mp C
  obtain ⟨q,c,rfl⟩:=List.mem_map.mp B
  exact Nat.ne_of_lt (Nat.lt_of_lt_of_le (J p d) (u q c).2)
 ·refine y b o (D.old b o e) fun m => ?_
  obtain ⟨p,d,t⟩:=g.mem _ m
  exact absurd (G _ o e) (by rw [←t];exact Nat.not_lt.mpr (D.hi p d))
 ·refine y b o (D.keep b o e m) fun I => ?_
  obtain ⟨p,d,t⟩:=g.mem _ I
  rcases D.new p d with q | q
  ·exact m (t▸q)
  ·exact absurd (Heap.lt_size e) (Nat.not_lt.mpr (t▸q))
 ·rcases List.mem_append.mp c with c | c
  ·obtain ⟨p,d,e⟩:=s q c
   rw [←e];exact D.new p d
  ·exact .inr (Nat.le_trans D.grow (u q c).2)
end
def bz (a:List Ob) (x:Option c1):Prop:=∀o,x=some o→∀y∈a,y∈o.ob
theorem bz.none {a:List Ob}:bz a none:=fun _ h=>by cases h
theorem bz.tl {a:List Ob} {z:Ob} {x:Option c1} (h:bz (z::a) x):bz a x:=fun o e y b=>h o e y (.tail _ b)
theorem bz.self {r:Rs} {T:Kn} {n c:Nat} {a:List Ob}:bz a (some ⟨r,T,n,c,a⟩):=fun o e y b=>by cases e;exact b
theorem lO {T:Kn}:∀{l:Yh} {r:Ya} {ob:List Ob} {y:Ob},y∈ob→y∈lM T l r ob
 | [],[],_,_,h=>h
 | [],_::_,_,_,h=>.tail _ h
 | _::_,[],_,_,h=>.tail _ h
 | _::l,_::r,_,_,h=>lO (l:=l) (r:=r) (.tail _ h)
theorem tL {T:Kn}:∀{l:Yh} {r:Ya} {ob:List Ob},(∀y∈lM T l r ob,y.Ok)→At T l (r.map (·.1))∧∀x∈r,x∈T
 | [],[],_,_=>⟨.nil,fun _ h=>by cases h⟩
 | [],_::_,ob,h=>absurd (h _ (.head _)) (by show ¬(0:Nat)=1;decide)
 | _::_,[],ob,h=>absurd (h _ (.head _)) (by show ¬(0:Nat)=1;decide)
 | i::l,x::r,ob,h=>by
  have q:=tL (l:=l) (r:=r) (ob:=.t (bW T i) (some x)::ob) h
  have e:bW T i=some x:=h _ (lO (l:=l) (r:=r) (ob:=.t (bW T i) (some x)::ob) (.head _))
  refine ⟨.cons (o:=x.2) e q.1,fun y a => ?_⟩
  rcases List.mem_cons.mp a with rfl | a
  ·exact dn e
  ·exact q.2 y a
theorem tM {α β : Type}:∀{l:List α} {r:List β},kR l r=true→l.length=r.length
 | [],[],_=>rfl
 | [],_::_,h=>by cases h
 | _::_,[],h=>by cases h
 | _::l,_::r,h=>by rw [List.length_cons,List.length_cons,tM (l:=l) (r:=r) h]
theorem qi {V:SV} {c:Code} {b:Yh} {d:List Ob} {k:Yh→List Ob→Option c1} (h:∀b d,bz d (k b d)):bz d (lN V c b d k):=by
 cases c with
 | builtin id a=>
  cases b with
  | nil=>exact bz.none
  | cons j b=>exact (h b _).tl
 | _=>exact h b d
theorem Dl {V:SV} {j:Nat} {m:Code} {a:List Oc} {g:List (Nat→Nat)} {T:Kn} {n c:Nat} {b:List Ob} {k:List Oc→List Ye→Result→Kn→Nat→Nat→List Ob→Option c1} (h:∀a g f T n c b,bz b (k a g f T n c b)):bz b (nK V j m a g T n c b k):=by
 unfold nK
 split
 ·exact bz.none
 ·rename_i o _
  split
  ·split
   rename_i f q p _
   split
   ·split
    ·intro d e y i;exact h _ _ _ _ _ _ _ d e y (lO (.tail _ i))
    ·exact bz.none
   ·exact bz.none
  ·split
   ·exact bz.none
   ·split
    split
    ·intro d e y i;exact h _ _ _ _ _ _ _ d e y (lO (.tail _ i))
    ·exact bz.none
theorem Dm {V:SV} {g:jW} (i:∀b c f κ t T n e d,bz d (g b c f κ t T n e d)) {t h:Sem Fin} {a:Addr} {k:Obj→Sem Fin} {b c f κ T n e d}:bz d (nL V g t a k b c f κ h T n e d):=by
 unfold nL
 split
 ·split
  ·split
   ·exact (i _ _ _ _ _ _ _ _ _).tl.tl
   ·exact bz.none
  ·exact bz.none
 ·exact bz.none
theorem Do (V:SV):∀h b i u κ t T n s m,bz m (d7 V h b i u κ t T n s m):=by
 intro h
 induction h with
 | zero=>intro b i u κ t T n s m;exact bz.none
 | succ h d=>
  intro b i u κ t T n s m
  show bz m (cm V (d7 V h) b i u κ t T n s m)
  have y:∀b i u r κ T n s m,bz m (qd (d7 V h) b i u r κ T n s m):=by
   intro b i u r κ T n s m
   cases κ with
   | base=>exact bz.self
   | code=>exact bz.self
   | ret=>exact d _ _ _ _ _ _ _ _ _
  cases t with
  | pure x=>
   cases x with
   | done f=>exact y _ _ _ _ _ _ _ _ _
   | again A=>
    cases b with
    | nil=>exact bz.none
    | cons p b=>
     cases κ with
     | base=>exact bz.none
     | code c=>
      rcases p with _ | _ | j
      ·exact qi fun _ _=>d _ _ _ _ _ _ _ _ _
      ·exact qi fun _ _=>bz.self
      ·exact bz.none
     | ret c k κ =>
      cases p with
      | zero=>exact qi fun _ _=>d _ _ _ _ _ _ _ _ _
      | succ=>exact bz.none
  | raise e=>exact y _ _ _ _ _ _ _ _ _
  | rule=>exact d _ _ _ _ _ _ _ _ _
  | «at» => exact d _ _ _ _ _ _ _ _ _
  | point=>exact d _ _ _ _ _ _ _ _ _
  | ask=>exact (d _ _ _ _ _ _ _ _ _).tl
  | fresh=>exact d _ _ _ _ _ _ _ _ _
  | load a q k=>
   cases b with
   | nil=>exact bz.none
   | cons p b=>
    cases p with
    | zero=>simp only [cm];split <;> first | exact d _ _ _ _ _ _ _ _ _ | exact bz.none
    | succ j=>simp only [cm];split <;> first | exact (d _ _ _ _ _ _ _ _ _).tl | exact Dm d
  | loadIfAlive a k=>
   cases b with
   | nil=>exact bz.none
   | cons p b=>
    cases p with
    | zero=>simp only [cm];split <;> first | exact d _ _ _ _ _ _ _ _ _ | exact bz.none
    | succ j=>simp only [cm];split <;> first | exact (d _ _ _ _ _ _ _ _ _).tl | exact bz.none
  | alloc o k=>simp only [cm];split <;> first | exact d _ _ _ _ _ _ _ _ _ | exact bz.none
  | update a q f k=>
   cases b with
   | nil=>exact bz.none
   | cons j b=>simp only [cm];split <;> first | (split <;> first | exact (d _ _ _ _ _ _ _ _ _).tl | exact bz.none) | exact bz.none
  | handled w k=>cases w <;> first | exact d _ _ _ _ _ _ _ _ _ | exact bz.none
  | stack k=>
   cases b with
   | nil=>exact bz.none
   | cons p b=>
    cases p with
    | zero=>simp only [cm];split <;> first | exact (d _ _ _ _ _ _ _ _ _).tl | exact bz.none
    | succ j=>simp only [cm];split <;> first | exact (d _ _ _ _ _ _ _ _ _).tl | exact bz.none
  | call A z g l k=>
   cases z with
   | some=>exact bz.none
   | none=>
    cases b with
    | nil=>exact bz.none
    | cons p b=>
     cases p with
     | zero=>simp only [cm];split <;> first | exact bz.none | exact qi fun _ _=>d _ _ _ _ _ _ _ _ _
     | succ j=>
      cases j with
      | zero=>exact bz.self
      | succ j=>
      simp only [cm]
      exact Dl fun _ _ _ _ _ _ _=>d _ _ _ _ _ _ _ _ _
  | _=>exact bz.none
section
variable {V:SV} {X:Cx} {L:Nat}
theorem fs.no (h:fs V X none):False:=by obtain ⟨o,e,_⟩:=h;cases e
theorem fs.mem {x:Option c1} {a:List Ob} (h:fs V X x) (s:bz a x) {y:Ob} (b:y∈a):y.Ok:=by
 obtain ⟨o,e,ok,_⟩:=h
 exact ok.ok y (s o e y b)
def w0 (L:Nat):List Oc:=List.replicate L (0,0,id)
theorem bZ:(w0 L).length=L:=List.length_replicate
theorem qj (G:gg V X) {c:Code} {d:Yh} {g:List Ob} {F:List Oc→Yh→List Ob→Option c1} (sub:∀b d g,bz g (F b d g))
  (H:∀b,b.length=L→fs V X (lN V c d g (F b))):fX c∧∃f h,∀b,b.length=L→fs V X (F b f h):=by
 by_cases k:∃id a,c = .builtin id a
 ·obtain ⟨id,a,rfl⟩:=k
  cases d with
  | nil=>exact (H _ bZ).no.elim
  | cons j d=>
   have n:∀b,b.length=L→fs V X (F b d (.i (some id) (bW V.ids j)::g)):=H
   have e:some id=bW V.ids j:=(n _ bZ).mem (sub _ _ _) (.head _)
   exact ⟨G.ids id (dn e.symm) a,_,_,n⟩
 ·have m:∀id a,c≠.builtin id a:=fun id a e=>k ⟨id,a,e⟩
  refine ⟨gU m,d,g,fun b o => ?_⟩
  have q:=H b o
  cases c with
  | builtin id a=>exact absurd rfl (m id a)
  | _=>exact q
theorem Dp (G:gg V X) {j:Nat} {I:Code} {T:Kn} {n z:Nat} {K:List Ob} {t:List (Nat→Nat)} {F:List Oc→List Ye→Result→Kn→Nat→Nat→List Ob→Option c1} (sub:∀b P f T n z K,bz K (F b P f T n z K))
  (H:∀b,b.length=L→fs V X (nK V j I b t T n z K F)) {A:Around} (hA:tH X A) {h:Heap} (D:dr V X h T n) {g:Bool} {l:Yb} {k:Result→Sem Fin} {Q:Fin→Shared→Prop} {E:Yd→Shared→Prop}
  (hR:∀L' hs' f T' J d Y B,(∀b,b.length=L'→fs V X (F b hs' f T' J d Y))→dr V X B T' J→wpAny V.M A (k f) Q E ⟨B,X.g,X.d,d,X.os⟩) :
  wpAny V.M A (.call I none g l k) Q E ⟨h,X.g,X.d,z,X.os⟩:=by
 unfold nK at H
 cases U:bW V.orcs j with
 | none=>simp only [U] at H;exact (H _ bZ).no.elim
 | some o=>
  simp only [U] at H
  obtain ⟨O,ok⟩:=G.orcs o (dn U)
  have w:V.lo≤h.objs.size:=Nat.le_trans G.low (D.size▸D.grow)
  cases P:o.strm with
  | false=>
   simp only [P] at H
   generalize u:jV I T o.pl t=a at H
   cases S:o.out a (fun i=>z+i) with
   | mk f q=>
    obtain ⟨ps,ads⟩:=q
    cases ads with
    | cons=>simp only [S] at H;exact (H _ bZ).no.elim
    | nil=>
     cases s:kR o.pl ps with
     | false=>simp only [S,s] at H;exact (H _ bZ).no.elim
     | true=>
      simp only [S,s] at H
      have N:=(H _ bZ)
      have e:I=o.code a:=N.mem (sub _ _ _ _ _ _ _) (lO (.head _))
      have nd:=tL (T:=T) (l:=o.pl) (r:=o.objs a) fun y hy=>N.mem (sub _ _ _ _ _ _ _) hy
      rw [e]
      refine ok a A hA h z g l k Q E (nd.1.nodup D.nd O) (fun x hx=>⟨D.own _ (nd.2 x hx),D.hi _ (nd.2 x hx)⟩) D.old w D.keep (fun x hx=>D.new _ (nd.2 x hx)) fun B d m hn le Z u C R => ?_
      obtain ⟨sz,rfl,rfl⟩:=hn P
      rw [S] at u ⊢
      have D':dr V X B (kS (fW T o.pl ps) []) n:=dr.change G.kt G.low D nd.1 (tM s) (sz.trans D.size) (Nat.le_refl _) Z u (fun p u=>by cases u) (by simp)
      rw [tK,List.append_nil] at D'
      exact hR L _ _ _ _ _ _ _ H D'
  | true=>
   simp only [P] at H
   generalize u:jV I T o.pl t=a at H
   cases L with
   | zero=>exact (H [] rfl).no.elim
   | succ L=>
    have H':∀J d m,kR o.pl (o.out a m).2.1=true∧∀b,b.length=L→fs V X (F b (ja t m) (lL o.bad (o.out a m).1) (kS (fW T o.pl (o.out a m).2.1) (o.out a m).2.2) J d (lM T o.pl (o.objs a) (.c I (o.code a)::K))):=by
     intro J d m
     cases s:kR o.pl (o.out a m).2.1 with
     | false=>
      have:=H ((J,d,m)::w0 L) (by rw [List.length_cons,bZ])
      simp only [s] at this
      exact this.no.elim
     | true=>
      refine ⟨rfl,fun b hl => ?_⟩
      have:=H ((J,d,m)::b) (by rw [List.length_cons,hl])
      simp only [s] at this
      exact this
    have N:=((H' 0 0 id).2 _ bZ)
    have e:I=o.code a:=N.mem (sub _ _ _ _ _ _ _) (lO (.head _))
    have nd:=tL (T:=T) (l:=o.pl) (r:=o.objs a) fun y hy=>N.mem (sub _ _ _ _ _ _ _) hy
    rw [e]
    refine ok a A hA h z g l k Q E (nd.1.nodup D.nd O) (fun x hx=>⟨D.own _ (nd.2 x hx),D.hi _ (nd.2 x hx)⟩) D.old w D.keep (fun x hx=>D.new _ (nd.2 x hx)) fun B d m _ le Z u C R => ?_
    rw [D.size] at le C
    exact hR L _ _ _ _ _ _ _ (H' B.objs.size d m).2 (dr.change G.kt G.low D nd.1 (tM (H' B.objs.size d m).1) rfl le Z u C R)
theorem tN (a:X.A₀.handled=none):∀κ : Ko,(AK X κ).handled=none
 | .base=>a
 | .code _=>a
 | .ret _ _ κ => tN a κ
theorem tO:∀κ : Ko,nN κ→(AK X κ).depth≤X.A₀.depth + κ.len∧(AK X κ).units≤X.A₀.units+4 * κ.len
 | .base,_=>⟨Nat.le_refl _,Nat.le_refl _⟩
 | .code c,h=>by
  have a:=h.weight;have b:=h.units
  show X.A₀.depth+c.weight≤X.A₀.depth+1∧X.A₀.units+c.cUnits≤X.A₀.units+4*1
  lia
 | .ret c k κ,h=>by
  have a:=h.1.weight;have b:=h.1.units
  have q:=tO κ h.2
  show (AK X κ).depth+c.weight≤X.A₀.depth+(κ.len+1)∧(AK X κ).units+c.cUnits≤X.A₀.units+4*(κ.len+1)
  lia
theorem Dq (G:gg V X) {κ : Ko} (a:nN κ) (b : κ.len≤45):tH X (AK X κ):=by
 have q:=tO (X:=X) κ a
 exact ⟨tN G.hd κ,by lia,by lia⟩
end
section
variable {V:SV} {X:Cx}
abbrev St (X:Cx) (h:Heap) (a:Nat):Shared:=⟨h,X.g,X.d,a,X.os⟩
theorem Dr (G:gg V X) {c a:Code} {s:Shared} (t:fX a) (h:Mn V X (.code a) (denote table a) s):QK V X (.code c) (En V X (.code c)) (.again a) s:=
 ⟨t.quiet,codeAny_of_tree (wpAny_mono h (fun b d q=>by cases b <;> exact q) fun _ _ q=>q)⟩
theorem Ds (G:gg V X) {c a:Code} {k:Result→Sem Fin} {κ : Ko} {s:Shared} (t:fX a) (h:Mn V X (.ret a k κ) (denote table a) s):QK V X (.ret c k κ) (En V X (.ret c k κ)) (.again a) s:=
 ⟨t.quiet,codeAny_of_tree (wpAny_mono h (fun b d q=>by cases b <;> exact q) fun _ _ q=>q)⟩
theorem Dt (G:gg V X) {a:Code} {g:Bool} {l:Yb} {k:Result→Sem Fin} {κ : Ko} {s:Shared} (h:Mn V X (.ret a k κ) (denote table a) s):Mn V X κ (.call a none g l k) s:=by
 refine x_call (hd:=none) ?_ (by intro e;cases e)
 exact codeAny_of_tree (A:=AK X κ) (wpAny_mono h (fun b c q=>by cases b <;> exact q) fun _ _ q=>q)
theorem wpAny_letGo {M:Model} {A:Around} {Q:Unit→Shared→Prop} {E:Yd→Shared→Prop} {s:Shared} {a b:Addr} {e:Nat} {c:Yb} (d:s.heap.get? a=some (aW e (rawInt b) c))
  (g:Q () {s with heap:=s.heap.update a (Obj.mapFields (·.setIfInBounds 0 .none))}):wpAny M A (letOwnedTupleGo (.Tuple [] 0 ⟨0,0,0,0⟩) (.ref a) (.ref b)) Q E s:=by
 unfold letOwnedTupleGo
 refine wpAny_bind (wpAny_load d ?_)
 have h:(["enumerate","zip","dict_itemiterator","dict_reverseitemiterator","odict_iterator","itertools.zip_longest","itertools.pairwise"].contains (qe e)&&((rawInt b::c).toArray)[0]? == some (rawInt b))=true:=by
  cases e <;> simp [qe]
 show wpAny M A (if (["enumerate","zip","dict_itemiterator","dict_reverseitemiterator","odict_iterator","itertools.zip_longest","itertools.pairwise"].contains (qe e)&&((rawInt b::c).toArray)[0]? == some (rawInt b))=true then _ else _) Q E s
 rw [if_pos h]
 refine wpAny_bind (wpAny_rule ?_)
 unfold updateField
 refine wpAny_bind (wpAny_load d ?_)
 show wpAny M A (if 0<((rawInt b::c).toArray).size then _ else _) Q E s
 rw [if_pos (by simp)]
 exact wpAny_update d g
theorem Du (G:gg V X) {L:Nat} {f:jW} (sub:∀b c s κ t T n i p,bz p (f b c s κ t T n i p)) {I:Sem Fin} {a:Addr} {q:Option Yd} {k:Obj→Sem Fin} {b:Yh} {s:List (Nat→Nat)} {κ : Ko} {T:Kn} {n i:Nat} {p:List Ob} {h:Heap}
  (H:∀c,c.length=L→fs V X (nL V f (.load a q k) a k b c s κ I T n i p)) (D:dr V X h T n)
  (F:∀g A u w,(∀c,c.length=L→fs V X (f g c s κ (k V.oS) A n i u))→dr V X w A n→Mn V X κ (k V.oS) (St X w i)):Mn V X κ (.load a q k) (St X h i):=by
 unfold nL at H
 split at H
 ·rename_i K J e b
  cases j:bW T K with
  | none=>simp only [j] at H;exact (H _ bZ).no.elim
  | some d=>
   cases C:bW T J with
   | none=>simp only [j,C] at H;exact (H _ bZ).no.elim
   | some o=>
    simp only [j,C] at H
    have N:Sem.load a q k=V.bd (V.lg (.ref a) (.ref o.1)) fun _=>k V.oS:=(H _ bZ).mem (sub _ _ _ _ _ _ _ _ _) (.head _)
    have B:some d=some (a,aW e (rawInt o.1) (restOf d.2)):=(H _ bZ).mem (sub _ _ _ _ _ _ _ _ _) (.tail _ (.head _))
    have z:d.1=a:=congrArg (·.1) (Option.some.inj B)
    have x:d.2=aW e (rawInt o.1) (restOf d.2):=congrArg (·.2) (Option.some.inj B)
    have E:h.get? a=some (aW e (rawInt o.1) (restOf d.2)):=by rw [←z,←x];exact D.own d (dn j)
    rw [N,G.bd,G.lg]
    refine wpAny_bind (m:=letOwnedTupleGo _ _ _) (wpAny_letGo E ?_)
    refine F b _ _ _ H ?_
    have y:aW e .none (restOf d.2)=Obj.mapFields (·.setIfInBounds 0 .none) d.2:=by
     rw [x];simp [aW,Obj.mapFields,restOf]
    rw [y,←z]
    exact D.update G.kt j (by rw [←y];rfl)
 ·exact (H _ bZ).no.elim
theorem tP (G:gg V X):∀(u L:Nat) (b:Yh) (w:List (Nat→Nat)) (κ : Ko) (t:Sem Fin) (T:Kn) (n d:Nat) (x:List Ob) (h:Heap),(∀s,s.length=L→fs V X (d7 V u b s w κ t T n d x))→nN κ→κ.len≤45→dr V X h T n→Mn V X κ t (St X h d):=by
 intro u
 induction u with
 | zero=>intro L b w κ t T n d x h H;exact (H _ bZ).no.elim
 | succ u C=>
  intro L b w κ t T n d x h H y B D
  replace H:∀s,s.length=L→fs V X (cm V (d7 V u) b s w κ t T n d x):=H
  have sub:=Do V u
  have I:=G.den
  have N:∀(b:Yh) (r:Result) (T:Kn) (n d:Nat) (x:List Ob) (h:Heap),(∀s,s.length=L→fs V X (qd (d7 V u) b s w r κ T n d x))→dr V X h T n→En V X κ r (St X h d):=by
   intro b r T n d x h H D
   cases κ with
   | base=>
    obtain ⟨o,e,_,q⟩:=H _ bZ
    cases e
    exact q h D
   | code c=>
    obtain ⟨o,e,_,q⟩:=H _ bZ
    cases e
    exact q h D
   | ret c k κ => exact C L b w κ (k r) T n d x h H y.2 (by have : κ.len+1≤45:=B;lia) D
  cases t with
  | pure fin=>
   cases fin with
   | done f=>exact wpAny_pure (N _ _ _ _ _ _ _ H D)
   | again E=>
    refine wpAny_pure ?_
    cases b with
    | nil=>exact (H _ bZ).no.elim
    | cons K b=>
     cases κ with
     | base=>exact (H _ bZ).no.elim
     | code c=>
      rcases K with _ | _ | j
      ·simp only [cm] at H
       obtain ⟨t,i,A,J⟩:=qj G (F:=fun s b x=>d7 V u b s w (.code E) (V.den E) T n d x) (fun _ _ _=>sub _ _ _ _ _ _ _ _ _) H
       exact Dr G t (I▸C L i w (.code E) (V.den E) T n d A h J t B D)
      ·simp only [cm] at H
       obtain ⟨t,i,A,J⟩:=qj G (F:=fun s b x=>some ⟨.again E,T,n,d,x⟩) (fun _ _ _=>bz.self) H
       obtain ⟨o,e,_,q⟩:=J _ bZ
       cases e
       exact ⟨t.quiet,q h D⟩
      ·exact (H _ bZ).no.elim
     | ret c k κ =>
      cases K with
      | zero=>
       simp only [cm] at H
       obtain ⟨t,i,A,J⟩:=qj G (F:=fun s b x=>d7 V u b s w (.ret E k κ) (V.den E) T n d x) (fun _ _ _=>sub _ _ _ _ _ _ _ _ _) H
       exact Ds G t (I▸C L i w (.ret E k κ) (V.den E) T n d A h J ⟨t,y.2⟩ B D)
      | succ j=>exact (H _ bZ).no.elim
  | raise e=>exact wpAny_throw (N _ _ _ _ _ _ _ H D)
  | rule tag k=>exact x_rule (C L b w κ (k ()) T n d x h H y B D)
  | «at» q k=>exact x_at (C L b w κ (k ()) T n d x h H y B D)
  | point l k=>exact x_point (C L b w κ (k ()) T n d x h H y B D)
  | ask k=>
   have R:k ⟨V.prog,V.pb⟩=k ⟨V.prog,V.pa⟩:=(H _ bZ).mem (sub _ _ _ _ _ _ _ _ _) (.head _)
   refine x_ask ?_
   have ek:k ⟨V.prog,V.w.params⟩=k ⟨V.prog,V.pa⟩:=by
    rcases G.pab with e | e
    ·rw [e]
    ·rw [e,R]
   show wpAny V.M (AK X κ) (k ⟨V.prog,V.w.params⟩) _ _ _
   rw [ek]
   exact C L b w κ (k _) T n d _ h H y B D
  | fresh k=>exact x_fresh (C L b w κ (k d) T n (d+1) x h H y B D)
  | load a q k=>
   cases b with
   | nil=>exact (H _ bZ).no.elim
   | cons K b=>
    cases K with
    | zero=>
     cases e:V.kt.get a with
     | none=>simp only [cm,e] at H;exact (H _ bZ).no.elim
     | some o=>
      simp only [cm,e] at H
      exact x_load (D.old a o e) (C L b w κ (k o) T n d x h H y B D)
    | succ j=>
     cases e:bW T j with
     | none=>
      simp only [cm,e] at H
      exact Du G sub H D (fun i Y A h' J D'=>C L i w κ (k V.oS) Y n d A h' J y B D')
     | some p=>
      simp only [cm,e] at H
      have Q:a=p.1:=(H _ bZ).mem (sub _ _ _ _ _ _ _ _ _) (.head _)
      exact x_load (by rw [Q];exact D.own p (dn e)) (C L b w κ (k p.2) T n d _ h H y B D)
  | loadIfAlive a k=>
   have al:∀{o:Obj},h.get? a=some o→Mn V X κ (k (some o)) (St X h d)→Mn V X κ (.loadIfAlive a k) (St X h d):=by
    intro o ho q Γ p hΓ
    have z:=q Γ p hΓ
    show Sem.wp _ _ (k (h.get? a)) _ _ _ _
    rw [ho];exact z
   cases b with
   | nil=>exact (H _ bZ).no.elim
   | cons K b=>
    cases K with
    | zero=>
     cases e:V.kt.get a with
     | none=>simp only [cm,e] at H;exact (H _ bZ).no.elim
     | some o=>
      simp only [cm,e] at H
      exact al (D.old a o e) (C L b w κ (k (some o)) T n d x h H y B D)
    | succ j=>
     cases e:bW T j with
     | none=>simp only [cm,e] at H;exact (H _ bZ).no.elim
     | some p=>
      simp only [cm,e] at H
      have Q:a=p.1:=(H _ bZ).mem (sub _ _ _ _ _ _ _ _ _) (.head _)
      exact al (by rw [Q];exact D.own p (dn e)) (C L b w κ (k (some p.2)) T n d _ h H y B D)
  | alloc o k=>
   cases P:o.isFreed with
   | true=>simp only [cm,P] at H;exact (H _ bZ).no.elim
   | false=>
    simp only [cm,P] at H
    have z:=C L b w κ (k n) (ja T (n,o)) (n+1) d x (h.push o) H y B (D.alloc G.low P)
    refine wpAny_bind (m:=alloc o) (f:=k) (wpAny_alloc ?_)
    show wpAny _ _ (k h.objs.size) _ _ _
    rw [D.size];exact z
  | update a q f k=>
   cases b with
   | nil=>exact (H _ bZ).no.elim
   | cons j b=>
    cases e:bW T j with
    | none=>simp only [cm,e] at H;exact (H _ bZ).no.elim
    | some p=>
     cases P:(f p.2).isFreed with
     | true=>simp only [cm,e,P] at H;exact (H _ bZ).no.elim
     | false=>
      simp only [cm,e,P] at H
      have Q:a=p.1:=(H _ bZ).mem (sub _ _ _ _ _ _ _ _ _) (.head _)
      have z:=C L b w κ (k ()) (gT T j (f p.2)) n d _ (h.update p.1 f) H y B (D.update G.kt e P)
      subst Q
      exact wpAny_bind (m:=updatePart p.1 q f) (f:=k) (wpAny_updatePart (D.own p (dn e)) z)
  | handled U k=>
   cases U with
   | true=>exact (H _ bZ).no.elim
   | false=>
    refine x_handled ?_
    rw [tN G.hd κ]
    exact C L b w κ (k none) T n d x h H y B D
  | stack k=>
   cases b with
   | nil=>exact (H _ bZ).no.elim
   | cons K b=>
    have q:=tO (X:=X) κ y
    cases K with
    | zero=>
     simp only [cm] at H
     cases e:k [] with
     | load a0 p0 kk=>
      simp only [e] at H
      have R:Sem.stack k=V.bd V.ef fun _=>kk V.oS:=(H _ bZ).mem (sub _ _ _ _ _ _ _ _ _) (.head _)
      rw [R,G.bd,G.ef]
      have dep:=G.depth
      exact wpAny_bind (m:=enterFrame) (wpAny_enterFrame (G.lim _ (D.old _ _ G.stat)) (by lia) (C L b w κ _ T n d _ h H y B D))
     | _=>simp only [e] at H;exact (H _ bZ).no.elim
    | succ j=>
     cases e:bW V.words j with
     | none=>simp only [cm,e] at H;exact (H _ bZ).no.elim
     | some O=>
      simp only [cm,e] at H
      have R:Sem.stack k=V.bd (V.cr O) fun _=>k []:=(H _ bZ).mem (sub _ _ _ _ _ _ _ _ _) (.head _)
      rw [R,G.bd,G.cr]
      have un:=G.units
      exact wpAny_bind (m:=cRoom O) (wpAny_cRoom (by lia) (C L b w κ _ T n d _ h H y B D))
  | call E hd g l k=>
   cases hd with
   | some=>exact (H _ bZ).no.elim
   | none=>
    cases b with
    | nil=>exact (H _ bZ).no.elim
    | cons K b=>
     cases K with
     | zero=>
      cases S:Nat.ble 44 κ.len with
      | true=>simp only [cm,S] at H;exact (H _ bZ).no.elim
      | false=>
       simp only [cm,S] at H
       obtain ⟨t,i,A,J⟩:=qj G (F:=fun s b x=>d7 V u b s w (.ret E k κ) (V.den E) T n d x) (fun _ _ _=>sub _ _ _ _ _ _ _ _ _) H
       have lt : κ.len<44:=by
        rcases Nat.lt_or_ge κ.len 44 with q | q
        ·exact q
        ·rw [Nat.ble_eq_true_of_le q] at S;cases S
       exact Dt G (I▸C L i w (.ret E k κ) (V.den E) T n d A h J ⟨t,y⟩ (by show κ.len+1≤45;lia) D)
     | succ j=>
      cases j with
      | zero=>
      obtain ⟨o,e,_,q⟩:=H _ bZ
      cases e
      exact q h D y B g l
      | succ j=>
      simp only [cm] at H
      refine (Dp G (F:=fun s w f T n d x=>d7 V u b s w κ (k f) T n d x) (fun _ _ _ _ _ _ _=>sub _ _ _ _ _ _ _ _ _) H (Dq G y B) D ?_)
      intro L' Z f Y n' tk' A h' J D'
      exact C L' b Z κ (k f) Y n' tk' A h' J y B D'
  | _=>exact (H _ bZ).no.elim
end
structure bf where
 prog:Program
 w:Yc
 pa:Params
 pb:Params
 den:Code→Sem Fin
 kt:KT
 lo:Nat
 oS:Obj
 ef:Sem Unit
 cr:String→Sem Unit
 bd:Sem Unit→(Unit→Sem Fin)→Sem Fin
 lg:Yd→Yd→Sem Unit
 words:List String
 ids:List String
def bf.sv (B:bf) (orcs:List aH):SV:=⟨B.prog,B.w,B.pa,B.pb,B.den,B.kt,B.lo,B.oS,B.ef,B.cr,B.bd,B.lg,B.words,B.ids,orcs⟩
structure bf.Ok (B:bf):Prop where
 den:B.den=denote table
 pab:B.w.params=B.pa∨B.w.params=B.pb
 ef:B.ef=enterFrame
 cr:B.cr=cRoom
 bd:B.bd=fun a b=>a.bind b
 lg:B.lg=letOwnedTupleGo (.Tuple [] 0 ⟨0,0,0,0⟩)
 kt:∀b o,B.kt.get b=some o→b<B.lo
 stat:B.kt.get cStatics=some B.oS
 lim:∀h:Heap,h.get? cStatics=some B.oS→h.NoLimit
 ids:∀id∈B.ids,nM id
def bf.In (B:bf) (h:Heap):Prop:=(∀b o,B.kt.get b=some o→h.get? b=some o)∧B.lo≤h.objs.size
abbrev bf.M (B:bf):Model:=model B.prog B.w
def Lv (m:Nat) (A:Around):Prop:=A.handled=none∧A.depth+48*m≤900∧A.units+256*m≤9000
theorem Lv.le {m n:Nat} {A:Around} (h:Lv n A) (l:m≤n):Lv m A:=⟨h.1,by have:=h.2.1;lia,by have:=h.2.2;lia⟩
def aH.Sure (B:bf) (m:Nat) (o:aH):Prop:=o.pl.Nodup∧∀(a:af) (A:Around),Lv m A→∀(h:Heap) (j:Nat) (s:Array GenState) (d:Drawn) (q:OsState) (g:Bool) (l:Yb) (k:Result→Sem Fin) (Q:Fin→Shared→Prop) (E:Yd→Shared→Prop),
 ((o.objs a).map (·.1)).Nodup→(∀x∈o.objs a,h.get? x.1=some x.2∧B.lo≤x.1)→B.In h→
 (∀(c:Heap) (f:Nat) (e:Ye),(o.strm=false→c.objs.size=h.objs.size∧f=j+o.dt∧e=fun i=>j+i)→h.objs.size≤c.objs.size→
  (∀b n,h.get? b=some n→b∉(o.objs a).map (·.1)→c.get? b=some n)→
  (∀x∈((o.objs a).map (·.1)).zip (o.out a e).2.1,c.get? x.1=some x.2)→
  (∀p∈(o.out a e).2.2,c.get? p.1=some p.2∧h.objs.size≤p.1)→((o.out a e).2.2.map (·.1)).Nodup→
  wpAny B.M A (k (lL o.bad (o.out a e).1)) Q E ⟨c,s,d,f,q⟩)→
 wpAny B.M A (.call (o.code a) none g l k) Q E ⟨h,s,d,j,q⟩
theorem aH.Sure.le {B:bf} {m n:Nat} {o:aH} (h:o.Sure B m) (l:m≤n):o.Sure B n:=⟨h.1,fun a A b=>h.2 a A (b.le l)⟩
abbrev e4:=Except Code Flow×Yf×Ya
def aL (B:bf) (m:Nat) (c:Code) (need:Ya) (a:Ye→e4):Prop:=
 ∀(A:Around),Lv m A→∀(h:Heap) (o:Nat) (k:Array GenState) (d:Drawn) (j:OsState) (R:Result→Shared→Prop),
  (need.map (·.1)).Nodup→(∀p∈need,h.get? p.1=some p.2∧B.lo≤p.1)→B.In h→
  (∀(e:Heap) (g:Nat) (i:Ye),h.objs.size≤e.objs.size→(∀b n,h.get? b=some n→b∉need.map (·.1)→e.get? b=some n)→
   (∀x∈(need.map (·.1)).zip (a i).2.1,e.get? x.1=some x.2)→(∀p∈(a i).2.2,e.get? p.1=some p.2∧h.objs.size≤p.1)→((a i).2.2.map (·.1)).Nodup→
   match (a i).1 with
   | .ok f=>R (.ok f) ⟨e,k,d,g,j⟩
   | .error q=>codeAny B.M A q R ⟨e,k,d,g,j⟩)→
  codeAny B.M A c R ⟨h,k,d,o,j⟩
def lP (x:Flow×Yf×Ya):e4:=(.ok x.1,x.2)
abbrev aC (B:bf) (m:Nat) (c:Code) (a:Ya) (out:Ye→Flow×Yf×Ya):Prop:=aL B m c a fun b=>lP (out b)
def bA (code:af→Code) (pl:Yh) (objs:af→Ya) (out:af→Ye→Flow×Yf×Ya):aH:=
 {code,pl,objs,strm:=true,out}
theorem bS {B:bf} {m:Nat} {code:af→Code} {i:Yh} {b:af→Ya} {out:af→Ye→Flow×Yf×Ya}
  (s:i.Nodup) (D:∀a,aC B m (code a) (b a) (out a)):(bA code i b out).Sure B m:=by
 refine ⟨s,fun a A t h n w d u g l k Q E nd x j z => ?_⟩
 refine x_call (hd:=none) ?_ (by intro e;cases e)
 exact D a A t h n w d u _ nd x j fun p f q le y o C c=>z p f q (fun e=>by cases e) le y o C c
def kX (a:Yh) (o:c1):Rs×List (Option (Addr×Obj))×List Ob:=(o.r,a.map (bW o.T),o.ob.map Ob.l)
def kY:Option c1→List Ob
 | some o=>o.ob
 | none=>[]
theorem w1 {x:Option c1} {a:Yh} {r:Rs} {b:List (Option (Addr×Obj))} (h:x.map (kX a)=some (r,b,(kY x).map Ob.r)):∃o,x=some o∧lK o.ob∧o.r=r∧a.map (bW o.T)=b:=by
 cases x with
 | none=>cases h
 | some o=>
  have e:=Option.some.inj h
  exact ⟨o,rfl,congrArg (fun y:Rs×List (Option (Addr×Obj))×List Ob=>y.2.2) e,congrArg (fun y:Rs×List (Option (Addr×Obj))×List Ob=>y.1) e,congrArg (fun y:Rs×List (Option (Addr×Obj))×List Ob=>y.2.1) e⟩
theorem tQ {B:bf} (O:B.Ok) {m:Nat} {A:Around} (a:Lv (m+1) A) {orcs:List aH} (i:∀o∈orcs,o.Sure B m) {X:Cx} (n:X.A₀ = A) (b:B.lo≤X.h₀.objs.size):gg (B.sv orcs) X:=by
 subst n
 refine ⟨O.den,O.pab,O.ef,O.cr,O.bd,O.lg,O.kt,O.stat,O.lim,O.ids,a.1,?_,?_,b,fun o f => ?_⟩
 ·have:=a.2.1
  have e:recursionLimit=1000:=rfl
  lia
 ·have:=a.2.2
  have e:cLine=9900:=rfl
  lia
 ·refine ⟨(i o f).1,fun d s c h j g l k Q E nd t u q _ _ p => ?_⟩
  exact (i o f).2 d s ⟨c.1,by have:=a.2.1;have:=c.2.1;lia,by have:=a.2.2;have:=c.2.2;lia⟩ h j _ _ _ g l k Q E nd t ⟨u,q⟩ p
theorem jb {T:Kn}:∀{a:Yh} {b:Ya},a.map (bW T)=b.map some→∀p∈b,∃i∈a,bW T i=some p
 | [],[],_,_,h=>by cases h
 | [],_::_,e,_,_=>by cases e
 | _::_,[],e,_,_=>by cases e
 | i::a,v::b,e,p,h=>by
  simp only [List.map_cons,List.cons.injEq] at e
  rcases List.mem_cons.mp h with rfl | h
  ·exact ⟨i,.head _,e.1⟩
  ·obtain ⟨j,c,q⟩:=jb e.2 p h
   exact ⟨j,.tail _ c,q⟩
theorem lQ {T:Kn} (nd:(T.map (·.1)).Nodup):∀{a:Yh} {c:Ya},a.Nodup→a.map (bW T)=c.map some→(c.map (·.1)).Nodup
 | [],[],_,_=>List.nodup_nil
 | [],_::_,_,e=>by cases e
 | _::_,[],_,_=>List.nodup_nil
 | i::a,v::c,ns,e=>by
  simp only [List.map_cons,List.cons.injEq] at e
  rw [List.nodup_cons] at ns
  rw [List.map_cons,List.nodup_cons]
  refine ⟨fun f => ?_,lQ nd ns.2 e.2⟩
  obtain ⟨p,d,q⟩:=List.mem_map.mp f
  obtain ⟨j,g,b⟩:=jb e.2 p d
  exact ns.1 (tI nd b e.1 q▸g)
def nP:Except Code Flow→Rs
 | .ok f=>.ret (.ok f)
 | .error c=>.again c
theorem Dv {B:bf} (O:B.Ok) {m:Nat} {c:Code} {g:Ya} {s:Ye→e4} {k:List aH} (hs:∀o∈k,o.Sure B m) (Y:∀id a,c≠.builtin id a)
  (u L:Nat) (y J:Yh) (I:Nat→Nat→List Oc→Nat→Nat) (T:J.Nodup) (hz:∀a,(s a).2.1.length=g.length)
  (E:∀n C j,j.length=L→(d7 (B.sv k) u y j [] (.code c) (B.den c) g n C []).map (kX J) =
   some (nP (s (I n C j)).1,((g.map (·.1)).zip (s (I n C j)).2.1++(s (I n C j)).2.2).map some,(kY (d7 (B.sv k) u y j [] (.code c) (B.den c) g n C [])).map Ob.r)):aL B (m+1) c g s:=by
 intro A hA h C V d U R Q X S hR
 have G:gg (B.sv k) ⟨h,g.map (·.1),A,R,V,d,U⟩:=tQ O hA hs rfl S.2
 have D:dr (B.sv k) ⟨h,g.map (·.1),A,R,V,d,U⟩ h g h.objs.size:=⟨rfl,fun p F=>(X p F).1,fun p F=>(X p F).2,Q,S.1,fun _ _ e _=>e,fun p F=>.inl (List.mem_map_of_mem (f:=(·.1)) F),Nat.le_refl _⟩
 have t:=gU Y
 have z:=tP G u L y [] (.code c) (B.den c) g h.objs.size C [] h (fun j hl=>by
  obtain ⟨o,e,ok,er,ev⟩:=w1 (E h.objs.size C j hl)
  refine ⟨o,e,ok,fun Z H => ?_⟩
  have P:=hR Z o.tk (I h.objs.size C j) (by rw [H.size];exact H.grow) (fun b ob q hb=>H.keep b ob q hb) (fun x hx => ?_) (fun p F => ?_) ?_
  ·rw [er]
   revert P
   cases (s (I h.objs.size C j)).1 with
   | ok f=>exact id
   | error c'=>exact id
  ·obtain ⟨i,_,w⟩:=jb ev x (List.mem_append_left _ hx)
   exact H.own x (dn w)
  ·obtain ⟨i,hi,w⟩:=jb ev p (List.mem_append_right _ F)
   refine ⟨H.own p (dn w),?_⟩
   rcases H.new p (dn w) with v | v
   ·exfalso
    have K:=lQ H.nd T ev
    rw [List.map_append,List.map_fst_zip (by rw [hz,List.length_map];exact Nat.le_refl _)] at K
    exact (List.nodup_append.mp K).2.2 p.1 v p.1 (List.mem_map_of_mem F) rfl
   ·exact v
  ·have K:=lQ H.nd T ev
   rw [List.map_append] at K
   exact (List.nodup_append.mp K).2.1) t (by show 1≤45;decide) D
 exact codeAny_of_tree (wpAny_mono (O.den▸z) (fun N s' q=>by cases N <;> exact q) fun _ _ q=>q)
theorem d8 {M:Model} {A:Around} {f:Yd} {b:Yb} {g:Bool} {l:Yb} {k:Result→Sem Fin} {Q:Fin→Shared→Prop} {E:Yd→Shared→Prop} {s:Shared}
  (h:wpAny M A (call f b []) (fun v c=>wpAny M A (k (.ok (.ret v))) Q E c) (fun e c=>wpAny M A (k (.error e)) Q E c) s):wpAny M A (.call (.call f ⟨b,[]⟩) none g l k) Q E s:=by
 intro Γ p a
 have z:=h Γ p a
 unfold call at z
 rw [Sem.wp_runValue] at z
 refine wpCode_mono (fun r c q => ?_) z
 cases r with
 | error e=>exact q Γ p a
 | ok f=>
  cases f with
  | ret v=>exact q Γ p a
  | _=>exact q.elim
def bs (id:String) (a:af→Yb) (v:af→Ye→Yd):aH:={code:=fun p=>.call (.builtin id) ⟨a p,[]⟩,strm:=true,out:=fun p b=>(.ret (v p b),[],[])}
theorem jX {B:bf} {m:Nat} {id:String} {a:af→Yb} {v:af→Ye→Yd}
  (H:∀(p:af) (A:Around) (s:Shared) (Q:Yd→Shared→Prop) (E:Yd→Shared→Prop),(∀b k,Q (v p b) {s with toks:=k})→wpAny B.M A (call (.builtin id) (a p)) Q E s):(bs id a v).Sure B m:=by
 refine ⟨List.nodup_nil,fun c A _ h n q d o g l k Q E _ _ _ i => ?_⟩
 refine d8 (H c A _ _ _ fun b j => ?_)
 exact i h j b (fun e=>by cases e) (Nat.le_refl _) (fun _ _ e _=>e) (fun _ hx=>(nomatch hx)) (fun _ hx=>(nomatch hx)) List.nodup_nil
section
open PySem.Builtin PySem.Builtin.Str
section
variable {B:bf} {m:Nat}
theorem nQ {id:String} {d:Str} {F:Builtin} {x:af→Str} {t:af→Tok} {a:af→Yb} {f:af→Made} {v:af→Ye→Yd} (c:Slot "str" d id)
  (b:entryFor table id=some F) (e:∀p,argsOk id ⟨.str (x p) (t p)::a p,[]⟩) (g:∀p,Gives (F ⟨.str (x p) (t p)::a p,[]⟩) (f p))
  (j:∀p s (Q:Yd→Shared→Prop),(∀n k,Q (v p n) {s with toks:=k})→(f p).post Q s):(bs id (fun p=>.str (x p) (t p)::a p) v).Sure B m:=
 jX fun p _ s Q _ h=>call_gives c (typeIs_str s _ _) b (e p) (g p) (j p s Q h)
def o2 (id:String) (x y:Str) (v:Ye→Yd):aH:=bs id (fun p=>[.str x (p 0 0),.str y (p 0 1)]) fun _ a=>v a
theorem cn {x y:Str} {b:Bool} (e:Txt.startswith x y=b):(o2 "str.startswith" x y fun _=>.bool b).Sure B m:=
 jX fun _ _ s _ _ h=>SC.startswith (by rw [e];exact h id s.toks)
theorem Dw {x y:Str} {b:Bool} (e:Txt.endswith x y=b):(o2 "str.endswith" x y fun _=>.bool b).Sure B m:=
 jX fun _ _ s _ _ h=>SC.endswith (by rw [e];exact h id s.toks)
theorem lR {x y:Str} {i:Int} (e:Txt.rfind x y=i):(o2 "str.rfind" x y fun a=>.int i (a 0)).Sure B m:=
 jX fun _ _ s _ _ h=>SC.rfind (by rw [e];exact h (fun _=>s.toks) (s.toks+1))
theorem w2 {x y z:Str} (e:Txt.rstripChars x y=z) (hx:x.length≤1000):(o2 "str.rstrip" x y fun a=>.str z (a 0)).Sure B m:=
 jX fun _ _ s _ _ h=>SC.rstripChars (fun b k=>by rw [e];exact h (fun _=>b) k) (Nat.le_trans hx (by decide))
theorem fY {x y z:Str} (e:x++y=z) (hx:(x.length==0)=false) (a:(y.length==0)=false) (b:z.length≤1000):(o2 "str.__add__" x y fun c=>.str z (c 0)).Sure B m:=
 nQ F.slot_str_add F.entry_str_add (fun _=>F.args_str_add_2 _ _) (fun _=>gives_str_add _ _ _ _) fun _ s _ h=>by
  rw [hx,a]
  exact ⟨by rw [e];exact Nat.le_trans b (by decide),by rw [e];exact h (fun _=>s.toks) (s.toks+1)⟩
theorem cy {x y:Str} {b:Bool} (e:(x.cps.toList==y.cps.toList)=b):(o2 "str.__eq__" x y fun _=>.bool b).Sure B m:=
 nQ F.slot_str_eq F.entry_str_eq (fun _=>F.args_str_eq_2 _ _) (fun _=>gives_str_eq _ _ _ _) fun _ s _ h=>by rw [e];exact h id s.toks
theorem aQ {x y:Str} {b:Bool} (e:(x.cps.toList != y.cps.toList)=b):(o2 "str.__ne__" x y fun _=>.bool b).Sure B m:=
 nQ F.slot_str_ne F.entry_str_ne (fun _=>F.args_str_ne_2 _ _) (fun _=>gives_str_ne _ _ _ _) fun _ s _ h=>by rw [e];exact h id s.toks
theorem jY {x y:Str} {b:Bool} (e:decide (x.cps.toList<y.cps.toList)=b):(o2 "str.__lt__" x y fun _=>.bool b).Sure B m:=
 nQ F.slot_str_lt F.entry_str_lt (fun _=>F.args_str_lt_2 _ _) (fun _=>gives_str_lt _ _ _ _) fun _ s _ h=>by rw [e];exact h id s.toks
def tR (x:Str) (n:Int):aH:=bs "len" (fun p=>[.str x (p 0 0)]) fun _ a=>.int n (a 0)
theorem w3 {x:Str} {n:Int} (e:(x.length:Int)=n) (hx:x.length≤1000):(tR x n).Sure B m:=
 jX fun _ _ s _ _ h=>len_str (by lia) (by rw [e];exact h (fun _=>s.toks+1) _)
def a9 (x:Str) (n:Int):aH:={code:=fun p=>.builtin "len" ⟨[.str x (p 0 0)],[]⟩,strm:=true,out:=fun _ a=>(.ret (.int n (a 0)),[],[])}
theorem bb {x:Str} {n:Int} (e:(x.length:Int)=n) (hx:x.length≤1000):(a9 x n).Sure B m:=by
 refine ⟨List.nodup_nil,fun i A _ h b o d j g l k Q E _ _ _ f => ?_⟩
 refine x_call (hd:=none) ?_ (by intro e;cases e)
 refine codeAny_builtin entry_len (wpAny_mono (wpAny_len_body (Q:=fun v a=>wpAny B.M A (k (.ok (.ret v))) Q E a) (typeIs_str _ _ _) F.slot_str_len F.entry_str_len (F.args_str_len_1 _) (gives_str_len _ _) (by lia) (by lia) ?_) ?_ fun _ _ q=>q)
 ·rw [e]
  exact f h _ (fun _=>b+1) (fun e=>by cases e) (Nat.le_refl _) (fun _ _ e _=>e) (fun _ hx=>(nomatch hx)) (fun _ hx=>(nomatch hx)) List.nodup_nil
 ·rintro c a ⟨r,rfl,q⟩
  exact q
def d9 (x:Str) (l u:Option Int):Str:=if (strSliceIndices l u 1 x.length).length==x.length then x else ⟨((strSliceIndices l u 1 x.length).filterMap (x.cps[·]?)).toArray⟩
def jZ (i:Option Int) (t:Nat):Yd:=match i with
 | some i=>.int i t
 | none=>.none
def tS (l u:Option Int) (p:af):Obj:={cls:=.type "slice",data:=.fields #[jZ l (p 1 1),jZ u (p 1 2),.none]}
def eg (j:Nat) (x:Str) (l u:Option Int) (z:Str):aH:=
 {code:=fun p=>.call (.builtin "str.__getitem__") ⟨[.str x (p 0 0),.ref (p 1 0)],[]⟩,pl:=[j],objs:=fun p=>[(p 1 0,tS l u p)],strm:=true,out:=fun p a=>(.ret (.str z (a 0)),[tS l u p],[])}
theorem fZ {j:Nat} {x:Str} {l u:Option Int} {z:Str} (e:d9 x l u=z) (D:z.length≤1000):(eg j x l u z).Sure B m:=by
 refine ⟨by simp [eg],fun p A _ h H y d w g I k Q E _ C _ G=>d8 ?_⟩
 have s:=(C _ (.head _)).1
 have o:∀(i:Option Int) (t:Nat),jZ i t=partValue (i.map fun i=>(i,t)):=fun i t=>by cases i <;> rfl
 have q:∀(i:Option Int) (t:Nat),(i.map fun i=>(i,t)).map (·.1)=i:=fun i t=>by cases i <;> rfl
 refine call_meets F.slot_str_getitem (typeIs_str _ _ _) F.entry_str_getitem (F.args_str_getitem_2 _ _) (meets_str_getitem_slice x _ _ (l.map fun i=>(i,p 1 1)) (u.map fun i=>(i,p 1 2)) none rfl) ⟨⟨_,s,rfl,?_⟩,?_⟩
 ·show Data.fields _=_
  rw [o,o];rfl
 ·have a:∀f n,wants (fun v c=>wpAny B.M A (k (.ok (.ret v))) Q E c) (fun e c=>wpAny B.M A (k (.error e)) Q E c) (.ok (.ret (.str z f))) ⟨h,y,d,n,w⟩:=fun f n=>
   G h n (fun _=>f) (fun e=>by cases e) (Nat.le_refl _) (fun _ _ e _=>e) (fun x hx=>by
    have:x=(p 1 0,tS l u p):=by simpa [eg] using hx
    subst this;exact s) (fun _ hx=>(nomatch hx)) List.nodup_nil
  unfold sliceMade slicePicked
  rw [q,q]
  unfold d9 at e
  show Made.post (if ((1:Int)==1&&(strSliceIndices l u 1 x.length).length==x.length)=true then _ else _) _ _
  rw [show ((1:Int)==1)=true from rfl,Bool.true_and]
  split
  ·rename_i b
   rw [if_pos b] at e
   subst e
   exact a _ _
  ·rename_i b
   rw [if_neg b] at e
   refine ⟨?_,?_⟩
   ·show Str.length _≤_
    refine Nat.le_trans ?_ (Nat.le_trans D (by decide))
    rw [←e];exact Nat.le_refl _
   ·rw [←e] at a;exact a _ _
end
end
section
open PySem.Builtin PySem.Builtin.Str
section
variable {B:bf} {m:Nat}
def bn (id:String) (a:af→Yb) (o:af→Ye→Obj):aH:={code:=fun p=>.call (.builtin id) ⟨a p,[]⟩,strm:=true,out:=fun p b=>(.ret (.ref (b 0)),[],[(b 0,o p b)])}
theorem Dx {id:String} {c:af→Yb} {o:af→Ye→Obj} (i:∀p a,(o p a).isFreed=false)
  (H:∀(p:af) (A:Around) (s:Shared) (Q:Yd→Shared→Prop) (E:Yd→Shared→Prop),(∀a k,a 0=s.heap.objs.size→Q (.ref (a 0)) {s with toks:=k,heap:=s.heap.push (o p a)})→wpAny B.M A (call (.builtin id) (c p)) Q E s):(bn id c o).Sure B m:=by
 refine ⟨List.nodup_nil,fun b A _ h q u d t g l k Q E _ _ _ j => ?_⟩
 refine d8 (H b A _ _ _ fun a n e => ?_)
 refine j (h.push (o b a)) n a (fun e=>by cases e) (by rw [Heap.size_push];exact Nat.le_succ _) (fun _ _ e _=>Heap.get?_push_of_some _ e) (fun _ hx=>(nomatch hx)) (fun x hx => ?_) (by simp [bn])
 have:x=(a 0,o b a):=by simpa [bn] using hx
 subst this
 rw [e]
 exact ⟨Heap.get?_push_size _ (i b a),Nat.le_refl _⟩
def cR:Yg→Ye→Nat→Yb
 | [],_,_=>[]
 | x::r,ax,i=>.str x (ax i)::cR r ax (i+1)
noncomputable def ab (l:Yb) (n:Nat):Obj:={cls:=.type "list",data:=.seq l.toArray n}
theorem w4 (f:Ye) (a:Nat):∀(l:Yg) (i:Nat),(∀j,f (i+j)=a+j)→cR l f i=strsFrom a l
 | [],_,_=>rfl
 | x::r,i,h=>by
  show Value.str x (f i)::cR r f (i+1)=Value.str x a::strsFrom (a+1) r
  have b:f i=a:=h 0
  rw [b,w4 f (a+1) r (i+1) (fun j=>by rw [show i+1+j=i+(j+1) by lia,h];lia)]
def cb (x y:Str) (a:Yg):aH:=bn "str.split" (fun p=>[.str x (p 0 0),.str y (p 0 1)]) fun _ b=>ab (cR a b 1) 0
theorem tT {x y:Str} {a:Yg} (e:Txt.split x y=a) (g:(y.length==0)=false) (hx:x.length≤1000) (o:(partsBetween x (occurrences x y 0 x.length (x.length+1)) y.length).length≤1000):(cb x y a).Sure B m:=by
 refine Dx (fun _ _=>rfl) fun p A s Q E h => ?_
 have c:x=x→a=[x]→wants Q E (.ok (.ret (.ref s.heap.objs.size))) {s with heap:=s.heap.push {cls:=.type "list",data:=.seq #[Value.str x (p 0 0)]}}:=by
  intro _ k
  subst k
  exact h (fun i=>match i with | 0=>s.heap.objs.size | _=>p 0 0) s.toks rfl
 unfold Txt.split at e
 cases b:(decide (x.length<y.length)||decide (strKind x<strKind y))
 ·rw [b] at e
  cases d:(occurrences x y 0 x.length (x.length+1)).isEmpty
  ·rw [d] at e
   refine call_meets F.slot_str_split (typeIs_str _ _ _) F.entry_str_split (F.args_str_split_2 _ _) (meets_str_split_sep x y _ _ b g d (Nat.le_trans hx (by decide)) (Nat.le_trans o (by decide))) ?_
   have n:partsBetween x (occurrences x y 0 x.length (x.length+1)) y.length=a:=e
   rw [n]
   have:=h (fun i=>match i with | 0=>s.heap.objs.size | j+1=>s.toks+j) (s.toks+a.length) rfl
   rw [w4 _ s.toks a 1 (fun j=>by rw [Nat.add_comm])] at this
   exact this
  ·rw [d] at e
   exact call_meets F.slot_str_split (typeIs_str _ _ _) F.entry_str_split (F.args_str_split_2 _ _) (meets_str_split_not_found x y _ _ b g d) (c rfl e.symm)
 ·rw [b] at e
  exact call_meets F.slot_str_split (typeIs_str _ _ _) F.entry_str_split (F.args_str_split_2 _ _) (meets_str_split_cannot_occur x y _ _ b) (c rfl e.symm)
def du (p:af):Yg→Nat→Yb
 | [],_=>[]
 | x::r,i=>.str x (p 1 i)::du p r (i+1)
def bx (j:Nat) (a:Str) (b:Yg) (z:Str):aH:=
 {code:=fun p=>.call (.builtin "str.join") ⟨[.str a (p 0 0),.ref (p 1 0)],[]⟩,pl:=[j],objs:=fun p=>[(p 1 0,ab (du p b 2) (p 1 1))],strm:=true,out:=fun p c=>(.ret (.str z (c 0)),[ab (du p b 2) (p 1 1)],[])}
def lS (p:af):Yg→Nat→List (Str×Tok)
 | [],_=>[]
 | x::r,i=>(x,p 1 i)::lS p r (i+1)
theorem w5 (p:af):∀(l:Yg) (i:Nat),du p l i=strValues (lS p l i)
 | [],_=>rfl
 | x::r,i=>by
  show Value.str x (p 1 i)::du p r (i+1)=Value.str x (p 1 i)::strValues (lS p r (i+1))
  rw [w5 p r]
theorem w6 (p:af):∀(l:Yg) (i:Nat),(lS p l i).map (·.1)=l
 | [],_=>rfl
 | x::r,i=>by
  show x::(lS p r (i+1)).map _=_
  rw [w6 p r]
theorem bB {j:Nat} {b:Str} {a:Yg} {z:Str} (e:Txt.join b a=z) (ok:JoinOk b a=true):(bx j b a z).Sure B m:=by
 refine ⟨by simp [bx],fun p A _ h q u d s g t k Q E _ f _ i=>d8 ?_⟩
 have c:=(f _ (.head _)).1
 refine SC.join (l:=lS p a 2) (texts:=a) ⟨_,c,rfl,p 1 1,?_⟩ (w6 p a 2) ok fun n o => ?_
 ·show Data.seq _ _=_
  rw [w5]
 ·rw [e]
  exact i h o (fun _=>n) (fun e=>by cases e) (Nat.le_refl _) (fun _ _ e _=>e) (fun x hx=>by
    have:x=(p 1 0,ab (du p a 2) (p 1 1)):=by simpa [bx] using hx
    subst this;exact c) (fun _ hx=>(nomatch hx)) List.nodup_nil
def tU (x:Str) (n:Int) (z:Str):aH:=bs "str.__mul__" (fun p=>[.str x (p 0 0),.int n (p 0 1)]) fun _ a=>.str z (a 0)
theorem w7 {n:Int} {z:Str} (f:1<n) (d:n≤100) (e:⟨(List.replicate n.toNat ("/" : Str).cps).foldl (· ++ ·) #[]⟩=z) (c:z.length≤1000):(tU "/" n z).Sure B m:=by
 have b:¬n<1:=by lia
 have a:(n==1||("/" : Str).length==0)=false:=by
  rw [show (("/" : Str).length==0)=false by decide +kernel,Bool.or_false]
  exact beq_eq_false_iff_ne.mpr (by lia)
 refine nQ F.slot_str_mul F.entry_str_mul (fun _=>F.args_str_mul_2 _ _) (fun p=>gives_str_mul "/" n (p 0 0) (p 0 1) ?_ ?_ ?_) fun _ s _ h => ?_
 ·rw [decide_eq_false (by lia),decide_eq_false (by lia)];rfl
 ·intro _ _
  rw [show ("/" : Str).length=1 by decide +kernel]
  have:(1:Int)≤(2 ^ 63-1) / n:=by
   rw [Int.le_ediv_iff_mul_le (by lia)];lia
  lia
 ·intro _ _
  rw [show ("/" : Str).length=1 by decide +kernel,Nat.one_mul]
  unfold tooLong
  exact decide_eq_false (by
               have:sizeLine=16777216:=by rfl
               lia)
 ·rw [if_neg b,if_neg (by rw [a];decide)]
  exact ⟨by rw [e];exact Nat.le_trans c (by decide),by rw [e];exact h (fun _=>s.toks) (s.toks+1)⟩
end
end
abbrev pw:Program:=PySem.Challenge.pw_pd0113_01
def kZ:List Stmt→Nat→Stmt
 | [],_=>.Pass default
 | s::_,0=>s
 | _::l,i+1=>kZ l i
noncomputable def bC (i:Nat):Arguments:=match kZ pw.main.body i with | .FunctionDef _ a _ _ _ _ _ _ _ _=>a | _=>default
noncomputable def bD (i:Nat):List Stmt:=match kZ pw.main.body i with | .FunctionDef _ _ b _ _ _ _ _ _ _=>b | _=>[]
noncomputable def bE (i:Nat):Scope:=match kZ pw.main.body i with | .FunctionDef _ _ _ _ _ _ s _ _ _=>s | _=>default
noncomputable def tV (i j:Nat):Stmt:=kZ (match kZ pw.main.body i with | .ClassDef _ _ _ b _ _ _ _ _ _ _=>b | _=>[]) j
noncomputable def j0 (i j:Nat):Arguments:=match tV i j with | .FunctionDef _ a _ _ _ _ _ _ _ _=>a | _=>default
noncomputable def j1 (i j:Nat):List Stmt:=match tV i j with | .FunctionDef _ _ b _ _ _ _ _ _ _=>b | _=>[]
noncomputable def j2 (i j:Nat):Scope:=match tV i j with | .FunctionDef _ _ _ _ _ _ s _ _ _=>s | _=>default
abbrev aX:=@Value.builtin
abbrev bF:=@Value.bool
abbrev cX:=@Data.dict
abbrev bq:=@Data.func
abbrev aR:=@Data.seq
abbrev aY:=@Data.fields
abbrev br:=@FuncData.mk
abbrev iF:=@Obj.mk
noncomputable def ag (P:Params) (k:Str) (t:Nat) (v:Yd):DictEntry:=⟨PyData.keyHash P k,.str k t,v⟩
noncomputable def ay (c:String) (d:Data):Obj:=⟨.type c,none,d,#[]⟩
noncomputable def bh (d:Data):Obj:=⟨.none,none,d,#[]⟩
abbrev ad:=Value.str
abbrev ah:=Value.int
abbrev ai:=Value.ref
abbrev ak:=Value.none
noncomputable def an (l:Array Nat):Str:=⟨l⟩
def k0:Str:=an #[95,95,110,97,109,101,95,95]
def k1:Str:=an #[98,117,105,108,116,105,110,115]
def k2:Str:=an #[95,95,100,111,99,95,95]
def k3:Str:=an #[95,95,112,97,99,107,97,103,101,95,95]
def k4:Str:=an #[95,95,108,111,97,100,101,114,95,95]
def k5:Str:=an #[95,95,115,112,101,99,95,95]
def k7:Str:=an #[95,95,105,109,112,111,114,116,95,95]
def k8:Str:=an #[97,98,115]
def xb:Str:=an #[99,111,109,112,105,108,101]
def xc:Str:=an #[99,111,112,121,114,105,103,104,116]
def k6:Str:=an #[95,95,109,97,105,110,95,95]
def ea:Str:=an #[95,115,114,101]
def gh:Str:=an #[95,95,97,110,110,111,116,97,116,105,111,110,115,95,95]
def gi:Str:=an #[95,95,98,117,105,108,116,105,110,115,95,95]
def gk:Str:=an #[95,95,102,105,108,101,95,95]
def bg:Str:=an #[47,99,108,97,105,109,47,99,117,116,46,112,121]
def gm:Str:=an #[95,95,99,97,99,104,101,100,95,95]
def qm:Str:=an #[60,109,111,100,117,108,101,62]
def tX:Str:=an #[]
def lT:Str:=an #[95,95,109,111,100,117,108,101,95,95]
def xd:Str:=an #[95,102,114,111,122,101,110,95,105,109,112,111,114,116,108,105,98]
def lU:Str:=an #[95,95,102,105,114,115,116,108,105,110,101,110,111,95,95]
def xe:Str:=an #[98,117,105,108,116,45,105,110]
def lV:Str:=an #[95,95,115,116,97,116,105,99,95,97,116,116,114,105,98,117,116,101,115,95,95]
def qn:Str:=an #[95,95,100,105,99,116,95,95]
def qo:Str:=an #[95,95,119,101,97,107,114,101,102,95,95]
def xf:Str:=an #[66,117,105,108,116,105,110,73,109,112,111,114,116,101,114]
def xg:Str:=an #[110,97,109,101]
def xh:Str:=an #[108,111,97,100,101,114]
def xi:Str:=an #[111,114,105,103,105,110]
def xj:Str:=an #[108,111,97,100,101,114,95,115,116,97,116,101]
def xk:Str:=an #[115,117,98,109,111,100,117,108,101,95,115,101,97,114,99,104,95,108,111,99,97,116,105,111,110,115]
def xl:Str:=an #[95,117,110,105,110,105,116,105,97,108,105,122,101,100,95,115,117,98,109,111,100,117,108,101,115]
def xm:Str:=an #[95,115,101,116,95,102,105,108,101,97,116,116,114]
def xn:Str:=an #[95,99,97,99,104,101,100]
def xo:Str:=an #[112,97,114,101,110,116]
def xp:Str:=an #[77,111,100,117,108,101,83,112,101,99]
def dZ:Str:=an #[95,119,97,108,108]
def gn:Str:=an #[95,116,119,105,110,95,114,101,95,49]
def gp:Str:=an #[78,76]
def f0:Str:=an #[10]
def nR:Str:=an #[107]
def gq:Str:=an #[99]
def gW:Str:=an #[95,81,85,79,80,82,73,95,77,65,80]
def hE:Str:=an #[99,112,121,51,49,51,46,101,109,97,105,108,46,113,117,111,112,114,105,109,105,109,101]
def hG:Str:=an #[95,81,85,79,80,82,73,95,72,69,65,68,69,82,95,77,65,80]
def hI:Str:=an #[95,81,85,79,80,82,73,95,66,79,68,89,95,77,65,80]
def hJ:Str:=an #[97,115,99,105,105,95,108,111,119,101,114,99,97,115,101]
def iG:Str:=an #[97,98,99,100,101,102,103,104,105,106,107,108,109,110,111,112,113,114,115,116,117,118,119,120,121,122]
def hK:Str:=an #[97,115,99,105,105,95,117,112,112,101,114,99,97,115,101]
def iH:Str:=an #[65,66,67,68,69,70,71,72,73,74,75,76,77,78,79,80,81,82,83,84,85,86,87,88,89,90]
def hM:Str:=an #[97,115,99,105,105,95,108,101,116,116,101,114,115]
def iI:Str:=an #[97,98,99,100,101,102,103,104,105,106,107,108,109,110,111,112,113,114,115,116,117,118,119,120,121,122,65,66,67,68,69,70,71,72,73,74,75,76,77,78,79,80,81,82,83,84,85,86,87,88,89,90]
def hN:Str:=an #[100,105,103,105,116,115]
def iJ:Str:=an #[48,49,50,51,52,53,54,55,56,57]
def hO:Str:=an #[104,101,120,100,105,103,105,116,115]
def iK:Str:=an #[48,49,50,51,52,53,54,55,56,57,97,98,99,100,101,102,65,66,67,68,69,70]
def lW:Str:=an #[33]
def nT:Str:=an #[45]
def qp:Str:=an #[42]
def qq:Str:=an #[43]
def qr:Str:=an #[47]
def qs:Str:=an #[48]
def qt:Str:=an #[49]
def qu:Str:=an #[50]
def qw:Str:=an #[51]
def qx:Str:=an #[52]
def qy:Str:=an #[53]
def qz:Str:=an #[54]
def qA:Str:=an #[55]
def qB:Str:=an #[56]
def qC:Str:=an #[57]
def qH:Str:=an #[65]
def qI:Str:=an #[66]
def k9:Str:=an #[67]
def qJ:Str:=an #[68]
def qK:Str:=an #[69]
def qL:Str:=an #[70]
def qM:Str:=an #[71]
def qN:Str:=an #[72]
def qO:Str:=an #[73]
def qP:Str:=an #[74]
def qQ:Str:=an #[75]
def qR:Str:=an #[76]
def qS:Str:=an #[77]
def qT:Str:=an #[78]
def qU:Str:=an #[79]
def qV:Str:=an #[80]
def qW:Str:=an #[81]
def qX:Str:=an #[82]
def qY:Str:=an #[83]
def qZ:Str:=an #[84]
def q0:Str:=an #[85]
def q4:Str:=an #[86]
def q5:Str:=an #[87]
def q6:Str:=an #[88]
def q7:Str:=an #[89]
def q8:Str:=an #[90]
def nU:Str:=an #[97]
def nV:Str:=an #[98]
def q9:Str:=an #[100]
def rb:Str:=an #[101]
def rc:Str:=an #[102]
def rd:Str:=an #[103]
def rf:Str:=an #[104]
def j3:Str:=an #[105]
def rg:Str:=an #[106]
def rh:Str:=an #[108]
def ri:Str:=an #[109]
def nW:Str:=an #[110]
def rj:Str:=an #[111]
def jd:Str:=an #[112]
def rk:Str:=an #[113]
def rl:Str:=an #[114]
def j4:Str:=an #[115]
def rm:Str:=an #[116]
def ro:Str:=an #[117]
def rp:Str:=an #[118]
def rq:Str:=an #[119]
def nX:Str:=an #[120]
def rr:Str:=an #[121]
def rs:Str:=an #[122]
def rt:Str:=an #[95]
def tY:Str:=an #[32]
def xq:Str:=an #[9]
def xr:Str:=an #[34]
def xt:Str:=an #[35]
def xu:Str:=an #[36]
def xv:Str:=an #[37]
def xw:Str:=an #[38]
def xx:Str:=an #[39]
def xy:Str:=an #[40]
def xz:Str:=an #[41]
def xA:Str:=an #[44]
def xB:Str:=an #[46]
def xC:Str:=an #[58]
def xD:Str:=an #[59]
def xE:Str:=an #[60]
def xF:Str:=an #[62]
def xG:Str:=an #[63]
def xH:Str:=an #[64]
def xI:Str:=an #[91]
def xJ:Str:=an #[92]
def xK:Str:=an #[93]
def xL:Str:=an #[94]
def xM:Str:=an #[96]
def xN:Str:=an #[123]
def xO:Str:=an #[124]
def xP:Str:=an #[125]
def xQ:Str:=an #[126]
def gX:Str:=an #[117,110,113,117,111,116,101]
def gY:Str:=an #[113,117,111,116,101]
def lX:Str:=an #[95,81,85,79,80,82,73,95,66,79,68,89,95,69,78,67,79,68,69,95,77,65,80]
def gZ:Str:=an #[100,101,99,111,100,101]
def g0:Str:=an #[95,117,110,113,117,111,116,101,95,109,97,116,99,104]
def g3:Str:=an #[104,101,97,100,101,114,95,100,101,99,111,100,101]
def nY:Str:=an #[97,98,99]
def hU:Str:=an #[104,101,97,112,112,117,115,104]
def hV:Str:=an #[104,101,97,112,112,111,112]
def hW:Str:=an #[104,101,97,112,114,101,112,108,97,99,101]
def hX:Str:=an #[95,115,105,102,116,100,111,119,110]
def hY:Str:=an #[95,115,105,102,116,117,112]
def hZ:Str:=an #[95,112,108,97,105,110,95,110,97,109,101]
def nZ:Str:=an #[104,101,97,112]
def xR:Str:=an #[105,116,101,109]
def n0:Str:=an #[99,112,121,51,49,51,46,104,101,97,112,113]
def xS:Str:=an #[114,101,116,117,114,110,105,116,101,109]
def xT:Str:=an #[115,116,97,114,116,112,111,115]
def xU:Str:=an #[112,111,115]
def xV:Str:=an #[110,101,119,105,116,101,109]
def xW:Str:=an #[107,105,110,100]
def xX:Str:=an #[111,115]
def j5:Str:=an #[99,111,108,108,101,99,116,105,111,110,115,46,97,98,99]
def ia:Str:=an #[65,66,67,77,101,116,97]
def ib:Str:=an #[95,65,66,67,76,105,107,101]
def xY:Str:=an #[95,95,113,117,97,108,110,97,109,101,95,95]
def iL:Str:=an #[114,101,103,105,115,116,101,114]
def ru:Str:=an #[99,108,115]
def xZ:Str:=an #[115,117,98,99,108,97,115,115]
def tZ:Str:=an #[65,66,67,77,101,116,97,46,114,101,103,105,115,116,101,114]
def n6:Str:=an #[95,95,105,110,115,116,97,110,99,101,99,104,101,99,107,95,95]
def n7:Str:=an #[95,95,115,117,98,99,108,97,115,115,99,104,101,99,107,95,95]
def t0:Str:=an #[95,65,66,67,76,105,107,101,46,95,95,105,110,115,116,97,110,99,101,99,104,101,99,107,95,95]
def t4:Str:=an #[95,65,66,67,76,105,107,101,46,95,95,115,117,98,99,108,97,115,115,99,104,101,99,107,95,95]
def t5:Str:=an #[95,65,66,67,76,105,107,101,46,114,101,103,105,115,116,101,114]
def je:Str:=an #[99,112,121,51,49,51,46,112,111,115,105,120,112,97,116,104]
def jf:Str:=an #[95,97,98,99,95,112,108,97,105,110,95,109,101,116,97]
def jg:Str:=an #[102,115,112,97,116,104]
def jh:Str:=an #[95,99,104,101,99,107,95,97,114,103,95,116,121,112,101,115]
def ji:Str:=an #[95,103,101,116,95,115,101,112]
def jj:Str:=an #[106,111,105,110]
def jk:Str:=an #[115,112,108,105,116]
def rx:Str:=an #[112,97,116,104]
def lY:Str:=an #[115,101,112]
def x0:Str:=an #[104,101,97,100]
def n9:Str:=an #[108,97,119,95,112,100,48,49,49,51,95,48,49]
def j6:Str:=an #[115,112,108,105,116,114,111,111,116]
def j7:Str:=an #[98,97,115,101,110,97,109,101]
def j8:Str:=an #[100,105,114,110,97,109,101]
def j9:Str:=an #[110,111,114,109,112,97,116,104]
def ka:Str:=an #[99,111,109,109,111,110,112,97,116,104]
def kb:Str:=an #[95,108,97,119,95,110,97,109,101,115]
def kc:Str:=an #[95,108,97,119,95,119,114,105,116,116,101,110]
def kd:Str:=an #[95,108,97,119,95,112,97,116,104]
def ic:Str:=an #[108,97,119]
noncomputable def au (a b t:Nat):Yd:=ad ⟨#[61,a,b]⟩ t
def jl:Yb:=[au 48 48 332,au 48 49 336,au 48 50 340,au 48 51 344,au 48 52 348,au 48 53 352,au 48 54 356,au 48 55 360,au 48 56 364,au 48 57 368,au 48 65 372,au 48 66 376,au 48 67 380,au 48 68 384,au 48 69 388,au 48 70 392,au 49 48 396,au 49 49 400,au 49 50 404,au 49 51 408,au 49 52 412,au 49 53 416,au 49 54 420,au 49 55 424,au 49 56 428,au 49 57 432,au 49 65 436,au 49 66 440,au 49 67 444,au 49 68 448,au 49 69 452,au 49 70 456,au 50 48 460,au 50 49 464,au 50 50 468,au 50 51 472,au 50 52 476,au 50 53 480,au 50 54 484,au 50 55 488,au 50 56 492,au 50 57 496,au 50 65 500,au 50 66 504,au 50 67 508,au 50 68 512,au 50 69 516,au 50 70 520,au 51 48 524,au 51 49 528,au 51 50 532,au 51 51 536,au 51 52 540,au 51 53 544,au 51 54 548,au 51 55 552,au 51 56 556,au 51 57 560,au 51 65 564,au 51 66 568,au 51 67 572,au 51 68 576,au 51 69 580,au 51 70 584,au 52 48 588,au 52 49 592,au 52 50 596,au 52 51 600,au 52 52 604,au 52 53 608,au 52 54 612,au 52 55 616,au 52 56 620,au 52 57 624,au 52 65 628,au 52 66 632,au 52 67 636,au 52 68 640,au 52 69 644,au 52 70 648,au 53 48 652,au 53 49 656,au 53 50 660,au 53 51 664,au 53 52 668,au 53 53 672,au 53 54 676,au 53 55 680,au 53 56 684,au 53 57 688,au 53 65 692,au 53 66 696,au 53 67 700,au 53 68 704,au 53 69 708,au 53 70 712,au 54 48 716,au 54 49 720,au 54 50 724,au 54 51 728,au 54 52 732,au 54 53 736,au 54 54 740,au 54 55 744,au 54 56 748,au 54 57 752,au 54 65 756,au 54 66 760,au 54 67 764,au 54 68 768,au 54 69 772,au 54 70 776,au 55 48 780,au 55 49 784,au 55 50 788,au 55 51 792,au 55 52 796,au 55 53 800,au 55 54 804,au 55 55 808,au 55 56 812,au 55 57 816,au 55 65 820,au 55 66 824,au 55 67 828,au 55 68 832,au 55 69 836,au 55 70 840,au 56 48 844,au 56 49 848,au 56 50 852,au 56 51 856,au 56 52 860,au 56 53 864,au 56 54 868,au 56 55 872,au 56 56 876,au 56 57 880,au 56 65 884,au 56 66 888,au 56 67 892,au 56 68 896,au 56 69 900,au 56 70 904,au 57 48 908,au 57 49 912,au 57 50 916,au 57 51 920,au 57 52 924,au 57 53 928,au 57 54 932,au 57 55 936,au 57 56 940,au 57 57 944,au 57 65 948,au 57 66 952,au 57 67 956,au 57 68 960,au 57 69 964,au 57 70 968,au 65 48 972,au 65 49 976,au 65 50 980,au 65 51 984,au 65 52 988,au 65 53 992,au 65 54 996,au 65 55 1000,au 65 56 1004,au 65 57 1008,au 65 65 1012,au 65 66 1016,au 65 67 1020,au 65 68 1024,au 65 69 1028,au 65 70 1032,au 66 48 1036,au 66 49 1040,au 66 50 1044,au 66 51 1048,au 66 52 1052,au 66 53 1056,au 66 54 1060,au 66 55 1064,au 66 56 1068,au 66 57 1072,au 66 65 1076,au 66 66 1080,au 66 67 1084,au 66 68 1088,au 66 69 1092,au 66 70 1096,au 67 48 1100,au 67 49 1104,au 67 50 1108,au 67 51 1112,au 67 52 1116,au 67 53 1120,au 67 54 1124,au 67 55 1128,au 67 56 1132,au 67 57 1136,au 67 65 1140,au 67 66 1144,au 67 67 1148,au 67 68 1152,au 67 69 1156,au 67 70 1160,au 68 48 1164,au 68 49 1168,au 68 50 1172,au 68 51 1176,au 68 52 1180,au 68 53 1184,au 68 54 1188,au 68 55 1192,au 68 56 1196,au 68 57 1200,au 68 65 1204,au 68 66 1208,au 68 67 1212,au 68 68 1216,au 68 69 1220,au 68 70 1224,au 69 48 1228,au 69 49 1232,au 69 50 1236,au 69 51 1240,au 69 52 1244,au 69 53 1248,au 69 54 1252,au 69 55 1256,au 69 56 1260,au 69 57 1264,au 69 65 1268,au 69 66 1272,au 69 67 1276,au 69 68 1280,au 69 69 1284,au 69 70 1288,au 70 48 1292,au 70 49 1296,au 70 50 1300,au 70 51 1304,au 70 52 1308,au 70 53 1312,au 70 54 1316,au 70 55 1320,au 70 56 1324,au 70 57 1328,au 70 65 1332,au 70 66 1336,au 70 67 1340,au 70 68 1344,au 70 69 1348,au 70 70 1352]
def jm:Yb→Nat→List (Nat×Yd)→Yb
 | [],_,_=>[]
 | x::l,i,d=>match d with
  | []=>x::jm l (i+1) []
  | p::r=>match Nat.beq i p.1 with
   | true=>p.2::jm l (i+1) r
   | false=>x::jm l (i+1) (p::r)
def ej (P:Params):Obj:=ay "dict" (cX #[ag P k0 1 (ad k1 160),ag P k2 2 (aX "builtins.__doc__:str#opaque"),ag P k3 3 (aX "builtins.__package__:str#opaque"),ag P k4 4 (aX "builtins.__loader__:shared#opaque"),ag P k5 5 (aX "builtins.__spec__#opaque"),ag P (an #[95,95,98,117,105,108,100,95,99,108,97,115,115,95,95]) 6 (aX "__build_class__"),ag P k7 7 (aX "__import__"),ag P k8 8 (aX "abs"),ag P (an #[97,108,108]) 9 (aX "all"),ag P (an #[97,110,121]) 10 (aX "any"),ag P (an #[97,115,99,105,105]) 11 (aX "ascii"),ag P (an #[98,105,110]) 12 (aX "bin"),ag P (an #[98,114,101,97,107,112,111,105,110,116]) 13 (aX "breakpoint"),ag P (an #[99,97,108,108,97,98,108,101]) 14 (aX "callable"),ag P (an #[99,104,114]) 15 (aX "chr"),ag P xb 16 (aX "compile"),ag P (an #[100,101,108,97,116,116,114]) 17 (aX "delattr"),ag P (an #[100,105,114]) 18 (aX "dir"),ag P (an #[100,105,118,109,111,100]) 19 (aX "divmod"),ag P (an #[101,118,97,108]) 20 (aX "eval"),ag P (an #[101,120,101,99]) 21 (aX "exec"),ag P (an #[102,111,114,109,97,116]) 22 (aX "format"),ag P (an #[103,101,116,97,116,116,114]) 23 (aX "getattr"),ag P (an #[103,108,111,98,97,108,115]) 24 (aX "globals"),ag P (an #[104,97,115,97,116,116,114]) 25 (aX "hasattr"),ag P (an #[104,97,115,104]) 26 (aX "hash"),ag P (an #[104,101,120]) 27 (aX "hex"),ag P (an #[105,100]) 28 (aX "id"),ag P (an #[105,110,112,117,116]) 29 (aX "input"),ag P (an #[105,115,105,110,115,116,97,110,99,101]) 30 (aX "isinstance"),ag P (an #[105,115,115,117,98,99,108,97,115,115]) 31 (aX "issubclass"),ag P (an #[105,116,101,114]) 32 (aX "iter"),ag P (an #[97,105,116,101,114]) 33 (aX "aiter"),ag P (an #[108,101,110]) 34 (aX "len"),ag P (an #[108,111,99,97,108,115]) 35 (aX "locals"),ag P (an #[109,97,120]) 36 (aX "max"),ag P (an #[109,105,110]) 37 (aX "min"),ag P (an #[110,101,120,116]) 38 (aX "next"),ag P (an #[97,110,101,120,116]) 39 (aX "anext"),ag P (an #[111,99,116]) 40 (aX "oct"),ag P (an #[111,114,100]) 41 (aX "ord"),ag P (an #[112,111,119]) 42 (aX "pow"),ag P (an #[112,114,105,110,116]) 43 (aX "print"),ag P (an #[114,101,112,114]) 44 (aX "repr"),ag P (an #[114,111,117,110,100]) 45 (aX "round"),ag P (an #[115,101,116,97,116,116,114]) 46 (aX "setattr"),ag P (an #[115,111,114,116,101,100]) 47 (aX "sorted"),ag P (an #[115,117,109]) 48 (aX "sum"),ag P (an #[118,97,114,115]) 49 (aX "vars"),ag P (an #[78,111,110,101]) 50 ak,ag P (an #[69,108,108,105,112,115,105,115]) 51 Value.ellipsis,ag P (an #[78,111,116,73,109,112,108,101,109,101,110,116,101,100]) 52 Value.notImplemented,ag P (an #[70,97,108,115,101]) 53 (bF false),ag P (an #[84,114,117,101]) 54 (bF true),ag P (an #[98,111,111,108]) 55 (Value.type "bool"),ag P (an #[109,101,109,111,114,121,118,105,101,119]) 56 (Value.type "memoryview"),ag P (an #[98,121,116,101,97,114,114,97,121]) 57 (Value.type "bytearray"),ag P (an #[98,121,116,101,115]) 58 (Value.type "bytes"),ag P (an #[99,108,97,115,115,109,101,116,104,111,100]) 59 (Value.type "classmethod"),ag P (an #[99,111,109,112,108,101,120]) 60 (Value.type "complex"),ag P (an #[100,105,99,116]) 61 (Value.type "dict"),ag P (an #[101,110,117,109,101,114,97,116,101]) 62 (Value.type "enumerate"),ag P (an #[102,105,108,116,101,114]) 63 (Value.type "filter"),ag P (an #[102,108,111,97,116]) 64 (Value.type "float"),ag P (an #[102,114,111,122,101,110,115,101,116]) 65 (Value.type "frozenset"),ag P (an #[112,114,111,112,101,114,116,121]) 66 (Value.type "property"),ag P (an #[105,110,116]) 67 (Value.type "int"),ag P (an #[108,105,115,116]) 68 (Value.type "list"),ag P (an #[109,97,112]) 69 (Value.type "map"),ag P (an #[111,98,106,101,99,116]) 70 (Value.type "object"),ag P (an #[114,97,110,103,101]) 71 (Value.type "range"),ag P (an #[114,101,118,101,114,115,101,100]) 72 (Value.type "reversed"),ag P (an #[115,101,116]) 73 (Value.type "set"),ag P (an #[115,108,105,99,101]) 74 (Value.type "slice"),ag P (an #[115,116,97,116,105,99,109,101,116,104,111,100]) 75 (Value.type "staticmethod"),ag P (an #[115,116,114]) 76 (Value.type "str"),ag P (an #[115,117,112,101,114]) 77 (Value.type "super"),ag P (an #[116,117,112,108,101]) 78 (Value.type "tuple"),ag P (an #[116,121,112,101]) 79 (Value.type "type"),ag P (an #[122,105,112]) 80 (Value.type "zip"),ag P (an #[95,95,100,101,98,117,103,95,95]) 81 (bF true),ag P (an #[66,97,115,101,69,120,99,101,112,116,105,111,110]) 82 (Value.type "BaseException"),ag P (an #[66,97,115,101,69,120,99,101,112,116,105,111,110,71,114,111,117,112]) 83 (Value.type "BaseExceptionGroup"),ag P (an #[69,120,99,101,112,116,105,111,110]) 84 (Value.type "Exception"),ag P (an #[71,101,110,101,114,97,116,111,114,69,120,105,116]) 85 (Value.type "GeneratorExit"),ag P (an #[75,101,121,98,111,97,114,100,73,110,116,101,114,114,117,112,116]) 86 (Value.type "KeyboardInterrupt"),ag P (an #[83,121,115,116,101,109,69,120,105,116]) 87 (Value.type "SystemExit"),ag P (an #[65,114,105,116,104,109,101,116,105,99,69,114,114,111,114]) 88 (Value.type "ArithmeticError"),ag P (an #[65,115,115,101,114,116,105,111,110,69,114,114,111,114]) 89 (Value.type "AssertionError"),ag P (an #[65,116,116,114,105,98,117,116,101,69,114,114,111,114]) 90 (Value.type "AttributeError"),ag P (an #[66,117,102,102,101,114,69,114,114,111,114]) 91 (Value.type "BufferError"),ag P (an #[69,79,70,69,114,114,111,114]) 92 (Value.type "EOFError"),ag P (an #[73,109,112,111,114,116,69,114,114,111,114]) 93 (Value.type "ImportError"),ag P (an #[76,111,111,107,117,112,69,114,114,111,114]) 94 (Value.type "LookupError"),ag P (an #[77,101,109,111,114,121,69,114,114,111,114]) 95 (Value.type "MemoryError"),ag P (an #[78,97,109,101,69,114,114,111,114]) 96 (Value.type "NameError"),ag P (an #[79,83,69,114,114,111,114]) 97 (Value.type "OSError"),ag P (an #[82,101,102,101,114,101,110,99,101,69,114,114,111,114]) 98 (Value.type "ReferenceError"),ag P (an #[82,117,110,116,105,109,101,69,114,114,111,114]) 99 (Value.type "RuntimeError"),ag P (an #[83,116,111,112,65,115,121,110,99,73,116,101,114,97,116,105,111,110]) 100 (Value.type "StopAsyncIteration"),ag P (an #[83,116,111,112,73,116,101,114,97,116,105,111,110]) 101 (Value.type "StopIteration"),ag P (an #[83,121,110,116,97,120,69,114,114,111,114]) 102 (Value.type "SyntaxError"),ag P (an #[83,121,115,116,101,109,69,114,114,111,114]) 103 (Value.type "SystemError"),ag P (an #[84,121,112,101,69,114,114,111,114]) 104 (Value.type "TypeError"),ag P (an #[86,97,108,117,101,69,114,114,111,114]) 105 (Value.type "ValueError"),ag P (an #[87,97,114,110,105,110,103]) 106 (Value.type "Warning"),ag P (an #[70,108,111,97,116,105,110,103,80,111,105,110,116,69,114,114,111,114]) 107 (Value.type "FloatingPointError"),ag P (an #[79,118,101,114,102,108,111,119,69,114,114,111,114]) 108 (Value.type "OverflowError"),ag P (an #[90,101,114,111,68,105,118,105,115,105,111,110,69,114,114,111,114]) 109 (Value.type "ZeroDivisionError"),ag P (an #[66,121,116,101,115,87,97,114,110,105,110,103]) 110 (Value.type "BytesWarning"),ag P (an #[68,101,112,114,101,99,97,116,105,111,110,87,97,114,110,105,110,103]) 111 (Value.type "DeprecationWarning"),ag P (an #[69,110,99,111,100,105,110,103,87,97,114,110,105,110,103]) 112 (Value.type "EncodingWarning"),ag P (an #[70,117,116,117,114,101,87,97,114,110,105,110,103]) 113 (Value.type "FutureWarning"),ag P (an #[73,109,112,111,114,116,87,97,114,110,105,110,103]) 114 (Value.type "ImportWarning"),ag P (an #[80,101,110,100,105,110,103,68,101,112,114,101,99,97,116,105,111,110,87,97,114,110,105,110,103]) 115 (Value.type "PendingDeprecationWarning"),ag P (an #[82,101,115,111,117,114,99,101,87,97,114,110,105,110,103]) 116 (Value.type "ResourceWarning"),ag P (an #[82,117,110,116,105,109,101,87,97,114,110,105,110,103]) 117 (Value.type "RuntimeWarning"),ag P (an #[83,121,110,116,97,120,87,97,114,110,105,110,103]) 118 (Value.type "SyntaxWarning"),ag P (an #[85,110,105,99,111,100,101,87,97,114,110,105,110,103]) 119 (Value.type "UnicodeWarning"),ag P (an #[85,115,101,114,87,97,114,110,105,110,103]) 120 (Value.type "UserWarning"),ag P (an #[66,108,111,99,107,105,110,103,73,79,69,114,114,111,114]) 121 (Value.type "BlockingIOError"),ag P (an #[67,104,105,108,100,80,114,111,99,101,115,115,69,114,114,111,114]) 122 (Value.type "ChildProcessError"),ag P (an #[67,111,110,110,101,99,116,105,111,110,69,114,114,111,114]) 123 (Value.type "ConnectionError"),ag P (an #[70,105,108,101,69,120,105,115,116,115,69,114,114,111,114]) 124 (Value.type "FileExistsError"),ag P (an #[70,105,108,101,78,111,116,70,111,117,110,100,69,114,114,111,114]) 125 (Value.type "FileNotFoundError"),ag P (an #[73,110,116,101,114,114,117,112,116,101,100,69,114,114,111,114]) 126 (Value.type "InterruptedError"),ag P (an #[73,115,65,68,105,114,101,99,116,111,114,121,69,114,114,111,114]) 127 (Value.type "IsADirectoryError"),ag P (an #[78,111,116,65,68,105,114,101,99,116,111,114,121,69,114,114,111,114]) 128 (Value.type "NotADirectoryError"),ag P (an #[80,101,114,109,105,115,115,105,111,110,69,114,114,111,114]) 129 (Value.type "PermissionError"),ag P (an #[80,114,111,99,101,115,115,76,111,111,107,117,112,69,114,114,111,114]) 130 (Value.type "ProcessLookupError"),ag P (an #[84,105,109,101,111,117,116,69,114,114,111,114]) 131 (Value.type "TimeoutError"),ag P (an #[73,110,100,101,110,116,97,116,105,111,110,69,114,114,111,114]) 132 (Value.type "IndentationError"),ag P (an #[95,73,110,99,111,109,112,108,101,116,101,73,110,112,117,116,69,114,114,111,114]) 133 (Value.type "_IncompleteInputError"),ag P (an #[73,110,100,101,120,69,114,114,111,114]) 134 (Value.type "IndexError"),ag P (an #[75,101,121,69,114,114,111,114]) 135 (Value.type "KeyError"),ag P (an #[77,111,100,117,108,101,78,111,116,70,111,117,110,100,69,114,114,111,114]) 136 (Value.type "ModuleNotFoundError"),ag P (an #[78,111,116,73,109,112,108,101,109,101,110,116,101,100,69,114,114,111,114]) 137 (Value.type "NotImplementedError"),ag P (an #[80,121,116,104,111,110,70,105,110,97,108,105,122,97,116,105,111,110,69,114,114,111,114]) 138 (Value.type "PythonFinalizationError"),ag P (an #[82,101,99,117,114,115,105,111,110,69,114,114,111,114]) 139 (Value.type "RecursionError"),ag P (an #[85,110,98,111,117,110,100,76,111,99,97,108,69,114,114,111,114]) 140 (Value.type "UnboundLocalError"),ag P (an #[85,110,105,99,111,100,101,69,114,114,111,114]) 141 (Value.type "UnicodeError"),ag P (an #[66,114,111,107,101,110,80,105,112,101,69,114,114,111,114]) 142 (Value.type "BrokenPipeError"),ag P (an #[67,111,110,110,101,99,116,105,111,110,65,98,111,114,116,101,100,69,114,114,111,114]) 143 (Value.type "ConnectionAbortedError"),ag P (an #[67,111,110,110,101,99,116,105,111,110,82,101,102,117,115,101,100,69,114,114,111,114]) 144 (Value.type "ConnectionRefusedError"),ag P (an #[67,111,110,110,101,99,116,105,111,110,82,101,115,101,116,69,114,114,111,114]) 145 (Value.type "ConnectionResetError"),ag P (an #[84,97,98,69,114,114,111,114]) 146 (Value.type "TabError"),ag P (an #[85,110,105,99,111,100,101,68,101,99,111,100,101,69,114,114,111,114]) 147 (Value.type "UnicodeDecodeError"),ag P (an #[85,110,105,99,111,100,101,69,110,99,111,100,101,69,114,114,111,114]) 148 (Value.type "UnicodeEncodeError"),ag P (an #[85,110,105,99,111,100,101,84,114,97,110,115,108,97,116,101,69,114,114,111,114]) 149 (Value.type "UnicodeTranslateError"),ag P (an #[69,120,99,101,112,116,105,111,110,71,114,111,117,112]) 150 (Value.type "ExceptionGroup"),ag P (an #[69,110,118,105,114,111,110,109,101,110,116,69,114,114,111,114]) 151 (Value.type "OSError"),ag P (an #[73,79,69,114,114,111,114]) 152 (Value.type "OSError"),ag P (an #[111,112,101,110]) 153 (aX "open"),ag P (an #[113,117,105,116]) 154 (aX "builtins.quit#opaque"),ag P (an #[101,120,105,116]) 155 (aX "builtins.exit#opaque"),ag P xc 156 (aX "builtins.copyright#opaque"),ag P (an #[99,114,101,100,105,116,115]) 157 (aX "builtins.credits#opaque"),ag P (an #[108,105,99,101,110,115,101]) 158 (aX "builtins.license#opaque"),ag P (an #[104,101,108,112]) 159 (aX "builtins.help#opaque")] 159)
def el (P:Params):Obj:=ay "dict" (cX #[ag P k1 162 (ai 4),ag P k6 163 (ai 5),ag P ea 244 (ai 12)] 3)
def eb (P:Params):Obj:=bh (cX #[ag P (an #[105,109,112,111,114,116,46,108,111,97,100,101,100,46,95,115,114,101]) 183 (bF true),ag P (an #[99,108,97,115,115,46,95,102,114,111,122,101,110,95,105,109,112,111,114,116,108,105,98,46,66,117,105,108,116,105,110,73,109,112,111,114,116,101,114]) 185 (ai 14),ag P (an #[119,97,116,99,104,101,100,46,105,109,112,111,114,116]) 206 (ai 18),ag P (an #[99,108,97,115,115,46,95,102,114,111,122,101,110,95,105,109,112,111,114,116,108,105,98,46,77,111,100,117,108,101,83,112,101,99]) 216 (ai 22),ag P (an #[115,121,115,46,109,111,100,117,108,101,115,46,98,111,111,107,101,100,45,101,112,111,99,104]) 245 (ah 3 0),ag P (an #[105,109,112,111,114,116,46,108,97,116,101,114,45,108,97,105,100,46,95,115,114,101]) 270 (bF true),ag P (an #[119,97,116,99,104,101,100,46,108,105,98,114,97,114,121]) 272 (ai 27),ag P (an #[119,97,116,99,104,101,100,46,108,105,98,114,97,114,121,45,111,98,106,101,99,116,115]) 0 (ad (an #[12]) 0),ag P (an #[119,97,116,99,104,101,100,46,108,105,98,114,97,114,121,45,100,101,101,112,46,95,115,114,101]) 273 (ad (an #[4,0,0,11,4,0,0,11,4,0,0,3,4,0,0,11,8,4,100,105,99,116,2]) 0)] 9)
def x2 (P:Params):Obj:=ay "dict" (cX #[ag P k0 165 (ad k6 164),ag P k2 166 ak,ag P k3 167 ak,ag P k4 168 (aX "__main__.__loader__#opaque"),ag P k5 169 ak,ag P gh 170 (ai 6),ag P gi 171 (ai 4),ag P gk 173 (ad bg 172),ag P gm 174 ak,ag P ea 275 (ai 12)] 10)
def em (P:Params):Obj:=iF (Value.type "module") (some 0) Data.plain #[]
def en (P:Params):Obj:=iF (Value.type "module") (some 3) Data.plain #[]
def eo (P:Params):Obj:=ay "dict" (cX #[])
def ep (P:Params):Obj:=ay "tuple" (aR #[])
def es (P:Params):Obj:=bh (aY #[])
def et (P:Params):Obj:=ay "code" (aY #[ad qm 176,ad qm 177,ad bg 178,ah 1 0,ah 0 0,ah 0 0,ah 0 0,ah 0 0,ai 7,bF false,ah 175 0,ai 8,ak,ak,ak,ak,ah 179 0,ah 1 0,ad bg 180])
def eu (P:Params):Obj:=iF (Value.type "frame") none Data.plain #[some (ai 9),some (ai 3),some (ai 3),none,some (ad k6 164),none,some (ai 0)]
def ew (P:Params):Obj:=ay "dict" (cX #[ag P k0 247 (ad ea 246),ag P k2 248 ak,ag P k3 250 (ad tX 249),ag P k4 251 (aX "off-the-table:_sre.__loader__:shared#opaque"),ag P k5 252 (aX "off-the-table:_sre.__spec__:shared#opaque"),ag P xb 253 (aX "_sre.compile"),ag P (an #[116,101,109,112,108,97,116,101]) 254 (aX "off-the-table:_sre.template:shared#opaque"),ag P (an #[103,101,116,99,111,100,101,115,105,122,101]) 255 (aX "off-the-table:_sre.getcodesize:shared#opaque"),ag P (an #[97,115,99,105,105,95,105,115,99,97,115,101,100]) 256 (aX "off-the-table:_sre.ascii_iscased:shared#opaque"),ag P (an #[117,110,105,99,111,100,101,95,105,115,99,97,115,101,100]) 257 (aX "off-the-table:_sre.unicode_iscased:shared#opaque"),ag P (an #[97,115,99,105,105,95,116,111,108,111,119,101,114]) 258 (aX "off-the-table:_sre.ascii_tolower:shared#opaque"),ag P (an #[117,110,105,99,111,100,101,95,116,111,108,111,119,101,114]) 259 (aX "off-the-table:_sre.unicode_tolower:shared#opaque"),ag P (an #[77,65,71,73,67]) 261 (ah 20230612 260),ag P (an #[67,79,68,69,83,73,90,69]) 263 (ah 4 262),ag P (an #[77,65,88,82,69,80,69,65,84]) 265 (ah 4294967295 264),ag P (an #[77,65,88,71,82,79,85,80,83]) 267 (ah 1073741823 266),ag P xc 269 (ad (an #[32,83,82,69,32,50,46,50,46,50,32,67,111,112,121,114,105,103,104,116,32,40,99,41,32,49,57,57,55,45,50,48,48,50,32,98,121,32,83,101,99,114,101,116,32,76,97,98,115,32,65,66,32]) 268)] 17)
def ex (P:Params):Obj:=iF (Value.type "module") (some 11) Data.plain #[]
def ey (P:Params):Obj:=ay "dict" (cX #[ag P lT 189 (ad xd 186),ag P lU 190 (ah 971 187),ag P k2 191 (aX "_frozen_importlib.BuiltinImporter.__doc__:str#opaque"),ag P (an #[95,79,82,73,71,73,78]) 192 (ad xe 188),ag P (an #[102,105,110,100,95,115,112,101,99]) 193 (aX "_frozen_importlib.BuiltinImporter.find_spec#opaque"),ag P (an #[99,114,101,97,116,101,95,109,111,100,117,108,101]) 194 (aX "_frozen_importlib.BuiltinImporter.create_module#opaque"),ag P (an #[101,120,101,99,95,109,111,100,117,108,101]) 195 (aX "_frozen_importlib.BuiltinImporter.exec_module#opaque"),ag P (an #[103,101,116,95,99,111,100,101]) 196 (aX "_frozen_importlib.BuiltinImporter.get_code#opaque"),ag P (an #[103,101,116,95,115,111,117,114,99,101]) 197 (aX "_frozen_importlib.BuiltinImporter.get_source#opaque"),ag P (an #[105,115,95,112,97,99,107,97,103,101]) 198 (aX "_frozen_importlib.BuiltinImporter.is_package#opaque"),ag P (an #[108,111,97,100,95,109,111,100,117,108,101]) 199 (aX "_frozen_importlib.BuiltinImporter.load_module#opaque"),ag P lV 200 (ai 15),ag P qn 202 (ai 16),ag P qo 204 (ai 17)] 14)
def ez (P:Params):Obj:=ay "type" (Data.cls (ClassData.mk xf [Value.type "object"] [ai 14,Value.type "object"] 13 xf true [] [] false none false))
def eA (P:Params):Obj:=ay "tuple" (aR #[])
def eB (P:Params):Obj:=ay "getset_descriptor" (aY #[ad qn 201,ai 14,aX "function.__dict__",aX "function.__dict__#set"])
def eC (P:Params):Obj:=ay "getset_descriptor" (aY #[ad qo 203,ai 14,aX "ExceptionGroup.__weakref__",ak])
def eD (P:Params):Obj:=bh (aR #[ah 13 0,ad (an #[6,189,10,95,95,109,111,100,117,108,101,95,95,6,186,17,95,102,114,111,122,101,110,95,105,109,112,111,114,116,108,105,98,6,190,15,95,95,102,105,114,115,116,108,105,110,101,110,111,95,95,4,187,0,971,6,191,7,95,95,100,111,99,95,95,9,52,95,102,114,111,122,101,110,95,105,109,112,111,114,116,108,105,98,46,66,117,105,108,116,105,110,73,109,112,111,114,116,101,114,46,95,95,100,111,99,95,95,58,115,116,114,35,111,112,97,113,117,101,6,192,7,95,79,82,73,71,73,78,6,188,8,98,117,105,108,116,45,105,110,6,193,9,102,105,110,100,95,115,112,101,99,9,50,95,102,114,111,122,101,110,95,105,109,112,111,114,116,108,105,98,46,66,117,105,108,116,105,110,73,109,112,111,114,116,101,114,46,102,105,110,100,95,115,112,101,99,35,111,112,97,113,117,101,6,194,13,99,114,101,97,116,101,95,109,111,100,117,108,101,9,54,95,102,114,111,122,101,110,95,105,109,112,111,114,116,108,105,98,46,66,117,105,108,116,105,110,73,109,112,111,114,116,101,114,46,99,114,101,97,116,101,95,109,111,100,117,108,101,35,111,112,97,113,117,101,6,195,11,101,120,101,99,95,109,111,100,117,108,101,9,52,95,102,114,111,122,101,110,95,105,109,112,111,114,116,108,105,98,46,66,117,105,108,116,105,110,73,109,112,111,114,116,101,114,46,101,120,101,99,95,109,111,100,117,108,101,35,111,112,97,113,117,101,6,196,8,103,101,116,95,99,111,100,101,9,49,95,102,114,111,122,101,110,95,105,109,112,111,114,116,108,105,98,46,66,117,105,108,116,105,110,73,109,112,111,114,116,101,114,46,103,101,116,95,99,111,100,101,35,111,112,97,113,117,101,6,197,10,103,101,116,95,115,111,117,114,99,101,9,51,95,102,114,111,122,101,110,95,105,109,112,111,114,116,108,105,98,46,66,117,105,108,116,105,110,73,109,112,111,114,116,101,114,46,103,101,116,95,115,111,117,114,99,101,35,111,112,97,113,117,101,6,198,10,105,115,95,112,97,99,107,97,103,101,9,51,95,102,114,111,122,101,110,95,105,109,112,111,114,116,108,105,98,46,66,117,105,108,116,105,110,73,109,112,111,114,116,101,114,46,105,115,95,112,97,99,107,97,103,101,35,111,112,97,113,117,101,6,199,11,108,111,97,100,95,109,111,100,117,108,101,9,52,95,102,114,111,122,101,110,95,105,109,112,111,114,116,108,105,98,46,66,117,105,108,116,105,110,73,109,112,111,114,116,101,114,46,108,111,97,100,95,109,111,100,117,108,101,35,111,112,97,113,117,101,6,200,21,95,95,115,116,97,116,105,99,95,97,116,116,114,105,98,117,116,101,115,95,95,4,0,0,15,6,202,8,95,95,100,105,99,116,95,95,4,0,0,16,6,204,11,95,95,119,101,97,107,114,101,102,95,95,4,0,0,17]) 0,bF true,bF true,ad tX 205,ah 21 0,ad (an #[6,227,10,95,95,109,111,100,117,108,101,95,95,6,217,17,95,102,114,111,122,101,110,95,105,109,112,111,114,116,108,105,98,6,228,15,95,95,102,105,114,115,116,108,105,110,101,110,111,95,95,4,218,0,562,6,229,7,95,95,100,111,99,95,95,9,47,95,102,114,111,122,101,110,95,105,109,112,111,114,116,108,105,98,46,77,111,100,117,108,101,83,112,101,99,46,95,95,100,111,99,95,95,58,115,116,114,35,111,112,97,113,117,101,6,230,8,95,95,105,110,105,116,95,95,9,44,95,102,114,111,122,101,110,95,105,109,112,111,114,116,108,105,98,46,77,111,100,117,108,101,83,112,101,99,46,95,95,105,110,105,116,95,95,35,111,112,97,113,117,101,6,231,8,95,95,114,101,112,114,95,95,9,44,95,102,114,111,122,101,110,95,105,109,112,111,114,116,108,105,98,46,77,111,100,117,108,101,83,112,101,99,46,95,95,114,101,112,114,95,95,35,111,112,97,113,117,101,6,232,6,95,95,101,113,95,95,9,42,95,102,114,111,122,101,110,95,105,109,112,111,114,116,108,105,98,46,77,111,100,117,108,101,83,112,101,99,46,95,95,101,113,95,95,35,111,112,97,113,117,101,6,233,6,99,97,99,104,101,100,9,42,95,102,114,111,122,101,110,95,105,109,112,111,114,116,108,105,98,46,77,111,100,117,108,101,83,112,101,99,46,99,97,99,104,101,100,35,111,112,97,113,117,101,6,234,6,112,97,114,101,110,116,9,42,95,102,114,111,122,101,110,95,105,109,112,111,114,116,108,105,98,46,77,111,100,117,108,101,83,112,101,99,46,112,97,114,101,110,116,35,111,112,97,113,117,101,6,235,12,104,97,115,95,108,111,99,97,116,105,111,110,9,48,95,102,114,111,122,101,110,95,105,109,112,111,114,116,108,105,98,46,77,111,100,117,108,101,83,112,101,99,46,104,97,115,95,108,111,99,97,116,105,111,110,35,111,112,97,113,117,101,6,236,21,95,95,115,116,97,116,105,99,95,97,116,116,114,105,98,117,116,101,115,95,95,4,0,0,23,6,238,8,95,95,100,105,99,116,95,95,4,0,0,24,6,240,11,95,95,119,101,97,107,114,101,102,95,95,4,0,0,25,6,241,8,95,95,104,97,115,104,95,95,0]) 0,bF true,bF true,ad tX 242] 1)
def eE (P:Params):Obj:=ay "list" (aR #[])
def eF (P:Params):Obj:=ay "dict" (cX #[ag P xg 208 (ad ea 207),ag P xh 209 (ai 14),ag P xi 210 (ad xe 184),ag P xj 211 ak,ag P xk 212 ak,ag P xl 213 (ai 19),ag P xm 214 (bF false),ag P xn 215 ak,ag P (an #[95,105,110,105,116,105,97,108,105,122,105,110,103]) 243 (bF false)] 9)
def eG (P:Params):Obj:=ay "dict" (cX #[ag P lT 227 (ad xd 217),ag P lU 228 (ah 562 218),ag P k2 229 (aX "_frozen_importlib.ModuleSpec.__doc__:str#opaque"),ag P (an #[95,95,105,110,105,116,95,95]) 230 (aX "_frozen_importlib.ModuleSpec.__init__#opaque"),ag P (an #[95,95,114,101,112,114,95,95]) 231 (aX "_frozen_importlib.ModuleSpec.__repr__#opaque"),ag P (an #[95,95,101,113,95,95]) 232 (aX "_frozen_importlib.ModuleSpec.__eq__#opaque"),ag P (an #[99,97,99,104,101,100]) 233 (aX "_frozen_importlib.ModuleSpec.cached#opaque"),ag P xo 234 (aX "_frozen_importlib.ModuleSpec.parent#opaque"),ag P (an #[104,97,115,95,108,111,99,97,116,105,111,110]) 235 (aX "_frozen_importlib.ModuleSpec.has_location#opaque"),ag P lV 236 (ai 23),ag P qn 238 (ai 24),ag P qo 240 (ai 25),ag P (an #[95,95,104,97,115,104,95,95]) 241 ak] 13)
def eH (P:Params):Obj:=ay "type" (Data.cls (ClassData.mk xp [Value.type "object"] [ai 22,Value.type "object"] 21 xp true [] [] false none false))
def eI (P:Params):Obj:=ay "tuple" (aR #[ad xn 219,ad xm 220,ad xl 221,ad xh 222,ad xj 223,ad xg 224,ad xi 225,ad xk 226])
def eJ (P:Params):Obj:=ay "getset_descriptor" (aY #[ad qn 237,ai 22,aX "function.__dict__",aX "function.__dict__#set"])
def eK (P:Params):Obj:=ay "getset_descriptor" (aY #[ad qo 239,ai 22,aX "ExceptionGroup.__weakref__",ak])
def eL (P:Params):Obj:=iF (ai 22) (some 20) Data.plain #[]
def eM (P:Params):Obj:=bh (aR #[ah 11 0,ad (Str.mk #[6,247,8,95,95,110,97,109,101,95,95,6,246,4,95,115,114,101,6,248,7,95,95,100,111,99,95,95,0,6,250,11,95,95,112,97,99,107,97,103,101,95,95,6,249,0,6,251,10,95,95,108,111,97,100,101,114,95,95,4,0,0,14,6,252,8,95,95,115,112,101,99,95,95,4,0,0,26,6,253,7,99,111,109,112,105,108,101,9,12,95,115,114,101,46,99,111,109,112,105,108,101,6,254,8,116,101,109,112,108,97,116,101,9,13,95,115,114,101,46,116,101,109,112,108,97,116,101,6,255,11,103,101,116,99,111,100,101,115,105,122,101,9,16,95,115,114,101,46,103,101,116,99,111,100,101,115,105,122,101,6,256,13,97,115,99,105,105,95,105,115,99,97,115,101,100,9,18,95,115,114,101,46,97,115,99,105,105,95,105,115,99,97,115,101,100,6,257,15,117,110,105,99,111,100,101,95,105,115,99,97,115,101,100,9,20,95,115,114,101,46,117,110,105,99,111,100,101,95,105,115,99,97,115,101,100,6,258,13,97,115,99,105,105,95,116,111,108,111,119,101,114,9,18,95,115,114,101,46,97,115,99,105,105,95,116,111,108,111,119,101,114,6,259,15,117,110,105,99,111,100,101,95,116,111,108,111,119,101,114,9,20,95,115,114,101,46,117,110,105,99,111,100,101,95,116,111,108,111,119,101,114,6,261,5,77,65,71,73,67,4,260,0,20230612,6,263,8,67,79,68,69,83,73,90,69,4,262,0,4,6,265,9,77,65,88,82,69,80,69,65,84,4,264,0,4294967295,6,267,9,77,65,88,71,82,79,85,80,83,4,266,0,1073741823,6,269,9,99,111,112,121,114,105,103,104,116,6,268,53,32,83,82,69,32,50,46,50,46,50,32,67,111,112,121,114,105,103,104,116,32,40,99,41,32,49,57,57,55,45,50,48,48,50,32,98,121,32,83,101,99,114,101,116,32,76,97,98,115,32,65,66,32]) 0,bF true,bF false,ad ea 271])
def e9 (P:Params):Obj:=ay "tuple" (aR #[])
def Dy (P:Params):Obj:=bh (aY #[])
def fa (P:Params):Obj:=ay "code" (aY #[ad qm 277,ad qm 278,ad bg 279,ah 1 0,ah 0 0,ah 0 0,ah 0 0,ah 0 0,ai 28,bF false,ah 276 0,ai 29,ak,ak,ak,ak,ah 280 0,ah 1 0,ad bg 281])
def fb (P:Params):Obj:=iF (Value.type "frame") none Data.plain #[some (ai 30),some (ai 3),some (ai 3),none,some (ad k6 164),none,some (ai 0)]
def x3 (P:Params):Obj:=ay "dict" (cX #[ag P k0 165 (ad k6 164),ag P k2 166 ak,ag P k3 167 ak,ag P k4 168 (aX "__main__.__loader__#opaque"),ag P k5 169 ak,ag P gh 170 (ai 6),ag P gi 171 (ai 4),ag P gk 173 (ad bg 172),ag P gm 174 ak,ag P ea 275 (ai 12),ag P dZ 288 (ai 38),ag P gn 323 (ai 43),ag P gp 325 (ad f0 324)] 13)
def jn (P:Params):Obj:=bh (aY #[ah 2 0,ah 0 0,ai 37])
def fu (P:Params):Obj:=ay "tuple" (aR #[])
def fv (P:Params):Obj:=bh (aY #[])
def fw (P:Params):Obj:=ay "tuple" (aR #[ad nR 285])
def fx (P:Params):Obj:=ay "tuple" (aR #[])
def fy (P:Params):Obj:=bh (bq (br dZ dZ (bC 1) (FuncBody.stmts (bD 1)) (bE 1) 0 [] ak ak ak ak none ak ak 0))
def fz (P:Params):Obj:=ay "code" (aY #[ad dZ 282,ad dZ 283,ad bg 284,ah 2 0,ah 1 0,ah 0 0,ah 0 0,ah 3 0,ai 32,bF true,ah 276 0,ai 33,ak,ai 34,ai 35,ai 36,ah 286 0,ah 2 0,ad bg 287])
def fA (P:Params):Obj:=ay "function" (bq (br dZ dZ (bC 1) (FuncBody.stmts (bD 1)) (bE 1) 3 [] ak ak ak (ad k6 164) none (ai 37) ak 0))
def fC (P:Params):Obj:=ay "list" (aR #[ah 14 292,ah 8 293,ah 1 294,ah 3 295,ah 3 296,ah 1 297,ah 1 298,ah 61 299,ah 0 300,ah 16 301,ah 61 302,ah 24 303,ah 16 304,ah 2 305,ah 2 306,ah 13 307,ah 11 308,ah 9 309,ah 0 310,ah 67043328 311,ah 126 312,ah 126 313,ah 0 314,ah 0 315,ah 0 316,ah 0 317,ah 0 318,ah 1 319,ah 1 320])
def fF (P:Params):Obj:=ay "dict" (cX #[])
def fH (P:Params):Obj:=ay "tuple" (aR #[ak])
def fI (P:Params):Obj:=ay "tuple" (aR #[ah 14 0,ah 8 0,ah 1 0,ah 3 0,ah 3 0,ah 1 0,ah 1 0,ah 61 0,ah 0 0,ah 16 0,ah 61 0,ah 24 0,ah 16 0,ah 2 0,ah 2 0,ah 13 0,ah 11 0,ah 9 0,ah 0 0,ah 67043328 0,ah 126 0,ah 126 0,ah 0 0,ah 0 0,ah 0 0,ah 0 0,ah 0 0,ah 1 0,ah 1 0])
def fJ (P:Params):Obj:=ay "re.Pattern" (aY #[ad (an #[61,91,97,45,102,65,45,70,48,45,57,93,123,50,125]) 290,ah 256 322,ah 0 0,ak,ak,ai 42,ah 0 0])
def f1 (P:Params):Obj:=ay "range" (aY #[ah 0 327,ah 256 326,ah 1 328])
def Dz (P:Params):Obj:=ay "range_iterator" (aY #[ah 1 0,ah 255 0,ah 1 0])
def DA (P:Params):Obj:=ay "list" (aR #[ad (an #[61,48,48]) 332] 1)
def DB (P:Params):Obj:=ay "dict" (cX #[ag P gq 330 (ah 0 329)] 1)
def DC (P:Params):Obj:=ay "dict" (cX #[ag P k0 165 (ad k6 164),ag P k2 166 ak,ag P k3 167 ak,ag P k4 168 (aX "__main__.__loader__#opaque"),ag P k5 169 ak,ag P gh 170 (ai 6),ag P gi 171 (ai 4),ag P gk 173 (ad bg 172),ag P gm 174 ak,ag P ea 275 (ai 12),ag P dZ 288 (ai 38),ag P gn 323 (ai 43),ag P gp 325 (ad f0 324),ag P gW 1353 (ai 46)] 14)
def gr (P:Params):Obj:=ay "range_iterator" (aY #[ah 256 0,ah 0 0,ah 1 0])
def f2 (P:Params):Obj:=ay "list" (aR jl.toArray 256)
def gt (P:Params):Obj:=ay "dict" (cX #[] 2)
def gu (P:Params):Obj:=ay "tuple" (aR #[])
def gv (P:Params):Obj:=ay "StopIteration" (aY #[ai 48,ak,ak,ak,bF false,ak])
def DD (P:Params):Obj:=ay "dict" (cX #[ag P k0 165 (ad hE 1369),ag P k2 166 ak,ag P k3 167 ak,ag P k4 168 (aX "__main__.__loader__#opaque"),ag P k5 169 ak,ag P gh 170 (ai 6),ag P gi 171 (ai 4),ag P gk 173 (ad bg 172),ag P gm 174 ak,ag P ea 275 (ai 12),ag P dZ 288 (ai 38),ag P gn 323 (ai 43),ag P gp 325 (ad f0 324),ag P gW 1353 (ai 46),ag P hG 1354 (ai 51),ag P hI 1355 (ai 53),ag P hJ 1357 (ad iG 1356),ag P hK 1359 (ad iH 1358),ag P hM 1361 (ad iI 1360),ag P hN 1363 (ad iJ 1362),ag P hO 1368 (ad iK 1367)] 21)
def g4 (P:Params):Obj:=ay "slice" (aY #[ak,ak,ak])
def DE (P:Params):Obj:=ay "list" (aR jl.toArray)
def g5 (P:Params):Obj:=ay "slice" (aY #[ak,ak,ak])
def ry (P:Params):Obj:=ay "list" (aR jl.toArray)
def DF (P:Params):Obj:=ay "dict" (cX #[ag P k0 165 (ad hE 1369),ag P k2 166 ak,ag P k3 167 ak,ag P k4 168 (aX "__main__.__loader__#opaque"),ag P k5 169 ak,ag P gh 170 (ai 6),ag P gi 171 (ai 4),ag P gk 173 (ad bg 172),ag P gm 174 ak,ag P ea 275 (ai 12),ag P dZ 288 (ai 38),ag P gn 323 (ai 43),ag P gp 325 (ad f0 324),ag P gW 1353 (ai 46),ag P hG 1354 (ai 51),ag P hI 1355 (ai 53),ag P hJ 1357 (ad iG 1356),ag P hK 1359 (ad iH 1358),ag P hM 1361 (ad iI 1360),ag P hN 1363 (ad iJ 1362),ag P hO 1368 (ad iK 1367),ag P gq 1379 (ah 33 1381)] 22)
def DG (P:Params):Obj:=ay "list" (aR (jm jl 0 [(33,ad lW 1383),(45,ad nT 1380)]).toArray)
def DH (P:Params):Obj:=ay "bytes_iterator" (aY #[Value.bytes #[45,33,42,43,47,97,98,99,100,101,102,103,104,105,106,107,108,109,110,111,112,113,114,115,116,117,118,119,120,121,122,65,66,67,68,69,70,71,72,73,74,75,76,77,78,79,80,81,82,83,84,85,86,87,88,89,90,48,49,50,51,52,53,54,55,56,57] 1377,ah 2 0])
def x4 (P:Params):Obj:=ay "dict" (cX #[ag P k0 165 (ad hE 1369),ag P k2 166 ak,ag P k3 167 ak,ag P k4 168 (aX "__main__.__loader__#opaque"),ag P k5 169 ak,ag P gh 170 (ai 6),ag P gi 171 (ai 4),ag P gk 173 (ad bg 172),ag P gm 174 ak,ag P ea 275 (ai 12),ag P dZ 288 (ai 38),ag P gn 323 (ai 43),ag P gp 325 (ad f0 324),ag P gW 1353 (ai 46),ag P hG 1354 (ai 51),ag P hI 1355 (ai 53),ag P hJ 1357 (ad iG 1356),ag P hK 1359 (ad iH 1358),ag P hM 1361 (ad iI 1360),ag P hN 1363 (ad iJ 1362),ag P hO 1368 (ad iK 1367),ag P gq 1379 (ah 57 1576)] 22)
def DI (P:Params):Obj:=ay "list" (aR (jm jl 0 [(33,ad lW 1383),(42,ad qp 1386),(43,ad qq 1389),(45,ad nT 1380),(47,ad qr 1392),(48,ad qs 1551),(49,ad qt 1554),(50,ad qu 1557),(51,ad qw 1560),(52,ad qx 1563),(53,ad qy 1566),(54,ad qz 1569),(55,ad qA 1572),(56,ad qB 1575),(57,ad qC 1578),(65,ad qH 1473),(66,ad qI 1476),(67,ad k9 1479),(68,ad qJ 1482),(69,ad qK 1485),(70,ad qL 1488),(71,ad qM 1491),(72,ad qN 1494),(73,ad qO 1497),(74,ad qP 1500),(75,ad qQ 1503),(76,ad qR 1506),(77,ad qS 1509),(78,ad qT 1512),(79,ad qU 1515),(80,ad qV 1518),(81,ad qW 1521),(82,ad qX 1524),(83,ad qY 1527),(84,ad qZ 1530),(85,ad q0 1533),(86,ad q4 1536),(87,ad q5 1539),(88,ad q6 1542),(89,ad q7 1545),(90,ad q8 1548),(97,ad nU 1395),(98,ad nV 1398),(99,ad gq 1401),(100,ad q9 1404),(101,ad rb 1407),(102,ad rc 1410),(103,ad rd 1413),(104,ad rf 1416),(105,ad j3 1419),(106,ad rg 1422),(107,ad nR 1425),(108,ad rh 1428),(109,ad ri 1431),(110,ad nW 1434),(111,ad rj 1437),(112,ad jd 1440),(113,ad rk 1443),(114,ad rl 1446),(115,ad j4 1449),(116,ad rm 1452),(117,ad ro 1455),(118,ad rp 1458),(119,ad rq 1461),(120,ad nX 1464),(121,ad rr 1467),(122,ad rs 1470)]).toArray)
def iM (P:Params):Obj:=ay "bytes_iterator" (aY #[ak,ah 67 0])
def iN (P:Params):Obj:=ay "tuple" (aR #[])
def iO (P:Params):Obj:=ay "StopIteration" (aY #[ai 55,ak,ak,ak,bF false,ak])
def jo (P:Params):Obj:=ay "list" (aR (jm jl 0 [(32,ad rt 1579),(33,ad lW 1383),(42,ad qp 1386),(43,ad qq 1389),(45,ad nT 1380),(47,ad qr 1392),(48,ad qs 1551),(49,ad qt 1554),(50,ad qu 1557),(51,ad qw 1560),(52,ad qx 1563),(53,ad qy 1566),(54,ad qz 1569),(55,ad qA 1572),(56,ad qB 1575),(57,ad qC 1578),(65,ad qH 1473),(66,ad qI 1476),(67,ad k9 1479),(68,ad qJ 1482),(69,ad qK 1485),(70,ad qL 1488),(71,ad qM 1491),(72,ad qN 1494),(73,ad qO 1497),(74,ad qP 1500),(75,ad qQ 1503),(76,ad qR 1506),(77,ad qS 1509),(78,ad qT 1512),(79,ad qU 1515),(80,ad qV 1518),(81,ad qW 1521),(82,ad qX 1524),(83,ad qY 1527),(84,ad qZ 1530),(85,ad q0 1533),(86,ad q4 1536),(87,ad q5 1539),(88,ad q6 1542),(89,ad q7 1545),(90,ad q8 1548),(97,ad nU 1395),(98,ad nV 1398),(99,ad gq 1401),(100,ad q9 1404),(101,ad rb 1407),(102,ad rc 1410),(103,ad rd 1413),(104,ad rf 1416),(105,ad j3 1419),(106,ad rg 1422),(107,ad nR 1425),(108,ad rh 1428),(109,ad ri 1431),(110,ad nW 1434),(111,ad rj 1437),(112,ad jd 1440),(113,ad rk 1443),(114,ad rl 1446),(115,ad j4 1449),(116,ad rm 1452),(117,ad ro 1455),(118,ad rp 1458),(119,ad rq 1461),(120,ad nX 1464),(121,ad rr 1467),(122,ad rs 1470)]).toArray)
def DJ (P:Params):Obj:=ay "dict" (cX #[ag P k0 165 (ad hE 1369),ag P k2 166 ak,ag P k3 167 ak,ag P k4 168 (aX "__main__.__loader__#opaque"),ag P k5 169 ak,ag P gh 170 (ai 6),ag P gi 171 (ai 4),ag P gk 173 (ad bg 172),ag P gm 174 ak,ag P ea 275 (ai 12),ag P dZ 288 (ai 38),ag P gn 323 (ai 43),ag P gp 325 (ad f0 324),ag P gW 1353 (ai 46),ag P hG 1354 (ai 51),ag P hI 1355 (ai 53),ag P hJ 1357 (ad iG 1356),ag P hK 1359 (ad iH 1358),ag P hM 1361 (ad iI 1360),ag P hN 1363 (ad iJ 1362),ag P hO 1368 (ad iK 1367),ag P gq 1379 (ah 33 1586)] 22)
def DK (P:Params):Obj:=ay "list" (aR (jm jl 0 [(32,ad tY 1585),(33,ad lW 1588)]).toArray)
def DL (P:Params):Obj:=ay "bytes_iterator" (aY #[Value.bytes #[32,33,34,35,36,37,38,39,40,41,42,43,44,45,46,47,48,49,50,51,52,53,54,55,56,57,58,59,60,62,63,64,65,66,67,68,69,70,71,72,73,74,75,76,77,78,79,80,81,82,83,84,85,86,87,88,89,90,91,92,93,94,95,96,97,98,99,100,101,102,103,104,105,106,107,108,109,110,111,112,113,114,115,116,117,118,119,120,121,122,123,124,125,126,9] 1582,ah 2 0])
def DM (P:Params):Obj:=ay "dict" (cX #[ag P k0 165 (ad hE 1369),ag P k2 166 ak,ag P k3 167 ak,ag P k4 168 (aX "__main__.__loader__#opaque"),ag P k5 169 ak,ag P gh 170 (ai 6),ag P gi 171 (ai 4),ag P gk 173 (ad bg 172),ag P gm 174 ak,ag P ea 275 (ai 12),ag P dZ 288 (ai 38),ag P gn 323 (ai 43),ag P gp 325 (ad f0 324),ag P gW 1353 (ai 46),ag P hG 1354 (ai 51),ag P hI 1355 (ai 53),ag P hJ 1357 (ad iG 1356),ag P hK 1359 (ad iH 1358),ag P hM 1361 (ad iI 1360),ag P hN 1363 (ad iJ 1362),ag P hO 1368 (ad iK 1367),ag P gq 1379 (ah 9 1865)] 22)
def la (P:Params):Obj:=ay "list" (aR (jm jl 0 [(9,ad xq 1867),(32,ad tY 1585),(33,ad lW 1588),(34,ad xr 1591),(35,ad xt 1594),(36,ad xu 1597),(37,ad xv 1600),(38,ad xw 1603),(39,ad xx 1606),(40,ad xy 1609),(41,ad xz 1612),(42,ad qp 1615),(43,ad qq 1618),(44,ad xA 1621),(45,ad nT 1624),(46,ad xB 1627),(47,ad qr 1630),(48,ad qs 1633),(49,ad qt 1636),(50,ad qu 1639),(51,ad qw 1642),(52,ad qx 1645),(53,ad qy 1648),(54,ad qz 1651),(55,ad qA 1654),(56,ad qB 1657),(57,ad qC 1660),(58,ad xC 1663),(59,ad xD 1666),(60,ad xE 1669),(62,ad xF 1672),(63,ad xG 1675),(64,ad xH 1678),(65,ad qH 1681),(66,ad qI 1684),(67,ad k9 1687),(68,ad qJ 1690),(69,ad qK 1693),(70,ad qL 1696),(71,ad qM 1699),(72,ad qN 1702),(73,ad qO 1705),(74,ad qP 1708),(75,ad qQ 1711),(76,ad qR 1714),(77,ad qS 1717),(78,ad qT 1720),(79,ad qU 1723),(80,ad qV 1726),(81,ad qW 1729),(82,ad qX 1732),(83,ad qY 1735),(84,ad qZ 1738),(85,ad q0 1741),(86,ad q4 1744),(87,ad q5 1747),(88,ad q6 1750),(89,ad q7 1753),(90,ad q8 1756),(91,ad xI 1759),(92,ad xJ 1762),(93,ad xK 1765),(94,ad xL 1768),(95,ad rt 1771),(96,ad xM 1774),(97,ad nU 1777),(98,ad nV 1780),(99,ad gq 1783),(100,ad q9 1786),(101,ad rb 1789),(102,ad rc 1792),(103,ad rd 1795),(104,ad rf 1798),(105,ad j3 1801),(106,ad rg 1804),(107,ad nR 1807),(108,ad rh 1810),(109,ad ri 1813),(110,ad nW 1816),(111,ad rj 1819),(112,ad jd 1822),(113,ad rk 1825),(114,ad rl 1828),(115,ad j4 1831),(116,ad rm 1834),(117,ad ro 1837),(118,ad rp 1840),(119,ad rq 1843),(120,ad nX 1846),(121,ad rr 1849),(122,ad rs 1852),(123,ad xN 1855),(124,ad xO 1858),(125,ad xP 1861),(126,ad xQ 1864)]).toArray)
def lb (P:Params):Obj:=ay "bytes_iterator" (aY #[ak,ah 95 0])
def lc (P:Params):Obj:=ay "tuple" (aR #[])
def lf (P:Params):Obj:=ay "StopIteration" (aY #[ai 58,ak,ak,ak,bF false,ak])
def DN (P:Params):Obj:=ay "dict" (cX #[ag P k0 165 (ad hE 1369),ag P k2 166 ak,ag P k3 167 ak,ag P k4 168 (aX "__main__.__loader__#opaque"),ag P k5 169 ak,ag P gh 170 (ai 6),ag P gi 171 (ai 4),ag P gk 173 (ad bg 172),ag P gm 174 ak,ag P ea 275 (ai 12),ag P dZ 288 (ai 38),ag P gn 323 (ai 43),ag P gp 325 (ad f0 324),ag P gW 1353 (ai 46),ag P hG 1354 (ai 51),ag P hI 1355 (ai 53),ag P hJ 1357 (ad iG 1356),ag P hK 1359 (ad iH 1358),ag P hM 1361 (ad iI 1360),ag P hN 1363 (ad iJ 1362),ag P hO 1368 (ad iK 1367),ag P gX 1874 (ai 66),ag P gY 1881 (ai 73),ag P lX 1882 (ai 75),ag P gZ 1902 (ai 86),ag P g0 1910 (ai 93),ag P g3 1917 (ai 100)] 29)
def DO (P:Params):Obj:=bh (aY #[ah 2 0,ah 0 0,ai 37,ah 21 0,ah 0 0,ai 65,ah 23 0,ah 0 0,ai 72,ah 29 0,ah 0 0,ai 85,ah 59 0,ah 0 0,ai 92,ah 62 0,ah 0 0,ai 99])
def lZ (P:Params):Obj:=ay "tuple" (aR #[])
def l1 (P:Params):Obj:=bh (aY #[])
def l6 (P:Params):Obj:=ay "tuple" (aR #[ad j4 1871])
def ma (P:Params):Obj:=ay "tuple" (aR #[])
def mb (P:Params):Obj:=bh (bq (br gX gX (bC 16) (FuncBody.stmts (bD 16)) (bE 16) 0 [] ak ak ak ak none ak ak 0))
def mc (P:Params):Obj:=ay "code" (aY #[ad gX 1868,ad gX 1869,ad bg 1870,ah 21 0,ah 1 0,ah 0 0,ah 0 0,ah 3 0,ai 60,bF true,ah 276 0,ai 61,ak,ai 62,ai 63,ai 64,ah 1872 0,ah 21 0,ad bg 1873])
def md (P:Params):Obj:=ay "function" (bq (br gX gX (bC 16) (FuncBody.stmts (bD 16)) (bE 16) 3 [] ak ak ak (ad hE 1369) none (ai 65) ak 0))
def me (P:Params):Obj:=ay "tuple" (aR #[])
def mg (P:Params):Obj:=bh (aY #[])
def mh (P:Params):Obj:=ay "tuple" (aR #[ad gq 1878])
def mi (P:Params):Obj:=ay "tuple" (aR #[])
def mj (P:Params):Obj:=bh (bq (br gY gY (bC 17) (FuncBody.stmts (bD 17)) (bE 17) 0 [] ak ak ak ak none ak ak 0))
def ml (P:Params):Obj:=ay "code" (aY #[ad gY 1875,ad gY 1876,ad bg 1877,ah 23 0,ah 1 0,ah 0 0,ah 0 0,ah 3 0,ai 67,bF true,ah 276 0,ai 68,ak,ai 69,ai 70,ai 71,ah 1879 0,ah 23 0,ad bg 1880])
def mm (P:Params):Obj:=ay "function" (bq (br gY gY (bC 17) (FuncBody.stmts (bD 17)) (bE 17) 3 [] ak ak ak (ad hE 1369) none (ai 72) ak 0))
def mn (P:Params):Obj:=ay "slice" (aY #[ak,ak,ak])
def mo (P:Params):Obj:=ay "list" (aR (jm jl 0 [(9,ad xq 1867),(10,ad f0 1889),(13,ad (an #[13]) 1886),(32,ad tY 1585),(33,ad lW 1588),(34,ad xr 1591),(35,ad xt 1594),(36,ad xu 1597),(37,ad xv 1600),(38,ad xw 1603),(39,ad xx 1606),(40,ad xy 1609),(41,ad xz 1612),(42,ad qp 1615),(43,ad qq 1618),(44,ad xA 1621),(45,ad nT 1624),(46,ad xB 1627),(47,ad qr 1630),(48,ad qs 1633),(49,ad qt 1636),(50,ad qu 1639),(51,ad qw 1642),(52,ad qx 1645),(53,ad qy 1648),(54,ad qz 1651),(55,ad qA 1654),(56,ad qB 1657),(57,ad qC 1660),(58,ad xC 1663),(59,ad xD 1666),(60,ad xE 1669),(62,ad xF 1672),(63,ad xG 1675),(64,ad xH 1678),(65,ad qH 1681),(66,ad qI 1684),(67,ad k9 1687),(68,ad qJ 1690),(69,ad qK 1693),(70,ad qL 1696),(71,ad qM 1699),(72,ad qN 1702),(73,ad qO 1705),(74,ad qP 1708),(75,ad qQ 1711),(76,ad qR 1714),(77,ad qS 1717),(78,ad qT 1720),(79,ad qU 1723),(80,ad qV 1726),(81,ad qW 1729),(82,ad qX 1732),(83,ad qY 1735),(84,ad qZ 1738),(85,ad q0 1741),(86,ad q4 1744),(87,ad q5 1747),(88,ad q6 1750),(89,ad q7 1753),(90,ad q8 1756),(91,ad xI 1759),(92,ad xJ 1762),(93,ad xK 1765),(94,ad xL 1768),(95,ad rt 1771),(96,ad xM 1774),(97,ad nU 1777),(98,ad nV 1780),(99,ad gq 1783),(100,ad q9 1786),(101,ad rb 1789),(102,ad rc 1792),(103,ad rd 1795),(104,ad rf 1798),(105,ad j3 1801),(106,ad rg 1804),(107,ad nR 1807),(108,ad rh 1810),(109,ad ri 1813),(110,ad nW 1816),(111,ad rj 1819),(112,ad jd 1822),(113,ad rk 1825),(114,ad rl 1828),(115,ad j4 1831),(116,ad rm 1834),(117,ad ro 1837),(118,ad rp 1840),(119,ad rq 1843),(120,ad nX 1846),(121,ad rr 1849),(122,ad rs 1852),(123,ad xN 1855),(124,ad xO 1858),(125,ad xP 1861),(126,ad xQ 1864)]).toArray)
def mq (P:Params):Obj:=ay "bytes_iterator" (aY #[ak,ah 2 0])
def mr (P:Params):Obj:=ay "tuple" (aR #[])
def ms (P:Params):Obj:=ay "StopIteration" (aY #[ai 77,ak,ak,ak,bF false,ak])
def mt (P:Params):Obj:=ay "tuple" (aR #[ad f0 324])
def mu (P:Params):Obj:=ay "tuple" (aR #[])
def mv (P:Params):Obj:=bh (aY #[])
def mw (P:Params):Obj:=ay "tuple" (aR #[ad (an #[101,110,99,111,100,101,100]) 1893,ad (an #[101,111,108]) 1894,ad (an #[100,101,99,111,100,101,100]) 1895,ad (an #[108,105,110,101]) 1896,ad j3 1897,ad nW 1898,ad gq 1899])
def mx (P:Params):Obj:=ay "tuple" (aR #[])
def my (P:Params):Obj:=bh (bq (br gZ gZ (bC 21) (FuncBody.stmts (bD 21)) (bE 21) 0 [] ak ak ak ak none ak ak 0))
def mA (P:Params):Obj:=ay "code" (aY #[ad gZ 1890,ad gZ 1891,ad bg 1892,ah 29 0,ah 2 0,ah 0 0,ah 0 0,ah 3 0,ai 80,bF true,ah 276 0,ai 81,ak,ai 82,ai 83,ai 84,ah 1900 0,ah 29 0,ad bg 1901])
def mB (P:Params):Obj:=ay "function" (bq (br gZ gZ (bC 21) (FuncBody.stmts (bD 21)) (bE 21) 3 [] (ai 79) ak ak (ad hE 1369) none (ai 85) ak 0))
def mC (P:Params):Obj:=ay "tuple" (aR #[])
def mD (P:Params):Obj:=bh (aY #[])
def mE (P:Params):Obj:=ay "tuple" (aR #[ad (an #[109,97,116,99,104]) 1906,ad j4 1907])
def mF (P:Params):Obj:=ay "tuple" (aR #[])
def mG (P:Params):Obj:=bh (bq (br g0 g0 (bC 22) (FuncBody.stmts (bD 22)) (bE 22) 0 [] ak ak ak ak none ak ak 0))
def mH (P:Params):Obj:=ay "code" (aY #[ad g0 1903,ad g0 1904,ad bg 1905,ah 59 0,ah 1 0,ah 0 0,ah 0 0,ah 3 0,ai 87,bF true,ah 276 0,ai 88,ak,ai 89,ai 90,ai 91,ah 1908 0,ah 59 0,ad bg 1909])
def mI (P:Params):Obj:=ay "function" (bq (br g0 g0 (bC 22) (FuncBody.stmts (bD 22)) (bE 22) 3 [] ak ak ak (ad hE 1369) none (ai 92) ak 0))
def mJ (P:Params):Obj:=ay "tuple" (aR #[])
def mK (P:Params):Obj:=bh (aY #[])
def mL (P:Params):Obj:=ay "tuple" (aR #[ad j4 1914])
def mM (P:Params):Obj:=ay "tuple" (aR #[])
def mN (P:Params):Obj:=bh (bq (br g3 g3 (bC 23) (FuncBody.stmts (bD 23)) (bE 23) 0 [] ak ak ak ak none ak ak 0))
def mO (P:Params):Obj:=ay "code" (aY #[ad g3 1911,ad g3 1912,ad bg 1913,ah 62 0,ah 1 0,ah 0 0,ah 0 0,ah 3 0,ai 94,bF true,ah 276 0,ai 95,ak,ai 96,ai 97,ai 98,ah 1915 0,ah 62 0,ad bg 1916])
def mP (P:Params):Obj:=ay "function" (bq (br g3 g3 (bC 23) (FuncBody.stmts (bD 23)) (bE 23) 3 [] ak ak ak (ad hE 1369) none (ai 99) ak 0))
def DP (P:Params):Obj:=ay "dict" (cX #[ag P k0 165 (ad nY 1982),ag P k2 166 ak,ag P k3 167 ak,ag P k4 168 (aX "__main__.__loader__#opaque"),ag P k5 169 ak,ag P gh 170 (ai 6),ag P gi 171 (ai 4),ag P gk 173 (ad bg 172),ag P gm 174 ak,ag P ea 275 (ai 12),ag P dZ 288 (ai 38),ag P gn 323 (ai 43),ag P gp 325 (ad f0 324),ag P gW 1353 (ai 46),ag P hG 1354 (ai 51),ag P hI 1355 (ai 53),ag P hJ 1357 (ad iG 1356),ag P hK 1359 (ad iH 1358),ag P hM 1361 (ad iI 1360),ag P hN 1363 (ad iJ 1362),ag P hO 1368 (ad iK 1367),ag P gX 1874 (ai 66),ag P gY 1881 (ai 73),ag P lX 1882 (ai 75),ag P gZ 1902 (ai 86),ag P g0 1910 (ai 93),ag P g3 1917 (ai 100),ag P hU 1927 (ai 107),ag P hV 1936 (ai 114),ag P hW 1945 (ai 121),ag P hX 1957 (ai 128),ag P hY 1970 (ai 135),ag P hZ 1981 (ai 142)] 35)
def DQ (P:Params):Obj:=bh (aY #[ah 2 0,ah 0 0,ai 37,ah 21 0,ah 0 0,ai 65,ah 23 0,ah 0 0,ai 72,ah 29 0,ah 0 0,ai 85,ah 59 0,ah 0 0,ai 92,ah 62 0,ah 0 0,ai 99,ah 66 0,ah 0 0,ai 106,ah 69 0,ah 0 0,ai 113,ah 77 0,ah 0 0,ai 120,ah 82 0,ah 0 0,ai 127,ah 93 0,ah 0 0,ai 134,ah 108 0,ah 0 0,ai 141])
def oa (P:Params):Obj:=ay "tuple" (aR #[])
def oc (P:Params):Obj:=bh (aY #[])
def oe (P:Params):Obj:=ay "tuple" (aR #[ad nZ 1923,ad xR 1924])
def og (P:Params):Obj:=ay "tuple" (aR #[])
def oh (P:Params):Obj:=bh (bq (br hU hU (bC 25) (FuncBody.stmts (bD 25)) (bE 25) 0 [] ak ak ak ak none ak ak 0))
def oi (P:Params):Obj:=ay "code" (aY #[ad hU 1920,ad hU 1921,ad bg 1922,ah 66 0,ah 2 0,ah 0 0,ah 0 0,ah 3 0,ai 101,bF true,ah 276 0,ai 102,ak,ai 103,ai 104,ai 105,ah 1925 0,ah 66 0,ad bg 1926])
def oj (P:Params):Obj:=ay "function" (bq (br hU hU (bC 25) (FuncBody.stmts (bD 25)) (bE 25) 3 [] ak ak ak (ad n0 1918) none (ai 106) ak 0))
def ol (P:Params):Obj:=ay "tuple" (aR #[])
def om (P:Params):Obj:=bh (aY #[])
def oq (P:Params):Obj:=ay "tuple" (aR #[ad nZ 1931,ad (an #[108,97,115,116,101,108,116]) 1932,ad xS 1933])
def ot (P:Params):Obj:=ay "tuple" (aR #[])
def ou (P:Params):Obj:=bh (bq (br hV hV (bC 26) (FuncBody.stmts (bD 26)) (bE 26) 0 [] ak ak ak ak none ak ak 0))
def ov (P:Params):Obj:=ay "code" (aY #[ad hV 1928,ad hV 1929,ad bg 1930,ah 69 0,ah 1 0,ah 0 0,ah 0 0,ah 3 0,ai 108,bF true,ah 276 0,ai 109,ak,ai 110,ai 111,ai 112,ah 1934 0,ah 69 0,ad bg 1935])
def ow (P:Params):Obj:=ay "function" (bq (br hV hV (bC 26) (FuncBody.stmts (bD 26)) (bE 26) 3 [] ak ak ak (ad n0 1918) none (ai 113) ak 0))
def ox (P:Params):Obj:=ay "tuple" (aR #[])
def oy (P:Params):Obj:=bh (aY #[])
def oz (P:Params):Obj:=ay "tuple" (aR #[ad nZ 1940,ad xR 1941,ad xS 1942])
def oA (P:Params):Obj:=ay "tuple" (aR #[])
def oB (P:Params):Obj:=bh (bq (br hW hW (bC 27) (FuncBody.stmts (bD 27)) (bE 27) 0 [] ak ak ak ak none ak ak 0))
def oC (P:Params):Obj:=ay "code" (aY #[ad hW 1937,ad hW 1938,ad bg 1939,ah 77 0,ah 2 0,ah 0 0,ah 0 0,ah 3 0,ai 115,bF true,ah 276 0,ai 116,ak,ai 117,ai 118,ai 119,ah 1943 0,ah 77 0,ad bg 1944])
def oD (P:Params):Obj:=ay "function" (bq (br hW hW (bC 27) (FuncBody.stmts (bD 27)) (bE 27) 3 [] ak ak ak (ad n0 1918) none (ai 120) ak 0))
def oE (P:Params):Obj:=ay "tuple" (aR #[])
def oF (P:Params):Obj:=bh (aY #[])
def oG (P:Params):Obj:=ay "tuple" (aR #[ad nZ 1949,ad xT 1950,ad xU 1951,ad xV 1952,ad (an #[112,97,114,101,110,116,112,111,115]) 1953,ad xo 1954])
def oH (P:Params):Obj:=ay "tuple" (aR #[])
def oI (P:Params):Obj:=bh (bq (br hX hX (bC 28) (FuncBody.stmts (bD 28)) (bE 28) 0 [] ak ak ak ak none ak ak 0))
def oJ (P:Params):Obj:=ay "code" (aY #[ad hX 1946,ad hX 1947,ad bg 1948,ah 82 0,ah 3 0,ah 0 0,ah 0 0,ah 3 0,ai 122,bF true,ah 276 0,ai 123,ak,ai 124,ai 125,ai 126,ah 1955 0,ah 82 0,ad bg 1956])
def oK (P:Params):Obj:=ay "function" (bq (br hX hX (bC 28) (FuncBody.stmts (bD 28)) (bE 28) 3 [] ak ak ak (ad n0 1918) none (ai 127) ak 0))
def oL (P:Params):Obj:=ay "tuple" (aR #[])
def oM (P:Params):Obj:=bh (aY #[])
def oN (P:Params):Obj:=ay "tuple" (aR #[ad nZ 1961,ad xU 1962,ad (an #[101,110,100,112,111,115]) 1963,ad xT 1964,ad xV 1965,ad (an #[99,104,105,108,100,112,111,115]) 1966,ad (an #[114,105,103,104,116,112,111,115]) 1967])
def oO (P:Params):Obj:=ay "tuple" (aR #[])
def oP (P:Params):Obj:=bh (bq (br hY hY (bC 29) (FuncBody.stmts (bD 29)) (bE 29) 0 [] ak ak ak ak none ak ak 0))
def oQ (P:Params):Obj:=ay "code" (aY #[ad hY 1958,ad hY 1959,ad bg 1960,ah 93 0,ah 2 0,ah 0 0,ah 0 0,ah 3 0,ai 129,bF true,ah 276 0,ai 130,ak,ai 131,ai 132,ai 133,ah 1968 0,ah 93 0,ad bg 1969])
def oR (P:Params):Obj:=ay "function" (bq (br hY hY (bC 29) (FuncBody.stmts (bD 29)) (bE 29) 3 [] ak ak ak (ad n0 1918) none (ai 134) ak 0))
def oT (P:Params):Obj:=ay "tuple" (aR #[])
def oU (P:Params):Obj:=bh (aY #[])
def oV (P:Params):Obj:=ay "tuple" (aR #[ad nX 1976,ad (an #[119,104,97,116]) 1977,ad xW 1978])
def oW (P:Params):Obj:=ay "tuple" (aR #[])
def oX (P:Params):Obj:=bh (bq (br hZ hZ (bC 31) (FuncBody.stmts (bD 31)) (bE 31) 0 [] ak ak ak ak none ak ak 0))
def oY (P:Params):Obj:=ay "code" (aY #[ad hZ 1973,ad hZ 1974,ad bg 1975,ah 108 0,ah 2 0,ah 0 0,ah 0 0,ah 3 0,ai 136,bF true,ah 276 0,ai 137,ak,ai 138,ai 139,ai 140,ah 1979 0,ah 108 0,ad bg 1980])
def oZ (P:Params):Obj:=ay "function" (bq (br hZ hZ (bC 31) (FuncBody.stmts (bD 31)) (bE 31) 3 [] ak ak ak (ad xX 1971) none (ai 141) ak 0))
def DR (P:Params):Obj:=ay "dict" (cX #[ag P k0 165 (ad j5 2008),ag P k2 166 ak,ag P k3 167 ak,ag P k4 168 (aX "__main__.__loader__#opaque"),ag P k5 169 ak,ag P gh 170 (ai 6),ag P gi 171 (ai 4),ag P gk 173 (ad bg 172),ag P gm 174 ak,ag P ea 275 (ai 12),ag P dZ 288 (ai 38),ag P gn 323 (ai 43),ag P gp 325 (ad f0 324),ag P gW 1353 (ai 46),ag P hG 1354 (ai 51),ag P hI 1355 (ai 53),ag P hJ 1357 (ad iG 1356),ag P hK 1359 (ad iH 1358),ag P hM 1361 (ad iI 1360),ag P hN 1363 (ad iJ 1362),ag P hO 1368 (ad iK 1367),ag P gX 1874 (ai 66),ag P gY 1881 (ai 73),ag P lX 1882 (ai 75),ag P gZ 1902 (ai 86),ag P g0 1910 (ai 93),ag P g3 1917 (ai 100),ag P hU 1927 (ai 107),ag P hV 1936 (ai 114),ag P hW 1945 (ai 121),ag P hX 1957 (ai 128),ag P hY 1970 (ai 135),ag P hZ 1981 (ai 142),ag P ia 2007 (ai 159),ag P ib 2050 (ai 192)] 37)
def DS (P:Params):Obj:=bh (aY #[ah 2 0,ah 0 0,ai 37,ah 21 0,ah 0 0,ai 65,ah 23 0,ah 0 0,ai 72,ah 29 0,ah 0 0,ai 85,ah 59 0,ah 0 0,ai 92,ah 62 0,ah 0 0,ai 99,ah 66 0,ah 0 0,ai 106,ah 69 0,ah 0 0,ai 113,ah 77 0,ah 0 0,ai 120,ah 82 0,ah 0 0,ai 127,ah 93 0,ah 0 0,ai 134,ah 108 0,ah 0 0,ai 141,ah 114 0,ah 0 0,ai 148,ah 119 0,ah 0 0,ai 167])
def rz (P:Params):Obj:=ay "tuple" (aR #[Value.type "type"])
def rA (P:Params):Obj:=ay "builtin_function_or_method" (aY #[aX "type.__prepare__",Value.type "type"])
def rB (P:Params):Obj:=ay "dict" (cX #[ag P lT 1991 (ad nY 1982),ag P xY 1993 (ad ia 1992),ag P lU 1995 (ah 114 1994),ag P iL 2003 (ai 156),ag P lV 2004 (ai 157)] 5)
def rC (P:Params):Obj:=ay "tuple" (aR #[])
def rD (P:Params):Obj:=bh (aY #[ah 116 0,ah 4 0,ai 155])
def rE (P:Params):Obj:=ay "code" (aY #[ad ia 1986,ad ia 1987,ad bg 1988,ah 114 0,ah 0 0,ah 0 0,ah 0 0,ah 0 0,ai 146,bF false,ah 276 0,ai 147,ak,ak,ak,ak,ah 1989 0,ah 114 0,ad bg 1990])
def rF (P:Params):Obj:=iF (Value.type "frame") none Data.plain #[some (ai 148),some (ai 3),some (ai 145),none,some (ad nY 1982),none,some (ai 0)]
def rG (P:Params):Obj:=ay "tuple" (aR #[])
def rH (P:Params):Obj:=bh (aY #[])
def rI (P:Params):Obj:=ay "tuple" (aR #[ad ru 1999,ad xZ 2000])
def rJ (P:Params):Obj:=ay "tuple" (aR #[])
def rK (P:Params):Obj:=bh (bq (br iL tZ (j0 33 0) (FuncBody.stmts (j1 33 0)) (j2 33 0) 0 [] ak ak ak ak none ak ak 0))
def rL (P:Params):Obj:=ay "code" (aY #[ad iL 1996,ad tZ 1997,ad bg 1998,ah 116 0,ah 2 0,ah 0 0,ah 0 0,ah 3 0,ai 150,bF true,ah 276 0,ai 151,ak,ai 152,ai 153,ai 154,ah 2001 0,ah 116 0,ad bg 2002])
def rM (P:Params):Obj:=ay "function" (bq (br iL tZ (j0 33 0) (FuncBody.stmts (j1 33 0)) (j2 33 0) 3 [] ak ak ak (ad nY 1982) none (ai 155) ak 0))
def rN (P:Params):Obj:=ay "tuple" (aR #[])
def rO (P:Params):Obj:=ay "dict" (cX #[ag P lT 1991 (ad nY 1982),ag P lU 1995 (ah 114 1994),ag P iL 2003 (ai 156),ag P lV 2004 (ai 157),ag P k2 2005 ak] 2)
def rP (P:Params):Obj:=iF (Value.type "type") none (Data.cls (ClassData.mk ia [Value.type "type"] [ai 159,Value.type "type",Value.type "object"] 158 ia true [] [ai 192] false none false)) #[some (ai 143),none,some (ad ia 1984),some (ad ia 1992),some (aX "type.__new__"),some (bF true)]
def rQ (P:Params):Obj:=ay "super" (aY #[ai 159,ai 159,ai 159])
def rR (P:Params):Obj:=ay "builtin_function_or_method" (aY #[aX "object.__init_subclass__",ai 159])
def rS (P:Params):Obj:=ay "tuple" (aR #[ai 159])
def rT (P:Params):Obj:=ay "builtin_function_or_method" (aY #[aX "type.__prepare__",Value.type "type"])
def rU (P:Params):Obj:=ay "dict" (cX #[ag P lT 2017 (ad j5 2008),ag P xY 2019 (ad ib 2018),ag P lU 2021 (ah 119 2020),ag P n6 2030 (ai 175),ag P n7 2038 (ai 182),ag P iL 2046 (ai 189),ag P lV 2047 (ai 190)] 7)
def rV (P:Params):Obj:=ay "tuple" (aR #[])
def rW (P:Params):Obj:=bh (aY #[ah 121 0,ah 4 0,ai 174,ah 127 0,ah 4 0,ai 181,ah 132 0,ah 4 0,ai 188])
def rX (P:Params):Obj:=ay "code" (aY #[ad ib 2012,ad ib 2013,ad bg 2014,ah 119 0,ah 0 0,ah 0 0,ah 0 0,ah 0 0,ai 165,bF false,ah 276 0,ai 166,ak,ak,ak,ak,ah 2015 0,ah 119 0,ad bg 2016])
def rY (P:Params):Obj:=iF (Value.type "frame") none Data.plain #[some (ai 167),some (ai 3),some (ai 164),none,some (ad j5 2008),none,some (ai 0)]
def rZ (P:Params):Obj:=ay "tuple" (aR #[])
def r0 (P:Params):Obj:=bh (aY #[])
def r1 (P:Params):Obj:=ay "tuple" (aR #[ad ru 2025,ad (an #[105,110,115,116,97,110,99,101]) 2026,ad k9 2027])
def r3 (P:Params):Obj:=ay "tuple" (aR #[])
def r4 (P:Params):Obj:=bh (bq (br n6 t0 (j0 35 0) (FuncBody.stmts (j1 35 0)) (j2 35 0) 0 [] ak ak ak ak none ak ak 0))
def r5 (P:Params):Obj:=ay "code" (aY #[ad n6 2022,ad t0 2023,ad bg 2024,ah 121 0,ah 2 0,ah 0 0,ah 0 0,ah 3 0,ai 169,bF true,ah 276 0,ai 170,ak,ai 171,ai 172,ai 173,ah 2028 0,ah 121 0,ad bg 2029])
def r6 (P:Params):Obj:=ay "function" (bq (br n6 t0 (j0 35 0) (FuncBody.stmts (j1 35 0)) (j2 35 0) 3 [] ak ak ak (ad j5 2008) none (ai 174) ak 0))
def r7 (P:Params):Obj:=ay "tuple" (aR #[])
def r8 (P:Params):Obj:=bh (aY #[])
def r9 (P:Params):Obj:=ay "tuple" (aR #[ad ru 2034,ad k9 2035])
def sa (P:Params):Obj:=ay "tuple" (aR #[])
def sb (P:Params):Obj:=bh (bq (br n7 t4 (j0 35 1) (FuncBody.stmts (j1 35 1)) (j2 35 1) 0 [] ak ak ak ak none ak ak 0))
def sc (P:Params):Obj:=ay "code" (aY #[ad n7 2031,ad t4 2032,ad bg 2033,ah 127 0,ah 2 0,ah 0 0,ah 0 0,ah 3 0,ai 176,bF true,ah 276 0,ai 177,ak,ai 178,ai 179,ai 180,ah 2036 0,ah 127 0,ad bg 2037])
def sd (P:Params):Obj:=ay "function" (bq (br n7 t4 (j0 35 1) (FuncBody.stmts (j1 35 1)) (j2 35 1) 3 [] ak ak ak (ad j5 2008) none (ai 181) ak 0))
def se (P:Params):Obj:=ay "tuple" (aR #[])
def sf (P:Params):Obj:=bh (aY #[])
def sg (P:Params):Obj:=ay "tuple" (aR #[ad ru 2042,ad xZ 2043])
def sh (P:Params):Obj:=ay "tuple" (aR #[])
def si (P:Params):Obj:=bh (bq (br iL t5 (j0 35 2) (FuncBody.stmts (j1 35 2)) (j2 35 2) 0 [] ak ak ak ak none ak ak 0))
def sj (P:Params):Obj:=ay "code" (aY #[ad iL 2039,ad t5 2040,ad bg 2041,ah 132 0,ah 2 0,ah 0 0,ah 0 0,ah 3 0,ai 183,bF true,ah 276 0,ai 184,ak,ai 185,ai 186,ai 187,ah 2044 0,ah 132 0,ad bg 2045])
def sk (P:Params):Obj:=ay "function" (bq (br iL t5 (j0 35 2) (FuncBody.stmts (j1 35 2)) (j2 35 2) 3 [] ak ak ak (ad j5 2008) none (ai 188) ak 0))
def sl (P:Params):Obj:=ay "tuple" (aR #[])
def sm (P:Params):Obj:=ay "dict" (cX #[ag P lT 2017 (ad j5 2008),ag P lU 2021 (ah 119 2020),ag P n6 2030 (ai 175),ag P n7 2038 (ai 182),ag P iL 2046 (ai 189),ag P lV 2047 (ai 190),ag P k2 2048 ak] 2)
def sn (P:Params):Obj:=iF (Value.type "type") none (Data.cls (ClassData.mk ib [ai 159] [ai 192,ai 159,Value.type "type",Value.type "object"] 191 ib true [] [] false none false)) #[some (ai 162),none,some (ad ib 2010),some (ad ib 2018),some (aX "type.__new__"),some (bF true)]
def sp (P:Params):Obj:=ay "super" (aY #[ai 192,ai 192,ai 192])
def sq (P:Params):Obj:=ay "builtin_function_or_method" (aY #[aX "object.__init_subclass__",ai 192])
def DT (P:Params):Obj:=ay "dict" (cX #[ag P k0 165 (ad je 2083),ag P k2 166 ak,ag P k3 167 ak,ag P k4 168 (aX "__main__.__loader__#opaque"),ag P k5 169 ak,ag P gh 170 (ai 6),ag P gi 171 (ai 4),ag P gk 173 (ad bg 172),ag P gm 174 ak,ag P ea 275 (ai 12),ag P dZ 288 (ai 38),ag P gn 323 (ai 43),ag P gp 325 (ad f0 324),ag P gW 1353 (ai 46),ag P hG 1354 (ai 51),ag P hI 1355 (ai 53),ag P hJ 1357 (ad iG 1356),ag P hK 1359 (ad iH 1358),ag P hM 1361 (ad iI 1360),ag P hN 1363 (ad iJ 1362),ag P hO 1368 (ad iK 1367),ag P gX 1874 (ai 66),ag P gY 1881 (ai 73),ag P lX 1882 (ai 75),ag P gZ 1902 (ai 86),ag P g0 1910 (ai 93),ag P g3 1917 (ai 100),ag P hU 1927 (ai 107),ag P hV 1936 (ai 114),ag P hW 1945 (ai 121),ag P hX 1957 (ai 128),ag P hY 1970 (ai 135),ag P hZ 1981 (ai 142),ag P ia 2007 (ai 159),ag P ib 2050 (ai 192),ag P jf 2057 (ai 201),ag P jg 2069 (ai 208),ag P jh 2082 (ai 215),ag P ji 2091 (ai 222),ag P jj 2102 (ai 229),ag P jk 2113 (ai 236)] 43)
def DU (P:Params):Obj:=bh (aY #[ah 2 0,ah 0 0,ai 37,ah 21 0,ah 0 0,ai 65,ah 23 0,ah 0 0,ai 72,ah 29 0,ah 0 0,ai 85,ah 59 0,ah 0 0,ai 92,ah 62 0,ah 0 0,ai 99,ah 66 0,ah 0 0,ai 106,ah 69 0,ah 0 0,ai 113,ah 77 0,ah 0 0,ai 120,ah 82 0,ah 0 0,ai 127,ah 93 0,ah 0 0,ai 134,ah 108 0,ah 0 0,ai 141,ah 114 0,ah 0 0,ai 148,ah 119 0,ah 0 0,ai 167,ah 134 0,ah 0 0,ai 200,ah 138 0,ah 0 0,ai 207,ah 155 0,ah 0 0,ai 214,ah 167 0,ah 0 0,ai 221,ah 172 0,ah 0 0,ai 228,ah 189 0,ah 0 0,ai 235])
def t6 (P:Params):Obj:=ay "tuple" (aR #[])
def t7 (P:Params):Obj:=bh (aY #[])
def t8 (P:Params):Obj:=ay "tuple" (aR #[ad k9 2054])
def t9 (P:Params):Obj:=ay "tuple" (aR #[])
def ua (P:Params):Obj:=bh (bq (br jf jf (bC 36) (FuncBody.stmts (bD 36)) (bE 36) 0 [] ak ak ak ak none ak ak 0))
def ub (P:Params):Obj:=ay "code" (aY #[ad jf 2051,ad jf 2052,ad bg 2053,ah 134 0,ah 1 0,ah 0 0,ah 0 0,ah 3 0,ai 195,bF true,ah 276 0,ai 196,ak,ai 197,ai 198,ai 199,ah 2055 0,ah 134 0,ad bg 2056])
def uc (P:Params):Obj:=ay "function" (bq (br jf jf (bC 36) (FuncBody.stmts (bD 36)) (bE 36) 3 [] ak ak ak (ad j5 2008) none (ai 200) ak 0))
def ud (P:Params):Obj:=ay "tuple" (aR #[])
def ue (P:Params):Obj:=bh (aY #[])
def uf (P:Params):Obj:=ay "tuple" (aR #[ad rx 2063,ad xW 2064,ad (an #[104,111,111,107]) 2065,ad (an #[103,105,118,101,110]) 2066])
def ug (P:Params):Obj:=ay "tuple" (aR #[])
def uh (P:Params):Obj:=bh (bq (br jg jg (bC 38) (FuncBody.stmts (bD 38)) (bE 38) 0 [] ak ak ak ak none ak ak 0))
def ui (P:Params):Obj:=ay "code" (aY #[ad jg 2060,ad jg 2061,ad bg 2062,ah 138 0,ah 1 0,ah 0 0,ah 0 0,ah 3 0,ai 202,bF true,ah 276 0,ai 203,ak,ai 204,ai 205,ai 206,ah 2067 0,ah 138 0,ad bg 2068])
def uj (P:Params):Obj:=ay "function" (bq (br jg jg (bC 38) (FuncBody.stmts (bD 38)) (bE 38) 3 [] ak ak ak (ad xX 2058) none (ai 207) ak 0))
def uk (P:Params):Obj:=ay "tuple" (aR #[])
def ul (P:Params):Obj:=bh (aY #[])
def um (P:Params):Obj:=ay "tuple" (aR #[ad (an #[102,117,110,99,110,97,109,101]) 2075,ad (an #[97,114,103,115]) 2076,ad (an #[104,97,115,115,116,114]) 2077,ad (an #[104,97,115,98,121,116,101,115]) 2078,ad j4 2079])
def uo (P:Params):Obj:=ay "tuple" (aR #[])
def up (P:Params):Obj:=bh (bq (br jh jh (bC 40) (FuncBody.stmts (bD 40)) (bE 40) 0 [] ak ak ak ak none ak ak 0))
def uq (P:Params):Obj:=ay "code" (aY #[ad jh 2072,ad jh 2073,ad bg 2074,ah 155 0,ah 1 0,ah 0 0,ah 0 0,ah 7 0,ai 209,bF true,ah 276 0,ai 210,ak,ai 211,ai 212,ai 213,ah 2080 0,ah 155 0,ad bg 2081])
def ur (P:Params):Obj:=ay "function" (bq (br jh jh (bC 40) (FuncBody.stmts (bD 40)) (bE 40) 3 [] ak ak ak (ad (an #[99,112,121,51,49,51,46,103,101,110,101,114,105,99,112,97,116,104]) 2070) none (ai 214) ak 0))
def us (P:Params):Obj:=ay "tuple" (aR #[])
def ut (P:Params):Obj:=bh (aY #[])
def uu (P:Params):Obj:=ay "tuple" (aR #[ad rx 2088])
def uv (P:Params):Obj:=ay "tuple" (aR #[])
def uw (P:Params):Obj:=bh (bq (br ji ji (bC 42) (FuncBody.stmts (bD 42)) (bE 42) 0 [] ak ak ak ak none ak ak 0))
def ux (P:Params):Obj:=ay "code" (aY #[ad ji 2085,ad ji 2086,ad bg 2087,ah 167 0,ah 1 0,ah 0 0,ah 0 0,ah 3 0,ai 216,bF true,ah 276 0,ai 217,ak,ai 218,ai 219,ai 220,ah 2089 0,ah 167 0,ad bg 2090])
def uy (P:Params):Obj:=ay "function" (bq (br ji ji (bC 42) (FuncBody.stmts (bD 42)) (bE 42) 3 [] ak ak ak (ad je 2083) none (ai 221) ak 0))
def uz (P:Params):Obj:=ay "tuple" (aR #[])
def uA (P:Params):Obj:=bh (aY #[])
def uB (P:Params):Obj:=ay "tuple" (aR #[ad nU 2095,ad jd 2096,ad lY 2097,ad rx 2098,ad nV 2099])
def uC (P:Params):Obj:=ay "tuple" (aR #[])
def uD (P:Params):Obj:=bh (bq (br jj jj (bC 43) (FuncBody.stmts (bD 43)) (bE 43) 0 [] ak ak ak ak none ak ak 0))
def uE (P:Params):Obj:=ay "code" (aY #[ad jj 2092,ad jj 2093,ad bg 2094,ah 172 0,ah 1 0,ah 0 0,ah 0 0,ah 7 0,ai 223,bF true,ah 276 0,ai 224,ak,ai 225,ai 226,ai 227,ah 2100 0,ah 172 0,ad bg 2101])
def uF (P:Params):Obj:=ay "function" (bq (br jj jj (bC 43) (FuncBody.stmts (bD 43)) (bE 43) 3 [] ak ak ak (ad je 2083) none (ai 228) ak 0))
def uG (P:Params):Obj:=ay "tuple" (aR #[])
def uH (P:Params):Obj:=bh (aY #[])
def uI (P:Params):Obj:=ay "tuple" (aR #[ad jd 2106,ad lY 2107,ad j3 2108,ad x0 2109,ad (an #[116,97,105,108]) 2110])
def uJ (P:Params):Obj:=ay "tuple" (aR #[])
def uK (P:Params):Obj:=bh (bq (br jk jk (bC 44) (FuncBody.stmts (bD 44)) (bE 44) 0 [] ak ak ak ak none ak ak 0))
def uL (P:Params):Obj:=ay "code" (aY #[ad jk 2103,ad jk 2104,ad bg 2105,ah 189 0,ah 1 0,ah 0 0,ah 0 0,ah 3 0,ai 230,bF true,ah 276 0,ai 231,ak,ai 232,ai 233,ai 234,ah 2111 0,ah 189 0,ad bg 2112])
def uM (P:Params):Obj:=ay "function" (bq (br jk jk (bC 44) (FuncBody.stmts (bD 44)) (bE 44) 3 [] ak ak ak (ad je 2083) none (ai 235) ak 0))
def mQ (P:Params):Obj:=ay "dict" (cX #[ag P k0 165 (ad n9 2163),ag P k2 166 ak,ag P k3 167 ak,ag P k4 168 (aX "__main__.__loader__#opaque"),ag P k5 169 ak,ag P gh 170 (ai 6),ag P gi 171 (ai 4),ag P gk 173 (ad bg 172),ag P gm 174 ak,ag P ea 275 (ai 12),ag P dZ 288 (ai 38),ag P gn 323 (ai 43),ag P gp 325 (ad f0 324),ag P gW 1353 (ai 46),ag P hG 1354 (ai 51),ag P hI 1355 (ai 53),ag P hJ 1357 (ad iG 1356),ag P hK 1359 (ad iH 1358),ag P hM 1361 (ad iI 1360),ag P hN 1363 (ad iJ 1362),ag P hO 1368 (ad iK 1367),ag P gX 1874 (ai 66),ag P gY 1881 (ai 73),ag P lX 1882 (ai 75),ag P gZ 1902 (ai 86),ag P g0 1910 (ai 93),ag P g3 1917 (ai 100),ag P hU 1927 (ai 107),ag P hV 1936 (ai 114),ag P hW 1945 (ai 121),ag P hX 1957 (ai 128),ag P hY 1970 (ai 135),ag P hZ 1981 (ai 142),ag P ia 2007 (ai 159),ag P ib 2050 (ai 192),ag P jf 2057 (ai 201),ag P jg 2069 (ai 208),ag P jh 2082 (ai 215),ag P ji 2091 (ai 222),ag P jj 2102 (ai 229),ag P jk 2113 (ai 236),ag P j6 2122 (ai 243),ag P j7 2131 (ai 250),ag P j8 2141 (ai 257),ag P j9 2156 (ai 264),ag P ka 2162 (ai 269),ag P kb 2170 (ai 274),ag P kc 2176 (ai 279),ag P kd 2183 (ai 286),ag P ic 2189 (ai 291)] 52)
def x5 (P:Params):Obj:=bh (aY #[ah 2 0,ah 0 0,ai 37,ah 21 0,ah 0 0,ai 65,ah 23 0,ah 0 0,ai 72,ah 29 0,ah 0 0,ai 85,ah 59 0,ah 0 0,ai 92,ah 62 0,ah 0 0,ai 99,ah 66 0,ah 0 0,ai 106,ah 69 0,ah 0 0,ai 113,ah 77 0,ah 0 0,ai 120,ah 82 0,ah 0 0,ai 127,ah 93 0,ah 0 0,ai 134,ah 108 0,ah 0 0,ai 141,ah 114 0,ah 0 0,ai 148,ah 119 0,ah 0 0,ai 167,ah 134 0,ah 0 0,ai 200,ah 138 0,ah 0 0,ai 207,ah 155 0,ah 0 0,ai 214,ah 167 0,ah 0 0,ai 221,ah 172 0,ah 0 0,ai 228,ah 189 0,ah 0 0,ai 235,ah 197 0,ah 0 0,ai 242,ah 211 0,ah 0 0,ai 249,ah 216 0,ah 0 0,ai 256,ah 224 0,ah 0 0,ai 263,ah 249 0,ah 0 0,ai 268,ah 279 0,ah 0 0,ai 273,ah 285 0,ah 0 0,ai 278,ah 287 0,ah 0 0,ai 285,ah 289 0,ah 0 0,ai 290])
def x7 (P:Params):Obj:=ay "tuple" (aR #[])
def x8 (P:Params):Obj:=bh (aY #[])
def x9 (P:Params):Obj:=ay "tuple" (aR #[ad jd 2117,ad lY 2118,ad (an #[101,109,112,116,121]) 2119])
def ya (P:Params):Obj:=ay "tuple" (aR #[])
def yb (P:Params):Obj:=bh (bq (br j6 j6 (bC 45) (FuncBody.stmts (bD 45)) (bE 45) 0 [] ak ak ak ak none ak ak 0))
def yc (P:Params):Obj:=ay "code" (aY #[ad j6 2114,ad j6 2115,ad bg 2116,ah 197 0,ah 1 0,ah 0 0,ah 0 0,ah 3 0,ai 237,bF true,ah 276 0,ai 238,ak,ai 239,ai 240,ai 241,ah 2120 0,ah 197 0,ad bg 2121])
def yd (P:Params):Obj:=ay "function" (bq (br j6 j6 (bC 45) (FuncBody.stmts (bD 45)) (bE 45) 3 [] ak ak ak (ad je 2083) none (ai 242) ak 0))
def ye (P:Params):Obj:=ay "tuple" (aR #[])
def yf (P:Params):Obj:=bh (aY #[])
def yg (P:Params):Obj:=ay "tuple" (aR #[ad jd 2126,ad lY 2127,ad j3 2128])
def yh (P:Params):Obj:=ay "tuple" (aR #[])
def yi (P:Params):Obj:=bh (bq (br j7 j7 (bC 46) (FuncBody.stmts (bD 46)) (bE 46) 0 [] ak ak ak ak none ak ak 0))
def yj (P:Params):Obj:=ay "code" (aY #[ad j7 2123,ad j7 2124,ad bg 2125,ah 211 0,ah 1 0,ah 0 0,ah 0 0,ah 3 0,ai 244,bF true,ah 276 0,ai 245,ak,ai 246,ai 247,ai 248,ah 2129 0,ah 211 0,ad bg 2130])
def yk (P:Params):Obj:=ay "function" (bq (br j7 j7 (bC 46) (FuncBody.stmts (bD 46)) (bE 46) 3 [] ak ak ak (ad je 2083) none (ai 249) ak 0))
def yl (P:Params):Obj:=ay "tuple" (aR #[])
def ym (P:Params):Obj:=bh (aY #[])
def yn (P:Params):Obj:=ay "tuple" (aR #[ad jd 2135,ad lY 2136,ad j3 2137,ad x0 2138])
def yo (P:Params):Obj:=ay "tuple" (aR #[])
def yp (P:Params):Obj:=bh (bq (br j8 j8 (bC 47) (FuncBody.stmts (bD 47)) (bE 47) 0 [] ak ak ak ak none ak ak 0))
def yq (P:Params):Obj:=ay "code" (aY #[ad j8 2132,ad j8 2133,ad bg 2134,ah 216 0,ah 1 0,ah 0 0,ah 0 0,ah 3 0,ai 251,bF true,ah 276 0,ai 252,ak,ai 253,ai 254,ai 255,ah 2139 0,ah 216 0,ad bg 2140])
def yr (P:Params):Obj:=ay "function" (bq (br j8 j8 (bC 47) (FuncBody.stmts (bD 47)) (bE 47) 3 [] ak ak ak (ad je 2083) none (ai 256) ak 0))
def yt (P:Params):Obj:=ay "tuple" (aR #[])
def yu (P:Params):Obj:=bh (aY #[])
def yv (P:Params):Obj:=ay "tuple" (aR #[ad rx 2145,ad lY 2146,ad (an #[100,111,116]) 2147,ad (an #[100,111,116,100,111,116]) 2148,ad rt 2149,ad (an #[105,110,105,116,105,97,108,95,115,108,97,115,104,101,115]) 2150,ad (an #[99,111,109,112,115]) 2151,ad (an #[110,101,119,95,99,111,109,112,115]) 2152,ad (an #[99,111,109,112]) 2153])
def yw (P:Params):Obj:=ay "tuple" (aR #[])
def yx (P:Params):Obj:=bh (bq (br j9 j9 (bC 48) (FuncBody.stmts (bD 48)) (bE 48) 0 [] ak ak ak ak none ak ak 0))
def yy (P:Params):Obj:=ay "code" (aY #[ad j9 2142,ad j9 2143,ad bg 2144,ah 224 0,ah 1 0,ah 0 0,ah 0 0,ah 3 0,ai 258,bF true,ah 276 0,ai 259,ak,ai 260,ai 261,ai 262,ah 2154 0,ah 224 0,ad bg 2155])
def yz (P:Params):Obj:=ay "function" (bq (br j9 j9 (bC 48) (FuncBody.stmts (bD 48)) (bE 48) 3 [] ak ak ak (ad je 2083) none (ai 263) ak 0))
def yA (P:Params):Obj:=ay "tuple" (aR #[])
def yB (P:Params):Obj:=bh (aY #[])
def yC (P:Params):Obj:=bh (bq (br ka ka (bC 49) (FuncBody.stmts (bD 49)) (bE 49) 0 [] ak ak ak ak none ak ak 0))
def yD (P:Params):Obj:=ay "code" (aY #[ad ka 2157,ad ka 2158,ad bg 2159,ah 249 0,ah 1 0,ah 0 0,ah 0 0,ah 3 0,ai 265,bF true,ah 276 0,ai 266,ak,ak,ak,ai 267,ah 2160 0,ah 249 0,ad bg 2161])
def yE (P:Params):Obj:=ay "function" (bq (br ka ka (bC 49) (FuncBody.stmts (bD 49)) (bE 49) 3 [] ak ak ak (ad je 2083) none (ai 268) ak 0))
def yF (P:Params):Obj:=ay "tuple" (aR #[])
def yG (P:Params):Obj:=bh (aY #[])
def yH (P:Params):Obj:=bh (bq (br kb kb (bC 51) (FuncBody.stmts (bD 51)) (bE 51) 0 [] ak ak ak ak none ak ak 0))
def yI (P:Params):Obj:=ay "code" (aY #[ad kb 2165,ad kb 2166,ad bg 2167,ah 279 0,ah 1 0,ah 0 0,ah 0 0,ah 3 0,ai 270,bF true,ah 276 0,ai 271,ak,ak,ak,ai 272,ah 2168 0,ah 279 0,ad bg 2169])
def yJ (P:Params):Obj:=ay "function" (bq (br kb kb (bC 51) (FuncBody.stmts (bD 51)) (bE 51) 3 [] ak ak ak (ad n9 2163) none (ai 273) ak 0))
def yK (P:Params):Obj:=ay "tuple" (aR #[])
def yL (P:Params):Obj:=bh (aY #[])
def yM (P:Params):Obj:=bh (bq (br kc kc (bC 52) (FuncBody.stmts (bD 52)) (bE 52) 0 [] ak ak ak ak none ak ak 0))
def yN (P:Params):Obj:=ay "code" (aY #[ad kc 2171,ad kc 2172,ad bg 2173,ah 285 0,ah 1 0,ah 0 0,ah 0 0,ah 3 0,ai 275,bF true,ah 276 0,ai 276,ak,ak,ak,ai 277,ah 2174 0,ah 285 0,ad bg 2175])
def yO (P:Params):Obj:=ay "function" (bq (br kc kc (bC 52) (FuncBody.stmts (bD 52)) (bE 52) 3 [] ak ak ak (ad n9 2163) none (ai 278) ak 0))
def yP (P:Params):Obj:=ay "tuple" (aR #[])
def yQ (P:Params):Obj:=bh (aY #[])
def yR (P:Params):Obj:=ay "tuple" (aR #[ad (an #[119,114,105,116,116,101,110]) 2180])
def yS (P:Params):Obj:=ay "tuple" (aR #[])
def yT (P:Params):Obj:=bh (bq (br kd kd (bC 53) (FuncBody.stmts (bD 53)) (bE 53) 0 [] ak ak ak ak none ak ak 0))
def yU (P:Params):Obj:=ay "code" (aY #[ad kd 2177,ad kd 2178,ad bg 2179,ah 287 0,ah 1 0,ah 0 0,ah 0 0,ah 3 0,ai 280,bF true,ah 276 0,ai 281,ak,ai 282,ai 283,ai 284,ah 2181 0,ah 287 0,ad bg 2182])
def yV (P:Params):Obj:=ay "function" (bq (br kd kd (bC 53) (FuncBody.stmts (bD 53)) (bE 53) 3 [] ak ak ak (ad n9 2163) none (ai 285) ak 0))
def yW (P:Params):Obj:=ay "tuple" (aR #[])
def yX (P:Params):Obj:=bh (aY #[])
def yY (P:Params):Obj:=bh (bq (br ic ic (bC 54) (FuncBody.stmts (bD 54)) (bE 54) 0 [] ak ak ak ak none ak ak 0))
def yZ (P:Params):Obj:=ay "code" (aY #[ad ic 2184,ad ic 2185,ad bg 2186,ah 289 0,ah 1 0,ah 0 0,ah 0 0,ah 3 0,ai 287,bF true,ah 276 0,ai 288,ak,ak,ak,ai 289,ah 2187 0,ah 289 0,ad bg 2188])
def y0 (P:Params):Obj:=ay "function" (bq (br ic ic (bC 54) (FuncBody.stmts (bD 54)) (bE 54) 3 [] ak ak ak (ad n9 2163) none (ai 290) ak 0))
noncomputable def ac (a:Params→Obj) (l r:Params→BT):Params→BT:=fun P=>.node (a P) (l P) (r P)
noncomputable def ae (a:Params→Obj):Params→BT:=fun P=>.node (a P) .nil .nil
noncomputable def av:Params→BT:=fun _=>.nil
def iP:Params→BT:=(ac ej (ac el (ac x2 (ac ep (ae eA) (ae eI)) (ac ew (ae eE) (ae eM))) (ac en (ac et (ae eC) (ae eK)) (ac ey (ae eG) av))) (ac eb (ac em (ac es (ae eB) (ae eJ)) (ac ex (ae eF) av)) (ac eo (ac eu (ae eD) (ae eL)) (ac ez (ae eH) av))))
def o0:Params→BT:=(ac ej (ac el (ac x2 (ac ep (ac eA (ae fb) av) (ae eI)) (ac ew (ae eE) (ae eM))) (ac en (ac et (ae eC) (ae eK)) (ac ey (ae eG) (ae Dy)))) (ac eb (ac em (ac es (ae eB) (ae eJ)) (ac ex (ae eF) (ae e9))) (ac eo (ac eu (ae eD) (ae eL)) (ac ez (ae eH) (ae fa)))))
def lh:Params→BT:=(ac ej (ac el (ac x3 (ac ep (ac eA (ae fb) av) (ac eI (ae fC) av)) (ac ew (ac eE (ae fx) av) (ac eM (ae fJ) av))) (ac en (ac et (ac eC (ae fv) av) (ac eK (ae fH) av)) (ac ey (ac eG (ae fz) av) (ae jn)))) (ac eb (ac em (ac es (ac eB (ae fu) av) (ac eJ (ae fF) av)) (ac ex (ac eF (ae fy) av) (ae e9))) (ac eo (ac eu (ac eD (ae fw) av) (ac eL (ae fI) av)) (ac ez (ac eH (ae fA) av) (ae fa)))))
def DV:Params→BT:=(ac ej (ac el (ac x3 (ac ep (ac eA (ae fb) (ae DB)) (ac eI (ae fC) av)) (ac ew (ac eE (ae fx) av) (ac eM (ae fJ) av))) (ac en (ac et (ac eC (ae fv) av) (ac eK (ae fH) av)) (ac ey (ac eG (ae fz) av) (ac jn (ae Dz) av)))) (ac eb (ac em (ac es (ac eB (ae fu) av) (ac eJ (ae fF) av)) (ac ex (ac eF (ae fy) av) (ac e9 (ae f1) av))) (ac eo (ac eu (ac eD (ae fw) av) (ac eL (ae fI) av)) (ac ez (ac eH (ae fA) av) (ac fa (ae DA) av)))))
def uN:Params→BT:=(ac ej (ac el (ac DC (ac ep (ac eA (ae fb) (ae gt)) (ac eI (ae fC) av)) (ac ew (ac eE (ae fx) av) (ac eM (ae fJ) av))) (ac en (ac et (ac eC (ae fv) (ae gv)) (ac eK (ae fH) av)) (ac ey (ac eG (ae fz) av) (ac jn (ae gr) av)))) (ac eb (ac em (ac es (ac eB (ae fu) (ae gu)) (ac eJ (ae fF) av)) (ac ex (ac eF (ae fy) av) (ac e9 (ae f1) av))) (ac eo (ac eu (ac eD (ae fw) av) (ac eL (ae fI) av)) (ac ez (ac eH (ae fA) av) (ac fa (ae f2) av)))))
def o4:Params→BT:=(ac ej (ac el (ac DD (ac ep (ac eA (ae fb) (ae gt)) (ac eI (ae fC) av)) (ac ew (ac eE (ae fx) (ae DE)) (ac eM (ae fJ) av))) (ac en (ac et (ac eC (ae fv) (ae gv)) (ac eK (ae fH) av)) (ac ey (ac eG (ae fz) (ae ry)) (ac jn (ae gr) av)))) (ac eb (ac em (ac es (ac eB (ae fu) (ae gu)) (ac eJ (ae fF) av)) (ac ex (ac eF (ae fy) (ae g5)) (ac e9 (ae f1) av))) (ac eo (ac eu (ac eD (ae fw) (ae g4)) (ac eL (ae fI) av)) (ac ez (ac eH (ae fA) av) (ac fa (ae f2) av)))))
def DW:Params→BT:=(ac ej (ac el (ac DF (ac ep (ac eA (ae fb) (ae gt)) (ac eI (ae fC) av)) (ac ew (ac eE (ae fx) (ae DG)) (ac eM (ae fJ) av))) (ac en (ac et (ac eC (ae fv) (ae gv)) (ac eK (ae fH) av)) (ac ey (ac eG (ae fz) (ae ry)) (ac jn (ae gr) av)))) (ac eb (ac em (ac es (ac eB (ae fu) (ae gu)) (ac eJ (ae fF) av)) (ac ex (ac eF (ae fy) (ae g5)) (ac e9 (ae f1) av))) (ac eo (ac eu (ac eD (ae fw) (ae g4)) (ac eL (ae fI) av)) (ac ez (ac eH (ae fA) (ae DH)) (ac fa (ae f2) av)))))
def uO:Params→BT:=(ac ej (ac el (ac x4 (ac ep (ac eA (ae fb) (ae gt)) (ac eI (ae fC) (ae iN))) (ac ew (ac eE (ae fx) (ae DI)) (ac eM (ae fJ) av))) (ac en (ac et (ac eC (ae fv) (ae gv)) (ac eK (ae fH) av)) (ac ey (ac eG (ae fz) (ae ry)) (ac jn (ae gr) av)))) (ac eb (ac em (ac es (ac eB (ae fu) (ae gu)) (ac eJ (ae fF) (ae iO))) (ac ex (ac eF (ae fy) (ae g5)) (ac e9 (ae f1) av))) (ac eo (ac eu (ac eD (ae fw) (ae g4)) (ac eL (ae fI) av)) (ac ez (ac eH (ae fA) (ae iM)) (ac fa (ae f2) av)))))
def o5:Params→BT:=(ac ej (ac el (ac x4 (ac ep (ac eA (ae fb) (ae gt)) (ac eI (ae fC) (ae iN))) (ac ew (ac eE (ae fx) (ae jo)) (ac eM (ae fJ) av))) (ac en (ac et (ac eC (ae fv) (ae gv)) (ac eK (ae fH) av)) (ac ey (ac eG (ae fz) (ae ry)) (ac jn (ae gr) av)))) (ac eb (ac em (ac es (ac eB (ae fu) (ae gu)) (ac eJ (ae fF) (ae iO))) (ac ex (ac eF (ae fy) (ae g5)) (ac e9 (ae f1) av))) (ac eo (ac eu (ac eD (ae fw) (ae g4)) (ac eL (ae fI) av)) (ac ez (ac eH (ae fA) (ae iM)) (ac fa (ae f2) av)))))
def DX:Params→BT:=(ac ej (ac el (ac DJ (ac ep (ac eA (ae fb) (ae gt)) (ac eI (ae fC) (ae iN))) (ac ew (ac eE (ae fx) (ae jo)) (ac eM (ae fJ) av))) (ac en (ac et (ac eC (ae fv) (ae gv)) (ac eK (ae fH) (ae DL))) (ac ey (ac eG (ae fz) (ae DK)) (ac jn (ae gr) av)))) (ac eb (ac em (ac es (ac eB (ae fu) (ae gu)) (ac eJ (ae fF) (ae iO))) (ac ex (ac eF (ae fy) (ae g5)) (ac e9 (ae f1) av))) (ac eo (ac eu (ac eD (ae fw) (ae g4)) (ac eL (ae fI) av)) (ac ez (ac eH (ae fA) (ae iM)) (ac fa (ae f2) av)))))
def o6:Params→BT:=(ac ej (ac el (ac DM (ac ep (ac eA (ae fb) (ae gt)) (ac eI (ae fC) (ae iN))) (ac ew (ac eE (ae fx) (ae jo)) (ac eM (ae fJ) (ae lf)))) (ac en (ac et (ac eC (ae fv) (ae gv)) (ac eK (ae fH) (ae lb))) (ac ey (ac eG (ae fz) (ae la)) (ac jn (ae gr) av)))) (ac eb (ac em (ac es (ac eB (ae fu) (ae gu)) (ac eJ (ae fF) (ae iO))) (ac ex (ac eF (ae fy) (ae g5)) (ac e9 (ae f1) av))) (ac eo (ac eu (ac eD (ae fw) (ae g4)) (ac eL (ae fI) (ae lc))) (ac ez (ac eH (ae fA) (ae iM)) (ac fa (ae f2) av)))))
def sr:Params→BT:=(ac ej (ac el (ac DN (ac ep (ac eA (ac fb (ae ma) (ae mK)) (ac gt (ae mt) av)) (ac eI (ac fC (ae mj) av) (ac iN (ae mC) av))) (ac ew (ac eE (ac fx (ae me) (ae mO)) (ac jo (ae mx) av)) (ac eM (ac fJ (ae mo) av) (ac lf (ae mG) av)))) (ac en (ac et (ac eC (ac fv (ae mc) (ae mM)) (ac gv (ae mv) av)) (ac eK (ac fH (ae mm) av) (ac lb (ae mE) av))) (ac ey (ac eG (ac fz (ae mh) av) (ac la (ae mA) av)) (ac DO (ac gr (ae mr) av) (ac l1 (ae mI) av))))) (ac eb (ac em (ac es (ac eB (ac fu (ae mb) (ae mL)) (ac gu (ae mu) av)) (ac eJ (ac fF (ae ml) av) (ac iO (ae mD) av))) (ac ex (ac eF (ac fy (ae mg) (ae mP)) (ac g5 (ae my) av)) (ac e9 (ac f1 (ae mq) av) (ac lZ (ae mH) av)))) (ac eo (ac eu (ac eD (ac fw (ae md) (ae mN)) (ac g4 (ae mw) av)) (ac eL (ac fI (ae mn) av) (ac lc (ae mF) av))) (ac ez (ac eH (ac fA (ae mi) av) (ac iM (ae mB) av)) (ac fa (ac f2 (ae ms) av) (ac l6 (ae mJ) av))))))
def y1:Params→BT:=(ac ej (ac el (ac DP (ac ep (ac eA (ac fb (ac ma (ae oJ) av) (ae mK)) (ac gt (ae mt) (ae ot))) (ac eI (ac fC (ac mj (ae oR) av) (ae oe)) (ac iN (ae mC) (ae oB)))) (ac ew (ac eE (ac fx (ac me (ae oN) av) (ae mO)) (ac jo (ae mx) (ae ox))) (ac eM (ac fJ (ac mo (ae oW) av) (ae oj)) (ac lf (ae mG) (ae oF))))) (ac en (ac et (ac eC (ac fv (ac mc (ae oL) av) (ae mM)) (ac gv (ae mv) (ae ov))) (ac eK (ac fH (ac mm (ae oU) av) (ae oh)) (ac lb (ae mE) (ae oD)))) (ac ey (ac eG (ac fz (ac mh (ae oP) av) (ae oa)) (ac la (ae mA) (ae oz))) (ac DQ (ac gr (ac mr (ae oY) av) (ae om)) (ac l1 (ae mI) (ae oH)))))) (ac eb (ac em (ac es (ac eB (ac fu (ac mb (ae oK) av) (ae mL)) (ac gu (ae mu) (ae ou))) (ac eJ (ac fF (ac ml (ae oT) av) (ae og)) (ac iO (ae mD) (ae oC)))) (ac ex (ac eF (ac fy (ac mg (ae oO) av) (ae mP)) (ac g5 (ae my) (ae oy))) (ac e9 (ac f1 (ac mq (ae oX) av) (ae ol)) (ac lZ (ae mH) (ae oG))))) (ac eo (ac eu (ac eD (ac fw (ac md (ae oM) av) (ae mN)) (ac g4 (ae mw) (ae ow))) (ac eL (ac fI (ac mn (ae oV) av) (ae oi)) (ac lc (ae mF) (ae oE)))) (ac ez (ac eH (ac fA (ac mi (ae oQ) av) (ae oc)) (ac iM (ae mB) (ae oA))) (ac fa (ac f2 (ac ms (ae oZ) av) (ae oq)) (ac l6 (ae mJ) (ae oI)))))))
def y2:Params→BT:=(ac ej (ac el (ac DR (ac ep (ac eA (ac fb (ac ma (ae oJ) (ae sm)) (ac mK (ae rP) av)) (ac gt (ac mt (ae rz) av) (ac ot (ae r6) av))) (ac eI (ac fC (ac mj (ae oR) av) (ac oe (ae rX) av)) (ac iN (ac mC (ae rH) av) (ac oB (ae se) av)))) (ac ew (ac eE (ac fx (ac me (ae oN) av) (ac mO (ae rT) av)) (ac jo (ac mx (ae rD) av) (ac ox (ae sa) av))) (ac eM (ac fJ (ac mo (ae oW) av) (ac oj (ae r1) av)) (ac lf (ac mG (ae rL) av) (ac oF (ae si) av))))) (ac en (ac et (ac eC (ac fv (ac mc (ae oL) (ae sp)) (ac mM (ae rR) av)) (ac gv (ac mv (ae rB) av) (ac ov (ae r8) av))) (ac eK (ac fH (ac mm (ae oU) av) (ac oh (ae rZ) av)) (ac lb (ac mE (ae rJ) av) (ac oD (ae sg) av)))) (ac ey (ac eG (ac fz (ac mh (ae oP) av) (ac oa (ae rV) av)) (ac la (ac mA (ae rF) av) (ac oz (ae sc) av))) (ac DS (ac gr (ac mr (ae oY) av) (ac om (ae r4) av)) (ac l1 (ac mI (ae rN) av) (ac oH (ae sk) av)))))) (ac eb (ac em (ac es (ac eB (ac fu (ac mb (ae oK) (ae sn)) (ac mL (ae rQ) av)) (ac gu (ac mu (ae rA) av) (ac ou (ae r7) av))) (ac eJ (ac fF (ac ml (ae oT) av) (ac og (ae rY) av)) (ac iO (ac mD (ae rI) av) (ac oC (ae sf) av)))) (ac ex (ac eF (ac fy (ac mg (ae oO) av) (ac mP (ae rU) av)) (ac g5 (ac my (ae rE) av) (ac oy (ae sb) av))) (ac e9 (ac f1 (ac mq (ae oX) av) (ac ol (ae r3) av)) (ac lZ (ac mH (ae rM) av) (ac oG (ae sj) av))))) (ac eo (ac eu (ac eD (ac fw (ac md (ae oM) (ae sq)) (ac mN (ae rS) av)) (ac g4 (ac mw (ae rC) av) (ac ow (ae r9) av))) (ac eL (ac fI (ac mn (ae oV) av) (ac oi (ae r0) av)) (ac lc (ac mF (ae rK) av) (ac oE (ae sh) av)))) (ac ez (ac eH (ac fA (ac mi (ae oQ) av) (ac oc (ae rW) av)) (ac iM (ac mB (ae rG) av) (ac oA (ae sd) av))) (ac fa (ac f2 (ac ms (ae oZ) av) (ac oq (ae r5) av)) (ac l6 (ac mJ (ae rO) av) (ac oI (ae sl) av)))))))
def y3:Params→BT:=(ac ej (ac el (ac DT (ac ep (ac eA (ac fb (ac ma (ae oJ) (ae sm)) (ac mK (ae rP) (ae uz))) (ac gt (ac mt (ae rz) (ae ui)) (ac ot (ae r6) av))) (ac eI (ac fC (ac mj (ae oR) (ae ua)) (ac oe (ae rX) (ae uH))) (ac iN (ac mC (ae rH) (ae ur)) (ac oB (ae se) av)))) (ac ew (ac eE (ac fx (ac me (ae oN) (ae t6)) (ac mO (ae rT) (ae uD))) (ac jo (ac mx (ae rD) (ae um)) (ac ox (ae sa) av))) (ac eM (ac fJ (ac mo (ae oW) (ae ue)) (ac oj (ae r1) (ae uL))) (ac lf (ac mG (ae rL) (ae uv)) (ac oF (ae si) av))))) (ac en (ac et (ac eC (ac fv (ac mc (ae oL) (ae sp)) (ac mM (ae rR) (ae uB))) (ac gv (ac mv (ae rB) (ae uk)) (ac ov (ae r8) av))) (ac eK (ac fH (ac mm (ae oU) (ae uc)) (ac oh (ae rZ) (ae uJ))) (ac lb (ac mE (ae rJ) (ae ut)) (ac oD (ae sg) av)))) (ac ey (ac eG (ac fz (ac mh (ae oP) (ae t8)) (ac oa (ae rV) (ae uF))) (ac la (ac mA (ae rF) (ae up)) (ac oz (ae sc) av))) (ac DU (ac gr (ac mr (ae oY) (ae ug)) (ac om (ae r4) av)) (ac l1 (ac mI (ae rN) (ae ux)) (ac oH (ae sk) av)))))) (ac eb (ac em (ac es (ac eB (ac fu (ac mb (ae oK) (ae sn)) (ac mL (ae rQ) (ae uA))) (ac gu (ac mu (ae rA) (ae uj)) (ac ou (ae r7) av))) (ac eJ (ac fF (ac ml (ae oT) (ae ub)) (ac og (ae rY) (ae uI))) (ac iO (ac mD (ae rI) (ae us)) (ac oC (ae sf) av)))) (ac ex (ac eF (ac fy (ac mg (ae oO) (ae t7)) (ac mP (ae rU) (ae uE))) (ac g5 (ac my (ae rE) (ae uo)) (ac oy (ae sb) av))) (ac e9 (ac f1 (ac mq (ae oX) (ae uf)) (ac ol (ae r3) (ae uM))) (ac lZ (ac mH (ae rM) (ae uw)) (ac oG (ae sj) av))))) (ac eo (ac eu (ac eD (ac fw (ac md (ae oM) (ae sq)) (ac mN (ae rS) (ae uC))) (ac g4 (ac mw (ae rC) (ae ul)) (ac ow (ae r9) av))) (ac eL (ac fI (ac mn (ae oV) (ae ud)) (ac oi (ae r0) (ae uK))) (ac lc (ac mF (ae rK) (ae uu)) (ac oE (ae sh) av)))) (ac ez (ac eH (ac fA (ac mi (ae oQ) (ae t9)) (ac oc (ae rW) (ae uG))) (ac iM (ac mB (ae rG) (ae uq)) (ac oA (ae sd) av))) (ac fa (ac f2 (ac ms (ae oZ) (ae uh)) (ac oq (ae r5) av)) (ac l6 (ac mJ (ae rO) (ae uy)) (ac oI (ae sl) av)))))))
def jp:Params→BT:=(ac ej (ac el (ac mQ (ac ep (ac eA (ac fb (ac ma (ac oJ (ae yp) av) (ae sm)) (ac mK (ac rP (ae yW) av) (ae uz))) (ac gt (ac mt (ac rz (ae yG) av) (ae ui)) (ac ot (ae r6) (ae x9)))) (ac eI (ac fC (ac mj (ac oR (ae yy) av) (ae ua)) (ac oe (ae rX) (ae uH))) (ac iN (ac mC (ac rH (ae yO) av) (ae ur)) (ac oB (ae se) (ae yh))))) (ac ew (ac eE (ac fx (ac me (ac oN (ae yu) av) (ae t6)) (ac mO (ac rT (ae y0) av) (ae uD))) (ac jo (ac mx (ac rD (ae yK) av) (ae um)) (ac ox (ae sa) (ae yd)))) (ac eM (ac fJ (ac mo (ac oW (ae yC) av) (ae ue)) (ac oj (ae r1) (ae uL))) (ac lf (ac mG (ac rL (ae yS) av) (ae uv)) (ac oF (ae si) (ae yl)))))) (ac en (ac et (ac eC (ac fv (ac mc (ac oL (ae yr) av) (ae sp)) (ac mM (ac rR (ae yY) av) (ae uB))) (ac gv (ac mv (ac rB (ae yI) av) (ae uk)) (ac ov (ae r8) (ae yb)))) (ac eK (ac fH (ac mm (ac oU (ae yA) av) (ae uc)) (ac oh (ae rZ) (ae uJ))) (ac lb (ac mE (ac rJ (ae yQ) av) (ae ut)) (ac oD (ae sg) (ae yj))))) (ac ey (ac eG (ac fz (ac mh (ac oP (ae yw) av) (ae t8)) (ac oa (ae rV) (ae uF))) (ac la (ac mA (ac rF (ae yM) av) (ae up)) (ac oz (ae sc) (ae yf)))) (ac x5 (ac gr (ac mr (ac oY (ae yE) av) (ae ug)) (ac om (ae r4) (ae x7))) (ac l1 (ac mI (ac rN (ae yU) av) (ae ux)) (ac oH (ae sk) (ae yn))))))) (ac eb (ac em (ac es (ac eB (ac fu (ac mb (ac oK (ae yq) av) (ae sn)) (ac mL (ac rQ (ae yX) av) (ae uA))) (ac gu (ac mu (ac rA (ae yH) av) (ae uj)) (ac ou (ae r7) (ae ya)))) (ac eJ (ac fF (ac ml (ac oT (ae yz) av) (ae ub)) (ac og (ae rY) (ae uI))) (ac iO (ac mD (ac rI (ae yP) av) (ae us)) (ac oC (ae sf) (ae yi))))) (ac ex (ac eF (ac fy (ac mg (ac oO (ae yv) av) (ae t7)) (ac mP (ae rU) (ae uE))) (ac g5 (ac my (ac rE (ae yL) av) (ae uo)) (ac oy (ae sb) (ae ye)))) (ac e9 (ac f1 (ac mq (ac oX (ae yD) av) (ae uf)) (ac ol (ae r3) (ae uM))) (ac lZ (ac mH (ac rM (ae yT) av) (ae uw)) (ac oG (ae sj) (ae ym)))))) (ac eo (ac eu (ac eD (ac fw (ac md (ac oM (ae yt) av) (ae sq)) (ac mN (ac rS (ae yZ) av) (ae uC))) (ac g4 (ac mw (ac rC (ae yJ) av) (ae ul)) (ac ow (ae r9) (ae yc)))) (ac eL (ac fI (ac mn (ac oV (ae yB) av) (ae ud)) (ac oi (ae r0) (ae uK))) (ac lc (ac mF (ac rK (ae yR) av) (ae uu)) (ac oE (ae sh) (ae yk))))) (ac ez (ac eH (ac fA (ac mi (ac oQ (ae yx) av) (ae t9)) (ac oc (ae rW) (ae uG))) (ac iM (ac mB (ac rG (ae yN) av) (ae uq)) (ac oA (ae sd) (ae yg)))) (ac fa (ac f2 (ac ms (ac oZ (ae yF) av) (ae uh)) (ac oq (ae r5) (ae x8))) (ac l6 (ac mJ (ac rO (ae yV) av) (ae uy)) (ac oI (ae sl) (ae yo))))))))
def iQ:Env:={scope:=pw.main.scope,locals:=mainNs,globals:=mainNs,cells:=[],code:=.ref 30,frame:=some 31}
def ct:Code:=.body (behindTheImports pw) iQ
def hT (t:BT) (n a:Nat) (b:OsState):SharedT:=⟨t,n,{},#[],⟨0,0,0,0⟩,a,b⟩
def hP (i j:Nat):List Stmt:=((behindTheImports pw).drop i).take j
def DY (P:Params):Obj:=eb P
noncomputable def aK (a:Params→Obj) (l r:Params→KT):Params→KT:=fun P=>.node (some (a P)) (l P) (r P)
noncomputable def aN (a:Params→Obj):Params→KT:=fun P=>.node (some (a P)) .nil .nil
noncomputable def cf:Params→KT:=fun _=>.nil
def o7:Params→KT:=(aK ej (aK el (aK mQ (aK ep (aK eA (aK fb (aK ma (aK oJ (aN yp) cf) (aN sm)) (aK mK (aK rP (aN yW) cf) (aN uz))) (aK gt (aK mt (aK rz (aN yG) cf) (aN ui)) (aK ot (aN r6) (aN x9)))) (aK eI (aK fC (aK mj (aK oR (aN yy) cf) (aN ua)) (aK oe (aN rX) (aN uH))) (aK iN (aK mC (aK rH (aN yO) cf) (aN ur)) (aK oB (aN se) (aN yh))))) (aK ew (aK eE (aK fx (aK me (aK oN (aN yu) cf) (aN t6)) (aK mO (aK rT (aN y0) cf) (aN uD))) (aK jo (aK mx (aK rD (aN yK) cf) (aN um)) (aK ox (aN sa) (aN yd)))) (aK eM (aK fJ (aK mo (aK oW (aN yC) cf) (aN ue)) (aK oj (aN r1) (aN uL))) (aK lf (aK mG (aK rL (aN yS) cf) (aN uv)) (aK oF (aN si) (aN yl)))))) (aK en (aK et (aK eC (aK fv (aK mc (aK oL (aN yr) cf) (aN sp)) (aK mM (aK rR (aN yY) cf) (aN uB))) (aK gv (aK mv (aK rB (aN yI) cf) (aN uk)) (aK ov (aN r8) (aN yb)))) (aK eK (aK fH (aK mm (aK oU (aN yA) cf) (aN uc)) (aK oh (aN rZ) (aN uJ))) (aK lb (aK mE (aK rJ (aN yQ) cf) (aN ut)) (aK oD (aN sg) (aN yj))))) (aK ey (aK eG (aK fz (aK mh (aK oP (aN yw) cf) (aN t8)) (aK oa (aN rV) (aN uF))) (aK la (aK mA (aK rF (aN yM) cf) (aN up)) (aK oz (aN sc) (aN yf)))) (aK x5 (aK gr (aK mr (aK oY (aN yE) cf) (aN ug)) (aK om (aN r4) (aN x7))) (aK l1 (aK mI (aK rN (aN yU) cf) (aN ux)) (aK oH (aN sk) (aN yn))))))) (aK eb (aK em (aK es (aK eB (aK fu (aK mb (aK oK (aN yq) cf) (aN sn)) (aK mL (aK rQ (aN yX) cf) (aN uA))) (aK gu (aK mu (aK rA (aN yH) cf) (aN uj)) (aK ou (aN r7) (aN ya)))) (aK eJ (aK fF (aK ml (aK oT (aN yz) cf) (aN ub)) (aK og (aN rY) (aN uI))) (aK iO (aK mD (aK rI (aN yP) cf) (aN us)) (aK oC (aN sf) (aN yi))))) (aK ex (aK eF (aK fy (aK mg (aK oO (aN yv) cf) (aN t7)) (aK mP (aN rU) (aN uE))) (aK g5 (aK my (aK rE (aN yL) cf) (aN uo)) (aK oy (aN sb) (aN ye)))) (aK e9 (aK f1 (aK mq (aK oX (aN yD) cf) (aN uf)) (aK ol (aN r3) (aN uM))) (aK lZ (aK mH (aK rM (aN yT) cf) (aN uw)) (aK oG (aN sj) (aN ym)))))) (aK eo (aK eu (aK eD (aK fw (aK md (aK oM (aN yt) cf) (aN sq)) (aK mN (aK rS (aN yZ) cf) (aN uC))) (aK g4 (aK mw (aK rC (aN yJ) cf) (aN ul)) (aK ow (aN r9) (aN yc)))) (aK eL (aK fI (aK mn (aK oV (aN yB) cf) (aN ud)) (aK oi (aN r0) (aN uK))) (aK lc (aK mF (aK rK (aN yR) cf) (aN uu)) (aK oE (aN sh) (aN yk))))) (aK ez (aK eH (aK fA (aK mi (aK oQ (aN yx) cf) (aN t9)) (aK oc (aN rW) (aN uG))) (aK iM (aK mB (aK rG (aN yN) cf) (aN uq)) (aK oA (aN sd) (aN yg)))) (aK fa (aK f2 (aK ms (aK oZ (aN yF) cf) (aN uh)) (aK oq (aN r5) (aN x8))) (aK l6 (aK mJ (aK rO (aN yV) cf) (aN uy)) (aK oI (aN sl) (aN yo))))))))
def y4:List String:=["type.__call__","issubclass","issubclass.nested","isinstance","isinstance.nested","object.__getattribute__",
 "getset_descriptor.__get__","object.__class__","tuple.__iter__","tuple_iterator.__next__","str.startswith","len",
 "str.__len__","str.endswith","str.__add__","str.rfind","int.__add__","str.__getitem__","int.__rmul__",
 "str.__mul__","str.__ne__","str.rstrip","str.split","list.__iter__","list_iterator.__next__","str.__eq__",
 "list.append","str.join","map.__new__","object.__init__","tuple.__new__","proto.collect","list.__iadd__",
 "map.__iter__","list.extend.loop","map.__next__","tuple.__len__","tuple.__getitem__","tuple_iterator.__iter__",
 "set.add","int.__hash__","set.__iter__","set_iterator.__next__","list_iterator.__iter__","min","min.loop",
 "list.__lt__","list.__eq__.loop","max","max.loop","list.__gt__","enumerate.__new__","enumerate.__iter__",
 "enumerate.__next__","list.__getitem__","int.__gt__","int.__sub__","int.__rshift__","str.__lt__",
 "list.__setitem__","list.__len__","list.pop","int.__mul__","int.__lt__","str.splitlines","int.__eq__",
 "str.__contains__","int.__new__","chr","int.__neg__","str.replace","re.Pattern.sub","re.Pattern.sub.loop",
 "re.Match.group","str.__iter__","str_iterator.__iter__","str_iterator.__next__","ord","int.__mod__",
 "range.__new__","range.__iter__","range_iterator.__next__","int.__floordiv__","int.__pow__",
 "range_iterator.__iter__","list.__add__","str_ascii_iterator.__iter__","str_ascii_iterator.__next__",
 "str.__hash__","dict.__getitem__","list.__ne__","list.__eq__","zip.__new__","zip.__iter__","zip.__next__",
 "proto.let_go","tuple.__ne__","sorted","list.sort","str.__gt__"]
def dI:Code→Sem Fin:=PySem.W.Fast.tw11892475500146522536 PySem.W.Fast.tw14364793385576792824
theorem ss:dI=denote table:=by
 unfold dI
 rw [←PySem.W.Fast.te11892475500146522536,←PySem.W.Fast.te14364793385576792824,table_eq_tree]
def B0 (w:Yc):bf:={prog:=pw,w,pa:=(w.withFollow "special-get-raises" false).params,pb:=(w.withFollow "special-get-raises" true).params,den:=dI,kt:=o7 w.params,lo:=292,oS:=DY w.params,ef:=PySem.W.Fast.tw15066281185411960212,cr:=PySem.W.Fast.tw10648789137845014744,bd:=@Bind.bind Sem PySem.W.Fast.tw12456147031677567982.toBind Unit Fin,lg:=PySem.W.Fast.tw1578499551869305889 (.Tuple [] 0 ⟨0,0,0,0⟩),words:=["comparison"],ids:=y4}
def y5:Expr:=.Tuple [] 0 ⟨0,0,0,0⟩
theorem DZ:PySem.W.Fast.tw1578499551869305889 y5=letOwnedTupleGo y5:=by rw [←PySem.W.Fast.te1578499551869305889]
theorem D0 (w:Yc):(B0 w).lg=letOwnedTupleGo (.Tuple [] 0 ⟨0,0,0,0⟩):=DZ
def W (b c:Bool) (w:Yc):Yc:=(w.withFollow "special-get-raises" b).withFollow "comprehension-iter-twice" c
theorem D1 (w:Yc):W (w.params.followText "special-get-raises") (w.params.followText "comprehension-iter-twice") w=w:=by
 unfold W
 rw [World.withFollow_self,World.withFollow_self]
def su (a:Nat):KT→Nat→Nat→Bool
 | .nil,_,_=>true
 | .node v l r,s,b=>(match v with | some _=>Nat.blt b a | none=>true)&&(su a l (2*s) (s+b)&&su a r (2*s) (2*s+b))
theorem uP {lim:Nat}:∀{t:KT} {s b:Nat},su lim t s b=true→∀{j:Nat} {o:Obj},t.get j=some o→s*j+b<lim
 | .nil,_,_,_,_,_,e=>by cases e
 | .node v l r,s,b,H,j,o,e=>by
  rw [KT.get_node] at e
  simp only [su,Bool.and_eq_true] at H
  by_cases c:j=0
  ·subst c
   rw [if_pos rfl] at e
   subst e
   rw [Nat.mul_zero,Nat.zero_add]
   exact Nat.le_of_ble_eq_true H.1
  ·rw [if_neg c] at e
   by_cases p:j % 2=1
   ·rw [if_pos p] at e
    have z:=uP H.2.1 e
    have:2*s*(j / 2)+(s+b)=s*j+b:=by
     have a:j=2*(j / 2)+1:=by lia
     generalize j / 2=q at a
     subst a
     rw [Nat.mul_add,Nat.mul_one,←Nat.mul_assoc,Nat.mul_comm s 2];lia
    lia
   ·rw [if_neg p] at e
    have z:=uP H.2.2 e
    have:2*s*(j / 2-1)+(2*s+b)=s*j+b:=by
     have a:j=2*(j / 2-1)+2:=by lia
     generalize j / 2-1=q at a
     subst a
     rw [Nat.mul_add,←Nat.mul_assoc,Nat.mul_comm s 2];lia
    lia
def uQ (id:String):Bool:=id=="type.__call__" || plainId id
theorem D2 {id:String} (h:uQ id=true):nM id:=by
 unfold uQ at h
 rcases Bool.or_eq_true_iff.mp h with e | e
 ·rw [beq_iff_eq.mp e];exact Dj
 ·exact wW e
theorem D3:y4.all uQ=true:=by decide +kernel
theorem D4 (w:Yc):w.params=(w.withFollow "special-get-raises" false).params∨w.params=(w.withFollow "special-get-raises" true).params:=by
 have e:=World.withFollow_self w "special-get-raises"
 cases h:w.params.followText "special-get-raises" with
 | false=>rw [h] at e;exact .inl (congrArg World.params e.symm)
 | true=>rw [h] at e;exact .inr (congrArg World.params e.symm)
theorem bG (w:Yc):(B0 w).Ok:=by
 refine ⟨ss,D4 w,by show PySem.W.Fast.tw15066281185411960212=_;rw [←PySem.W.Fast.te15066281185411960212],by show PySem.W.Fast.tw10648789137845014744=_;rw [←PySem.W.Fast.te10648789137845014744],by show @Bind.bind Sem PySem.W.Fast.tw12456147031677567982.toBind Unit Fin=_;rw [←PySem.W.Fast.te12456147031677567982];rfl,D0 w,fun b o e => ?_,rfl,fun h e => ?_,fun id a=>D2 (List.all_eq_true.mp D3 id a)⟩
 ·have z:=uP (lim:=292) (t:=o7 w.params) (s:=1) (b:=0) (by kernel_rfl) e
  rw [Nat.one_mul,Nat.add_zero] at z
  exact z
 ·refine Heap.NoLimit.of_ok ?_
  unfold Heap.noLimitOk Heap.isNs Heap.nsMap
  rw [e]
  kernel_rfl
def li:Nat→(Nat→Oc)→List Oc
 | 0,_=>[]
 | k+1,f=>f 0::li k fun i=>f (i+1)
theorem sw:∀(a:List Oc),∃f,a=li a.length f
 | []=>⟨fun _=>(0,0,id),rfl⟩
 | o::l=>by
  obtain ⟨f,e⟩:=sw l
  exact ⟨fun i=>match i with | 0=>o | j+1=>f j,by show o::l=o::li l.length f;rw [←e]⟩
theorem aq {B:bf} {m:Nat}:∀o∈([]:List aH),o.Sure B m:=fun _ h=>nomatch h
theorem aa {B:bf} {m:Nat} {o:aH} {l:List aH} (h:o.Sure B m) (r:∀o∈l,o.Sure B m):∀b∈o::l,b.Sure B m:=by
 intro b a
 rcases List.mem_cons.mp a with rfl | a
 ·exact h
 ·exact r b a
def y7 (x:Option c1) (c:Yh) (b:Ya) (a:e4):Prop:=
 x.map (kX c)=some (nP a.1,((b.map (·.1)).zip a.2.1++a.2.2).map some,(kY x).map Ob.r)
def gw (b c:Bool) (w:Yc) (e:List aH) (a:Nat) (d:Yh) (L:Nat) (f:Nat→Oc) (h:Code) (g:Kn) (n i:Nat):Option c1:=
 d7 ((B0 (W b c w)).sv e) a d (li L f) [] (.code h) (dI h) g n i []
theorem aA {b c:Bool} {w:Yc} {m:Nat} {s:Code} {g:Ya} {p:Ye→e4} {orcs:List aH} (z:∀o∈orcs,o.Sure (B0 (W b c w)) m)
  (h L:Nat) (i k:Yh) (t:Nat→Nat→(Nat→Oc)→Nat→Nat) (u:k.Nodup:=by decide) (y:∀a,(p a).2.1.length=g.length:=by intro _;rfl)
  (E:∀n j f,y7 (gw b c w orcs h i L f s g n j) k g (p (t n j f)):=by intro n j f;delta y7;kernel_rfl) (hc:∀id a,s≠.builtin id a:=by intro id a e;cases e):aL (B0 (W b c w)) (m+1) s g p:=by
 have q:∀d:List Oc,∃f,d=li d.length f:=sw
 refine Dv (bG _) z hc h L i k (fun n j d=>t n j (Classical.choose (q d))) u y fun n j d x => ?_
 have e:=Classical.choose_spec (q d)
 have:=E n j (Classical.choose (q d))
 unfold gw at this
 rw [←x,←e] at this
 exact this
def aB:Yh→Nat→Nat
 | [],_=>0
 | x::l,i=>match i with
  | 0=>x
  | j+1=>aB l j
def aD:Yg:=["=","a","=2F","=2E","=3D","=20","=E9","a=2F","=2F=2E","=2E=3D","=3D=20","=20=E9","=E9a"]
theorem mR {B:bf} (O:B.Ok) {h c:Heap} {l:List Addr} (d:B.In h) (le:h.objs.size≤c.objs.size) (lo:∀a∈l,B.lo≤a) (g:∀b f,h.get? b=some f→b∉l→c.get? b=some f):B.In c:=
 ⟨fun b o e=>g b o (d.1 b o e) fun m=>absurd (O.kt b o e) (Nat.not_lt.mpr (lo b m)),Nat.le_trans d.2 le⟩
theorem aL.trans {B:bf} (O:B.Ok) {m:Nat} {c N:Code} {f:Ya} {i k:Ye→e4} (R:aL B m c f i) (Q:∀j,(i j).1 = .error N) (U:∀j,(i j).2.1.length=f.length)
  (D:∀j,aL B m N ((f.map (·.1)).zip (i j).2.1) k):aL B m c f k:=by
 intro A G h P I d H L nd J C V
 refine R A G h P I d H L nd J C fun S y j le K n _ _ => ?_
 rw [Q j]
 have x:((f.map (·.1)).zip (i j).2.1).map (·.1)=f.map (·.1):=List.map_fst_zip (by rw [U,List.length_map];exact Nat.le_refl _)
 have lo:∀a∈f.map (·.1),B.lo≤a:=fun a T=>by
  obtain ⟨p,n,rfl⟩:=List.mem_map.mp T
  exact (J p n).2
 refine D j A G S y I d H L (by rw [x];exact nd) (fun p g=>⟨n p g,lo _ (by rw [←x];exact List.mem_map_of_mem g)⟩) (mR O C le lo K) fun w o t z s g q u => ?_
 rw [x] at s g
 exact V w o t (Nat.le_trans le z) (fun b E e F=>s b E (K b E e F) F) g (fun p n=>⟨(q p n).1,Nat.le_trans le (q p n).2⟩) u
theorem aL.re {B:bf} {m:Nat} {c:Code} {need:Ya} {out a:Ye→e4} (R:aL B m c need out) (h:∀g,∃b,a b=out g):aL B m c need a:=by
 intro A p z k s d q x nd t j w
 refine R A p z k s d q x nd t j fun o i g le u n y f => ?_
 obtain ⟨b,e⟩:=h g
 have:=w o i b le u (by rw [e];exact n) (by rw [e];exact y) (by rw [e];exact f)
 rw [e] at this
 exact this
noncomputable def am (x:Yd) (i:Nat):Obj:={cls:=.type "list_iterator",data:=.fields #[x,.int (i:Int) 0]}
def ke (t:Nat):Obj:={cls:=.type "StopIteration",data:=.fields (#[.ref t,.none,.none,.none,.bool false,.none]++ownMembersOf (.type "StopIteration") [])}
section
variable {B:bf} {m:Nat}
def cD (b c:Nat) (a:Yb) (i:Nat) (x:Yd):aH:=
 {code:=fun p=>.call (.builtin "list_iterator.__next__") ⟨[.ref (p 1 0)],[]⟩,pl:=[b,c],objs:=fun p=>[(p 1 0,am (.ref (p 2 0)) i),(p 2 0,ab a (p 2 1))],strm:=true,
  out:=fun p _=>(.ret x,[am (.ref (p 2 0)) (i+1),ab a (p 2 1)],[])}
theorem cT {t s:Nat} {c:Yb} {i:Nat} {x:Yd} (u:t≠s) (e:c[i]? = some x):(cD t s c i x).Sure B m:=by
 refine ⟨by simp [cD,u],fun p A _ h j G d D g l k Q E nd o _ H=>d8 ?_⟩
 have a:h.get? (p 1 0)=some (am (.ref (p 2 0)) i):=(o _ (.head _)).1
 have n:h.get? (p 2 0)=some (ab c (p 2 1)):=(o _ (.tail _ (.head _))).1
 have w:p 1 0≠p 2 0:=by
  have:[p 1 0,p 2 0].Nodup:=nd
  simpa using this
 refine wpAny_call_entry slot_listiter_next (show Shared.TypeIs ⟨h,G,d,j,D⟩ (.ref (p 1 0)) "list_iterator" from ⟨_,a,rfl⟩) entry_listiter_next ?_ (args_listiter_next _)
 show wpAny _ _ (field (.ref (p 1 0)) 0 >>= _) _ _ _
 refine wpAny_bind (wpAny_field a rfl (x:=.ref (p 2 0)) rfl ?_)
 show wpAny _ _ (if (Value.ref (p 2 0)==Value.none)=true then _ else _) _ _ _
 rw [if_neg (show ¬((Value.ref (p 2 0)==Value.none)=true) from Bool.false_ne_true)]
 show wpAny _ _ (field (.ref (p 1 0)) 1 >>= _) _ _ _
 refine wpAny_bind (wpAny_field a rfl (x:=.int i 0) rfl ?_)
 show wpAny _ _ (seqItems? (.ref (p 2 0)) >>= _) _ _ _
 refine wpAny_bind (wpAny_seqItems n rfl ?_)
 have F:c.toArray[((i:Nat):Int).toNat]? = some x:=by rw [Int.toNat_natCast,List.getElem?_toArray];exact e
 simp only [F]
 refine wpAny_bind (wpAny_setField a rfl (by simp) (wpAny_pure ⟨x,rfl,?_⟩))
 have f:Heap.SameBut (p 1 0) h (h.update (p 1 0) (Obj.mapFields (·.setIfInBounds 1 (rawInt (i+1))))):=Heap.SameBut.update ..
 refine H _ j (fun _=>0) (fun e=>by cases e) (by rw [f.1];exact Nat.le_refl _) (fun b J q C => ?_) (fun y I => ?_) (fun _ hx=>(nomatch hx)) List.nodup_nil
 ·have:b≠p 1 0:=fun z=>C (by rw [z];exact .head _)
  exact (f.2 _ this).trans q
 ·have:y=(p 1 0,am (.ref (p 2 0)) (i+1))∨y=(p 2 0,ab c (p 2 1)):=by simpa [cD] using I
  rcases this with rfl | rfl
  ·refine (Heap.get?_update_self _ a rfl).trans ?_
   simp [am,Obj.mapFields,rawInt]
  ·exact (f.2 _ (Ne.symm w)).trans n
def fK (c d:Nat) (b:Yb) (i:Nat):aH:=
 {code:=fun p=>.call (.builtin "list_iterator.__next__") ⟨[.ref (p 1 0)],[]⟩,pl:=[c,d],objs:=fun p=>[(p 1 0,am (.ref (p 2 0)) i),(p 2 0,ab b (p 2 1))],strm:=true,bad:=true,
  out:=fun p a=>(.ret (.ref (a 0)),[am .none i,ab b (p 2 1)],[(a 0,ke (a 1))])}
theorem iR {K J:Nat} {j:Yb} {i:Nat} (L:K≠J) (e:j.length≤i):(fK K J j i).Sure B m:=by
 refine ⟨by simp [fK,L],fun p A P h C T d R g l k Q E nd H _ U=>d8 ?_⟩
 have f:h.get? (p 1 0)=some (am (.ref (p 2 0)) i):=(H _ (.head _)).1
 have F:h.get? (p 2 0)=some (ab j (p 2 1)):=(H _ (.tail _ (.head _))).1
 have N:p 1 0≠p 2 0:=by
  have:[p 1 0,p 2 0].Nodup:=nd
  simpa using this
 refine wpAny_call_entry slot_listiter_next (show Shared.TypeIs ⟨h,T,d,C,R⟩ (.ref (p 1 0)) "list_iterator" from ⟨_,f,rfl⟩) entry_listiter_next ?_ (args_listiter_next _)
 show wpAny _ _ (field (.ref (p 1 0)) 0 >>= _) _ _ _
 refine wpAny_bind (wpAny_field f rfl (x:=.ref (p 2 0)) rfl ?_)
 show wpAny _ _ (if (Value.ref (p 2 0)==Value.none)=true then _ else _) _ _ _
 rw [if_neg (show ¬((Value.ref (p 2 0)==Value.none)=true) from Bool.false_ne_true)]
 show wpAny _ _ (field (.ref (p 1 0)) 1 >>= _) _ _ _
 refine wpAny_bind (wpAny_field f rfl (x:=.int i 0) rfl ?_)
 show wpAny _ _ (seqItems? (.ref (p 2 0)) >>= _) _ _ _
 refine wpAny_bind (wpAny_seqItems F rfl ?_)
 have S:j.toArray[((i:Nat):Int).toNat]? = none:=by rw [Int.toNat_natCast,List.getElem?_toArray];exact List.getElem?_eq_none e
 simp only [S]
 refine wpAny_bind (wpAny_rule (wpAny_bind (wpAny_setField f rfl (by simp) ?_)))
 show wpAny _ _ (newExc (.type "StopIteration") [] >>= _) _ _ _
 refine wpAny_bind ?_
 simp only [newExc,newTuple]
 refine wpAny_bind (wpAny_newObj_type ?_ (by size_fits))
 refine wpAny_bind (m:=firstArgMember _ _) (wpAny_of_eq (a:=Value.none) (by first | rfl | (simp only [firstArgMember];rfl)) ?_)
 refine wpAny_newObj_type ?_ (by size_fits)
 simp only [raiseNew]
 refine wpAny_bind (wpAny_handled ?_)
 rw [show A.in1.handled=none from P.1]
 refine wpAny_bind (wpAny_pure (wpAny_throw ?_))
 have s:Heap.SameBut (p 1 0) h (h.update (p 1 0) (Obj.mapFields (·.setIfInBounds 0 .none))):=Heap.SameBut.update ..
 have D:(h.update (p 1 0) (Obj.mapFields (·.setIfInBounds 0 .none))).get? (p 1 0)=some (am .none i):=by
  refine (Heap.get?_update_self _ f rfl).trans ?_
  simp [am,Obj.mapFields]
 have G:∀(t:Heap) (o I:Obj) b n,t.get? b=some n→((t.push o).push I).get? b=some n:=fun t o I b n q=>Heap.get?_push_of_some _ (Heap.get?_push_of_some _ q)
 have u:(h.update (p 1 0) (Obj.mapFields (·.setIfInBounds 0 .none))).objs.size=h.objs.size:=s.1
 generalize (h.update (p 1 0) (Obj.mapFields (·.setIfInBounds 0 .none)))=c at s D u ⊢
 have q:=Heap.get?_push_size (c.push {cls:=.type "tuple",data:=.seq ([]:Yb).toArray}) (o:=ke c.objs.size) rfl
 refine U _ C (fun i=>match i with | 0=>(c.push {cls:=.type "tuple",data:=.seq ([]:Yb).toArray}).objs.size | _=>c.objs.size) (fun e=>by cases e) ?_ (fun b n q O=>G _ _ _ _ _ ?_) (fun y w=>G _ _ _ _ _ ?_) (fun y w => ?_) (by simp [fK])
 ·rw [Heap.size_push,Heap.size_push,u];exact Nat.le_add_right _ 2
 ·have:b≠p 1 0:=fun z=>O (by rw [z];exact .head _)
  exact (s.2 _ this).trans q
 ·have:y=(p 1 0,am .none i)∨y=(p 2 0,ab j (p 2 1)):=by simpa [fK] using w
  rcases this with rfl | rfl
  ·exact D
  ·exact (s.2 _ (Ne.symm N)).trans F
 ·have:y=((c.push {cls:=.type "tuple",data:=.seq ([]:Yb).toArray}).objs.size,ke c.objs.size):=by simpa [fK] using w
  subst this
  exact ⟨q,by rw [Heap.size_push,u];exact Nat.le_succ _⟩
end
section
variable {B:bf} {m:Nat}
def iS (id:String) (j:Nat) (d:Yb) (a:af→Yb) (v:af→Ye→Yd) (b:af→Yb):aH:=
 {code:=fun p=>.call (.builtin id) ⟨.ref (p 1 0)::a p,[]⟩,pl:=[j],objs:=fun p=>[(p 1 0,ab d (p 1 1))],strm:=true,out:=fun p c=>(.ret (v p c),[ab (b p) (c 1)],[])}
theorem lj {id:String} {j:Nat} {q:Yb} {a:af→Yb} {v:af→Ye→Yd} {c:af→Yb}
  (H:∀(p:af) (A:Around) (s:Shared) (Q:Yd→Shared→Prop) (E:Yd→Shared→Prop),s.heap.get? (p 1 0)=some (ab q (p 1 1))→
   (∀f i k,Heap.SameBut (p 1 0) s.heap f→f.get? (p 1 0)=some (ab (c p) (i 1))→Q (v p i) {s with heap:=f,toks:=k})→wpAny B.M A (call (.builtin id) (.ref (p 1 0)::a p)) Q E s):(iS id j q a v c).Sure B m:=by
 refine ⟨by simp [iS],fun p A _ h D I d G g l k Q E _ w _ y=>d8 (H p A _ _ _ (w _ (.head _)).1 fun f i C n t => ?_)⟩
 refine y f C i (fun e=>by cases e) (by rw [n.1];exact Nat.le_refl _) (fun b F e u => ?_) (fun x hx => ?_) (fun _ hx=>(nomatch hx)) List.nodup_nil
 ·have:b≠p 1 0:=fun z=>u (by rw [z];exact .head _)
  exact (n.2 b this).trans e
 ·have:x=(p 1 0,ab (c p) (i 1)):=by simpa [iS] using hx
  subst this
  exact t
theorem D5 {c:Program} {w:Yc} {A:Around} {E:Yd→Shared→Prop} {s:Shared} {l:Addr} {a:Array Yd} {k:Int} {t:Tok} {x:Yd} {Q:Yd→Shared→Prop} (e:s.heap.IsList l a)
  (f:0≤k) (b:k<2 ^ 63) (hx:a[k.toNat]? = some x) (h:Q x s):wpAny (model c w) A (call (.builtin "list.__getitem__") [.ref l,.int k t]) Q E s:=by
 obtain ⟨o,i,n,p,g⟩:=id e
 refine wpAny_call_entry slot_list_getitem e.typeIs entry_list_getitem ?_ (args_list_getitem _ _)
 show wpAny _ _ (Builtin.List.listSubscript? (.int k t) >>= _) _ _ s
 refine wpAny_bind (wpAny_listSubscript_int (fitsIndex_of f b) ?_)
 clear b
 obtain ⟨j,rfl⟩:=Int.eq_ofNat_of_zero_le f
 have d:a[j]? = some x:=hx
 show wpAny _ _ ((seqItemAt l j >>= fun r=>pure (r.map (j,·))) >>= _) _ _ s
 refine wpAny_bind (wpAny_bind (wpAny_seqItemAt i g (wpAny_pure ?_)))
 rw [d]
 exact wpAny_pure ⟨x,rfl,h⟩
theorem D6 {c:Program} {w:Yc} {A:Around} {E:Yd→Shared→Prop} {s:Shared} {l:Addr} {o:Obj} {a:Array Yd} {n:Nat} {k:Int} {t:Tok} {v:Yd} {Q:Yd→Shared→Prop} (e:s.heap.get? l=some o) (i:o.cls = .type "list") (d:o.data = .seq a n)
  (h:0≤k) (b:k<2 ^ 63) (x:k<a.size) (q:Q .none {s with heap:=s.heap.update l (Obj.mapSeq (·.setIfInBounds k.toNat v))}) :
  wpAny (model c w) A (call (.builtin "list.__setitem__") [.ref l,.int k t,v]) Q E s:=by
 have u:s.heap.IsList l a:=⟨o,e,i,n,d⟩
 refine wpAny_call_entry slot_list_setitem u.typeIs entry_list_setitem ?_ (args_list_setitem _ _ _)
 show wpAny _ _ (Builtin.List.listSubscript? (.int k t) >>= _) _ _ s
 refine wpAny_bind (wpAny_listSubscript_int (fitsIndex_of h b) ?_)
 clear b
 obtain ⟨j,rfl⟩:=Int.eq_ofNat_of_zero_le h
 have p:j<a.size:=by lia
 have f:a[j]? = some a[j]:=Array.getElem?_eq_getElem p
 show wpAny _ _ ((seqItemAt l j >>= fun r=>pure (r.map (j,·))) >>= _) _ _ s
 refine wpAny_bind (wpAny_bind (wpAny_seqItemAt e d (wpAny_pure ?_)))
 rw [f]
 show wpAny _ _ (setSeqItemAt l j v >>= _) _ _ s
 refine wpAny_bind (wpAny_setSeqItemAt e d ?_)
 exact wpAny_pure ⟨.none,rfl,q⟩
def cN (j:Nat) (a:Yb) (i:Int) (x:Yd):aH:=iS "list.__getitem__" j a (fun p=>[.int i (p 0 1)]) (fun _ _=>x) fun _=>a
theorem cU {j:Nat} {a:Yb} {i:Int} {x:Yd} (f:0≤i) (c:i<2 ^ 63) (e:a[i.toNat]? = some x):(cN j a i x).Sure B m:=by
 refine lj fun p A s Q E b h => ?_
 have d:s.heap.IsList (p 1 0) a.toArray:=⟨_,b,rfl,p 1 1,rfl⟩
 exact D5 d f c (by rw [List.getElem?_toArray];exact e) (h s.heap (fun _=>p 1 1) s.toks ⟨rfl,fun _ _=>rfl⟩ b)
def fd (j:Nat) (a:Yb) (i:Int) (x:Str):aH:=iS "list.__setitem__" j a (fun p=>[.int i (p 0 1),.str x (p 0 2)]) (fun _ _=>.none) fun p=>a.set i.toNat (.str x (p 0 2))
theorem gz {j:Nat} {a:Yb} {i:Int} {x:Str} (f:0≤i) (d:i<2 ^ 63) (c:i<a.length):(fd j a i x).Sure B m:=by
 refine lj fun p A s Q E b h => ?_
 refine D6 b rfl rfl f d (by rw [List.size_toArray];exact c) ?_
 have e:Heap.SameBut (p 1 0) s.heap (s.heap.update (p 1 0) (Obj.mapSeq (·.setIfInBounds i.toNat (.str x (p 0 2))))):=Heap.SameBut.update ..
 refine h _ (fun _=>p 1 1) s.toks e ?_
 refine (Heap.get?_update_self _ b rfl).trans ?_
 show some (Obj.mapSeq _ (ab a (p 1 1)))=some (ab (a.set i.toNat (.str x (p 0 2))) (p 1 1))
 unfold Obj.mapSeq ab
 simp
def f3 (j:Nat) (a:Yb) (x:Str):aH:=iS "list.append" j a (fun p=>[.str x (p 0 1)]) (fun _ _=>.none) fun p=>a++[.str x (p 0 1)]
theorem gA {j:Nat} {a:Yb} {x:Str} (c:a.length≤1000):(f3 j a x).Sure B m:=by
 refine lj fun p A s Q E b h => ?_
 have e:IsL s.heap (p 1 0) a.toArray (p 1 1):=b
 refine call_meets F.slot_list_append ⟨_,b,rfl⟩ F.entry_list_append (F.args_list_append_2 _ _) (list_append (p 1 0) a.toArray (p 1 1) (.str x (p 0 1)) (by rw [List.size_toArray];exact Nat.le_trans c (by decide))) ⟨b,?_⟩
 have d:Heap.SameBut (p 1 0) s.heap (s.heap.update (p 1 0) (Obj.mapSeq fun y=>y.push (.str x (p 0 1)))):=Heap.SameBut.update ..
 refine h _ (fun _=>p 1 1+1) s.toks d ?_
 refine (Heap.get?_update_self _ b rfl).trans ?_
 show some (Obj.mapSeq _ (ab a (p 1 1)))=some (ab (a++[.str x (p 0 1)]) (p 1 1+1))
 unfold Obj.mapSeq ab
 simp
end
section
variable {B:bf} {m:Nat}
def uR (j:Nat) (a:Yb) (y:Yd):aH:=iS "list.pop" j (a++[y]) (fun _=>[]) (fun _ _=>y) fun _=>a
theorem y8 {j:Nat} {a:Yb} {y:Yd} (d:a.length≤1000):(uR j a y).Sure B m:=by
 refine lj fun p A s Q E b h => ?_
 have c:(a++[y]).toArray.size≤sizeLine:=by
  rw [List.size_toArray,List.length_append]
  exact Nat.le_trans (Nat.add_le_add_right d 1) (by decide)
 refine call_meets F.slot_list_pop ⟨_,b,rfl⟩ F.entry_list_pop (F.args_list_pop_1 _) (MeetsSeq.list_pop_last (p 1 0) (a++[y]).toArray (p 1 1) y (by simp) c) ⟨b,?_⟩
 refine h _ (fun _=>p 1 1+1) s.toks (Heap.SameBut.update ..) ?_
 refine (Heap.get?_update_self _ b rfl).trans ?_
 show some (Obj.mapSeq _ (ab (a++[y]) (p 1 1)))=some (ab a (p 1 1+1))
 unfold Obj.mapSeq ab
 simp [Array.eraseIdxIfInBounds,List.eraseIdx_append_of_length_le]
def uS (j:Nat) (a:Yb) (n:Int):aH:=iS "len" j a (fun _=>[]) (fun _ b=>.int n (b 0)) fun _=>a
theorem y9 {j:Nat} {a:Yb} {n:Int} (e:(a.length:Int)=n) (d:a.length≤1000):(uS j a n).Sure B m:=by
 refine lj fun p A s Q E b h => ?_
 have c:s.heap.IsList (p 1 0) a.toArray:=⟨_,b,rfl,p 1 1,rfl⟩
 refine len_list c (by rw [List.size_toArray];lia) ?_
 rw [List.size_toArray,e]
 exact h s.heap (fun i=>match i with | 0=>s.toks+1 | _=>p 1 1) _ ⟨rfl,fun _ _=>rfl⟩ b
def o8 (j:Nat) (a:Yb) (n:Int):aH:=
 {code:=fun p=>.builtin "len" ⟨[.ref (p 1 0)],[]⟩,pl:=[j],objs:=fun p=>[(p 1 0,ab a (p 1 1))],strm:=true,out:=fun p b=>(.ret (.int n (b 0)),[ab a (p 1 1)],[])}
theorem za {j:Nat} {a:Yb} {n:Int} (e:(a.length:Int)=n) (z:a.length≤1000):(o8 j a n).Sure B m:=by
 refine ⟨by simp [o8],fun p A _ h c w d t g l k Q E _ b _ y => ?_⟩
 have i:=(b _ (.head _)).1
 have u:h.IsList (p 1 0) a.toArray:=⟨_,i,rfl,p 1 1,rfl⟩
 refine x_call (hd:=none) ?_ (by intro e;cases e)
 refine codeAny_builtin entry_len (wpAny_mono (wpAny_len_body_list (s:=⟨h,w,d,c,t⟩) (Q:=fun v f=>wpAny B.M A (k (.ok (.ret v))) Q E f) u (by rw [List.size_toArray];lia) ?_) ?_ fun _ _ q=>q)
 ·rw [List.size_toArray,e]
  exact y h _ (fun _=>c+1) (fun e=>by cases e) (Nat.le_refl _) (fun _ _ e _=>e) (fun x hx=>by
   have:x=(p 1 0,ab a (p 1 1)):=by simpa [o8] using hx
   subst this;exact i) (fun _ hx=>(nomatch hx)) List.nodup_nil
 ·rintro o f ⟨r,rfl,q⟩
  exact q
end
def o9:Option c1→Code
 | some o=>match o.r with
  | .cut c _ _=>c
  | _=>.call .none ⟨[],[]⟩
 | none=>.call .none ⟨[],[]⟩
def ie:Code→Bool
 | .builtin _ _=>true
 | _=>false
theorem aS {c:Code} (h:ie c=false):∀id a,c≠.builtin id a:=by
 rintro id a rfl
 cases h
noncomputable def aG (w:Yc) (a:List (Str×Nat×Yd)) (n:Nat):Obj:={cls:=.type "frame",data:=.dict (a.map fun e=>⟨reduceHash (w.params.strHash e.1.cps),.str e.1 e.2.1,e.2.2⟩).toArray n}
def gB (w:Yc) (a:Nat):Code:=o9 (gw false false w [] 45 [0,0,2,1,2,1,2,1,0,0,2,2,1,1,1,0,1,0,54,1,2,1,1] 0 (fun _=>(0,0,id)) (.call (.ref 128) ⟨[.ref 2001,.int 0 81,.int 0 82],[]⟩) [(2001,ab [.str "" 77] 4)] a 0)
theorem mS (w:Yc) (a:Nat):ie (gB w a)=false:=by kernel_rfl
section
open SeqAt MeetsSeq3
open AutoSeq1 (wpAny_loadPart')
def bc (p:af) (j:Nat):Yg→Nat→Yb
 | [],_=>[]
 | x::r,i=>.str x (p j i)::bc p j r (i+1)
theorem uT (p:af) (j:Nat):∀(l:Yg) (i:Nat),(bc p j l i).length=l.length
 | [],_=>rfl
 | _::r,i=>by show (bc p j r (i+1)).length+1=_;rw [uT p j r];rfl
theorem pc (p:af) (j:Nat):∀(l:Yg) (i:Nat),StrsAre (bc p j l i) l
 | [],_=>.nil
 | x::r,i=>.cons x _ (pc p j r (i+1))
def aP:Yg→Yg→Bool
 | x::a,y::b=>if x==y then aP a b else decide (x.cps.toList<y.cps.toList)
 | a,b=>decide (a.length<b.length)
theorem mT {a:Yb} {b:Yg} (h:StrsAre a b):∀i:Nat,(a[i]? = none∧b[i]? = none)∨∃(x:Str) (t:Nat),a[i]? = some (Value.str x t)∧b[i]? = some x:=by
 induction h with
 | nil=>intro i;exact .inl ⟨rfl,rfl⟩
 | cons y t h c=>
  intro i
  cases i with
  | zero=>exact .inr ⟨y,t,rfl,rfl⟩
  | succ i=>exact c i
theorem ig {vs:Yb} {a:Yg} (h:StrsAre vs a):vs.length=a.length:=by
 induction h with
 | nil=>rfl
 | cons y t h b=>rw [List.length_cons,List.length_cons,b]
theorem zb {a:Yg} {i:Nat} (h:a[i]? = none):a.drop i=[]:=List.drop_of_length_le (List.getElem?_eq_none_iff.mp h)
theorem sx {a:Yg} {i:Nat} {x:Str} (h:a[i]? = some x):a.drop i=x::a.drop (i+1):=by
 obtain ⟨b,e⟩:=List.getElem?_eq_some_iff.mp h
 rw [List.drop_eq_getElem_cons b,e]
theorem mU (a:Yg):aP [] a=decide (0<a.length):=by cases a <;> rfl
theorem D7 (x:Str) (a:Yg):aP (x::a) []=false:=rfl
theorem D8 (l b:Addr) (a f:Yb) (o E:Yg) (n n2:Nat) (K:StrsAre a o) (L:StrsAre f E) (k:Nat) :
  ∀i:Nat,i≤o.length→i≤E.length→o.length-i=k→Meets (Builtin.«list.__eq__.loop» ⟨[.ref l,.ref b,rawInt i,rawInt 0],[]⟩)
   (fun A R s=>s.heap.get? l=some (ab a n)∧s.heap.get? b=some (ab f n2)∧R (.ok (.ret (.bool (aP (o.drop i) (E.drop i))))) s):=by
 have lv:=ig K
 have Y:=ig L
 induction k with
 | zero=>
  intro i hx V X j w A R s h
  obtain ⟨O,g,d,N,S⟩:=s;obtain ⟨e,c,h⟩:=h
  unfold ab at e c
  wp_walk using wpAny_loadPart' e,wpAny_loadPart' c
  have J:a[i]? = none:=List.getElem?_eq_none (by omega)
  have D:a.toArray[((i:Nat):Int).toNat]? = none:=by rw [Int.toNat_natCast,List.getElem?_toArray];exact J
  have Q:o.drop i=[]:=List.drop_of_length_le (by omega)
  rw [Q,mU] at h
  rw [D]
  wp_walk using wpAny_loadPart' e,wpAny_loadPart' c
  show R (.ok (.ret (.bool (decide (a.toArray.size<f.toArray.size))))) _
  have:decide (a.toArray.size<f.toArray.size)=decide (0<(E.drop i).length):=by
   rw [List.size_toArray,List.size_toArray,List.length_drop]
   exact decide_eq_decide.mpr (by omega)
  rw [this]
  exact h
 | succ k T=>
  intro i hx V X j w A R s h
  obtain ⟨O,g,d,N,S⟩:=s;obtain ⟨e,c,h⟩:=h
  have I:=e
  have G:=c
  unfold ab at e c
  wp_walk using wpAny_loadPart' e,wpAny_loadPart' c
  obtain ⟨x,t,ev,U⟩:∃x t,a[i]? = some (.str x t)∧o[i]? = some x:=by
   rcases mT K i with h | h
   ·have:=List.getElem?_eq_none_iff.mp h.2;omega
   ·exact h
  have D:a.toArray[((i:Nat):Int).toNat]? = some (.str x t):=by rw [Int.toNat_natCast,List.getElem?_toArray];exact ev
  rw [sx U] at h
  rw [D]
  rcases mT L i with ⟨H,q⟩ | ⟨y,u,H,q⟩
  ·have C:f.toArray[((i:Nat):Int).toNat]? = none:=by rw [Int.toNat_natCast,List.getElem?_toArray];exact H
   rw [C]
   rw [zb q,D7] at h
   wp_walk using wpAny_loadPart' e,wpAny_loadPart' c
   show R (.ok (.ret (.bool (decide (a.toArray.size<f.toArray.size))))) _
   have:decide (a.toArray.size<f.toArray.size)=false:=by
    rw [List.size_toArray,List.size_toArray]
    have:=List.getElem?_eq_none_iff.mp q
    exact decide_eq_false (by omega)
   rw [this]
   exact h
  ·have C:f.toArray[((i:Nat):Int).toNat]? = some (.str y u):=by rw [Int.toNat_natCast,List.getElem?_toArray];exact H
   rw [C]
   rw [sx q] at h
   have P:((i:Int)+1)=((i+1:Nat):Int):=by push_cast;rfl
   refine wpAny_bind (eqBool_str ?_)
   unfold aP at h
   cases p:x==y with
   | true=>
    rw [p,if_pos rfl] at h
    wp_walk
    rw [P]
    exact ⟨plainId_quiet plain_eq_loop _,codeAny_builtin entry_eq_loop (by
     rw [Around.under_plainId plain_eq_loop _]
     have Z:=(List.getElem?_eq_some_iff.mp q).1
     exact T (i+1) (by omega) (by omega) (by omega) j w A R _ ⟨I,G,h⟩)⟩
   | false=>
    rw [p,if_neg (by decide)] at h
    wp_walk using wpAny_loadPart' e,wpAny_loadPart' c
    rw [D,C]
    refine wpAny_bind (richCompare_gives (op:=.Lt) (typeIs_str _ _ _) (typeIs_str _ _ _) F.slot_str_lt F.entry_str_lt (F.args_str_lt_2 _ _) (gives_str_lt _ _ _ _) (fun z=>nomatch z) ?_)
    exact wpAny_pure h
theorem zc (l b:Addr) (k e:Yb) (f j:Yg) (n n2:Nat) (p:StrsAre k f) (q:StrsAre e j) :
  Meets (Builtin.«list.__lt__» ⟨[.ref l,.ref b],[]⟩)
   (fun A R s=>s.heap.get? l=some (ab k n)∧s.heap.get? b=some (ab e n2)∧R (.ok (.ret (.bool (aP f j)))) s):=by
 intro a w A R s h
 obtain ⟨u,g,d,t,y⟩:=s;obtain ⟨i,c,h⟩:=h
 have o:=And.intro i c
 unfold ab at i c
 have x:=AutoSeq1.sub_list_list
 wp_walk using wpAny_loadPart' i,wpAny_loadPart' c
 exact ⟨plainId_quiet plain_eq_loop _,codeAny_builtin entry_eq_loop (by
  rw [Around.under_plainId plain_eq_loop _]
  exact D8 l b k e f j n n2 p q _ 0 (Nat.zero_le _) (Nat.zero_le _) rfl a w A R _ ⟨o.1,o.2,h⟩)⟩
theorem uU {A:Around} {s:Shared} {f d:Yb} {g h:Yg} (i:StrsAre f g) (o:StrsAre d h):∀j (b:j<f.toArray.size) (c:j<d.toArray.size),EqAt A s f.toArray[j] d.toArray[j] (g[j]? == h[j]?):=by
 intro j b c
 rw [List.size_toArray] at b c
 rcases mT i j with ⟨e,_⟩ | ⟨x,t,e,k⟩
 ·rw [List.getElem?_eq_getElem b] at e;cases e
 ·rcases mT o j with ⟨a,_⟩ | ⟨y,u,a,n⟩
  ·rw [List.getElem?_eq_getElem c] at a;cases a
  ·rw [List.getElem?_eq_getElem b] at e
   rw [List.getElem?_eq_getElem c] at a
   rw [List.getElem_toArray,List.getElem_toArray,Option.some.inj e,Option.some.inj a,k,n]
   have:(some x==some y)=(x==y):=rfl
   rw [this]
   exact EqAt.str_str x t y u
section
variable {B:bf} {m:Nat}
noncomputable def az (l:Yb) (n:Nat):Obj:={cls:=.type "tuple",data:=.seq l.toArray n}
end
end
section
open SeqAt MeetsSeq3
def bH:Ya→Yf
 | []=>[]
 | x::l=>x.2::bH l
theorem uV:∀l:Ya,bH l=l.map (·.2)
 | []=>rfl
 | x::l=>by show x.2::bH l=_;rw [uV l];rfl
theorem sy (l:Ya):(l.map (·.1)).zip (bH l)=l:=by
 rw [uV]
 induction l with
 | nil=>rfl
 | cons x l a=>rw [List.map_cons,List.map_cons,List.zip_cons_cons,a]
section
variable {B:bf} {m:Nat}
end
end
theorem jq {a:Ya} {b:Yf} (h:b.length=a.length):((a.map (·.1)).zip b).map (·.1)=a.map (·.1):=List.map_fst_zip (by rw [h,List.length_map];exact Nat.le_refl _)
theorem aL.andThen {B:bf} (O:B.Ok) {m:Nat} {c V:Code} {need:Ya} {i k:Ye→e4} {out2:Ye→Ye→e4} (R:aL B m c need i) (Y:∀f,(i f).1 = .error V) (hz:∀f,(i f).2.1.length=need.length)
  (D:∀f,aL B m V ((need.map (·.1)).zip (i f).2.1) (out2 f)) (E:∀f j,∃n,k n=((out2 f j).1,(out2 f j).2.1,(i f).2.2++(out2 f j).2.2)):aL B m c need k:=by
 intro A P h X S d Q U nd H K hR
 refine R A P h X S d Q U nd H K fun Z I f le T g t G => ?_
 rw [Y f]
 have F:=jq (hz f)
 have lo:∀a∈need.map (·.1),B.lo≤a:=fun a t=>by
  obtain ⟨p,g,rfl⟩:=List.mem_map.mp t
  exact (H p g).2
 have lt:∀a∈need.map (·.1),a<h.objs.size:=fun a t=>by
  obtain ⟨p,g,rfl⟩:=List.mem_map.mp t
  exact Heap.lt_size (H p g).1
 refine D f A P Z I S d Q U (by rw [F];exact nd) (fun p x=>⟨g p x,lo _ (by rw [←F];exact List.mem_map_of_mem x)⟩) (mR O K le lo T) fun C u j y o w s J => ?_
 rw [F] at o w
 obtain ⟨n,e⟩:=E f j
 have z:=hR C u n (Nat.le_trans le y) (fun b L q N=>o b L (T b L q N) N) (by rw [e];exact w) ?_ ?_
 ·rw [e] at z;exact z
 ·rw [e]
  intro p g
  rcases List.mem_append.mp g with g | g
  ·have q:=t p g
   exact ⟨o p.1 p.2 q.1 fun hm=>absurd (lt _ hm) (Nat.not_lt.mpr q.2),q.2⟩
  ·exact ⟨(s p g).1,Nat.le_trans le (s p g).2⟩
 ·rw [e]
  show (((i f).2.2++(out2 f j).2.2).map (·.1)).Nodup
  rw [List.map_append]
  refine List.nodup_append.mpr ⟨G,J,fun a h1 b h2 => ?_⟩
  obtain ⟨p,g,rfl⟩:=List.mem_map.mp h1
  obtain ⟨q,hq,rfl⟩:=List.mem_map.mp h2
  exact Nat.ne_of_lt (Nat.lt_of_lt_of_le (Heap.lt_size (t p g).1) (s q hq).2)
theorem D9 {l:Ya} (nd:(l.map (·.1)).Nodup) {p q:Addr×Obj} (c:p∈l) (d:q∈l) (e:p.1=q.1):p=q:=by
 induction l with
 | nil=>cases c
 | cons x l f=>
  rw [List.map_cons,List.nodup_cons] at nd
  rcases List.mem_cons.mp c with b | b
  ·rcases List.mem_cons.mp d with a | a
   ·rw [b,a]
   ·exact absurd (by rw [←b,e];exact List.mem_map_of_mem a) nd.1
  ·rcases List.mem_cons.mp d with a | a
   ·exact absurd (by rw [←a,←e];exact List.mem_map_of_mem b) nd.1
   ·exact f nd.2 b a
theorem iT {α β : Type}:∀{a b:List α} {c d:List β},a.length=c.length→(a++b).zip (c++d)=a.zip c++b.zip d
 | [],_,[],_,_=>rfl
 | [],_,_::_,_,h=>by cases h
 | _::_,_,[],_,h=>by cases h
 | x::a,b,y::c,d,h=>by
  show (x,y)::(a++b).zip (c++d)=(x,y)::(a.zip c++b.zip d)
  rw [iT (a:=a) (c:=c) (by simpa using h)]
theorem aL.lift {B:bf} {m:Nat} {c:Code} {need src:Ya} (f:Ya) {k:Ye→Except Code Flow} {o:Ye→Yf} {ads:Ye→Ya} (R:aL B m c (need++src) fun g=>(k g,o g++bH src,ads g))
  (X:∀g,(o g).length=need.length) (sub:∀p∈src,p∈f) (C:(src.map (·.1)).Nodup):aL B m c (need++f) fun g=>(k g,o g++bH f,ads g):=by
 intro A Q h L U d T Z nd H K Y
 rw [List.map_append,List.nodup_append] at nd
 obtain ⟨D,ndS,w⟩:=nd
 have s:∀a∈src.map (·.1),a∈f.map (·.1):=fun a z=>by
  obtain ⟨p,n,rfl⟩:=List.mem_map.mp z
  exact List.mem_map_of_mem (sub p n)
 refine R A Q h L U d T Z ?_ (fun p n=>H p ?_) K fun G F g le I n z E=>Y G F g le (fun b O q P=>I b O q fun j=>P ?_) (fun x hx => ?_) z E
 ·rw [List.map_append,List.nodup_append]
  exact ⟨D,C,fun a S b V=>w a S b (s b V)⟩
 ·rcases List.mem_append.mp n with n | n
  ·exact List.mem_append_left _ n
  ·exact List.mem_append_right _ (sub p n)
 ·rw [List.map_append] at j ⊢
  rcases List.mem_append.mp j with j | j
  ·exact List.mem_append_left _ j
  ·exact List.mem_append_right _ (s b j)
 ·have e:∀l:Ya,((need++l).map (·.1)).zip (o g++bH l)=(need.map (·.1)).zip (o g)++l:=fun l=>by
   rw [List.map_append,iT (by rw [List.length_map,X]),sy]
  have u:∀y∈(need.map (·.1)).zip (o g)++src,G.get? y.1=some y.2:=fun y hy=>n y (by rw [e];exact hy)
  have i:x∈(need.map (·.1)).zip (o g)++f:=by rw [←e];exact hx
  rcases List.mem_append.mp i with i | i
  ·exact u x (List.mem_append_left _ i)
  ·by_cases J:x.1∈src.map (·.1)
   ·obtain ⟨p,t,N⟩:=List.mem_map.mp J
    have:p=x:=D9 ndS (sub p t) i N
    subst this
    exact u _ (List.mem_append_right _ t)
   ·refine I x.1 x.2 (H x (List.mem_append_right _ i)).1 fun j => ?_
    rw [List.map_append] at j
    rcases List.mem_append.mp j with j | j
    ·exact w _ j _ (List.mem_map_of_mem i) rfl
    ·exact J j
structure aI (B:bf) (m:Nat) {α : Type} (t:Sem α) (need:Ya) (out:Ye→α×Yf×Ya):Prop where
 go:∀(A:Around),Lv m A→∀(h:Heap) (tk:Nat) (gs:Array GenState) (d:Drawn) (os:OsState) (Q : α→Shared→Prop) (E:Yd→Shared→Prop),
  (need.map (·.1)).Nodup→(∀p∈need,h.get? p.1=some p.2∧B.lo≤p.1)→B.In h→
  (∀(h':Heap) (tk':Nat) (ax:Ye),h.objs.size≤h'.objs.size→(∀b ob,h.get? b=some ob→b∉need.map (·.1)→h'.get? b=some ob)→
   (∀x∈(need.map (·.1)).zip (out ax).2.1,h'.get? x.1=some x.2)→(∀p∈(out ax).2.2,h'.get? p.1=some p.2∧h.objs.size≤p.1)→((out ax).2.2.map (·.1)).Nodup→
   Q (out ax).1 ⟨h',gs,d,tk',os⟩)→
  wpAny B.M A t Q E ⟨h,gs,d,tk,os⟩
def ih:Nat→Kn→Kn
 | 0,T=>T
 | _+1,[]=>[]
 | k+1,_::T=>ih k T
theorem sA:∀{k:Nat} {T:Kn} {p:Addr×Obj},p∈ih k T→p∈T
 | 0,_,_,h=>h
 | _+1,[],_,h=>h
 | k+1,x::T,p,h=>.tail _ (sA (k:=k) (T:=T) h)
theorem zd:∀(k:Nat) (T:Kn),ih k T=T.drop k
 | 0,T=>rfl
 | _+1,[]=>rfl
 | k+1,x::T=>by show ih k T=T.drop k;exact zd k T
theorem Ea {k:Nat} {T:Kn} (h:(T.map (·.1)).Nodup):((ih k T).map (·.1)).Nodup:=by
 rw [zd,List.map_drop]
 exact List.Sublist.nodup (List.drop_sublist _ _) h
theorem ze:∀{i k:Nat} {T:Kn} {p q:Addr×Obj},(T.map (·.1)).Nodup→i<k→bW T i=some p→q∈ih k T→p.1≠q.1
 | _,_,[],_,_,_,_,h,_=>by cases h
 | 0,k+1,x::T,p,q,nd,_,h,hq=>by
  cases h
  rw [List.map_cons,List.nodup_cons] at nd
  intro e
  exact nd.1 (by rw [e];exact List.mem_map_of_mem (sA hq))
 | i+1,k+1,x::T,p,q,nd,hl,h,hq=>by
  rw [List.map_cons,List.nodup_cons] at nd
  exact ze (T:=T) nd.2 (Nat.lt_of_succ_lt_succ hl) h hq
 | i+1,0,_::_,_,_,_,hl,_,_=>absurd hl (Nat.not_lt_zero _)
 | 0,0,_::_,_,_,_,hl,_,_=>absurd hl (Nat.not_lt_zero _)
def dy (v:Yd):Flow:=.ret v
def iU (_:Unit):Flow:=.next
def mV (b:Bool):Flow:=.ret (.bool b)
def kf:Option Yd→Flow
 | some v=>.ret v
 | none=>.next
theorem eN:∀{a b:Yd},dy a=dy b→a=b:=fun h=>Flow.ret.inj h
theorem kg:∀{a b:Unit},iU a=iU b→a=b:=fun _=>rfl
theorem sB:∀{a b:Bool},mV a=mV b→a=b:=fun h=>Value.bool.inj (Flow.ret.inj h)
theorem mW:∀{a b:Option Yd},kf a=kf b→a=b:=by
 intro a b h
 cases a with
 | none=>cases b with
  | none=>rfl
  | some b=>cases h
 | some a=>cases b with
  | none=>cases h
  | some b=>exact congrArg some (Flow.ret.inj h)
def mX (b c:Bool) (w:Yc) (e:List aH) (a:Nat) (d:Yh) (L:Nat) (f:Nat→Oc) {α : Type} (t:Sem α) (h : α→Flow) (g:Kn) (n i:Nat):Option c1:=
 d7 ((B0 (W b c w)).sv e) a d (li L f) [] .base (t.bind fun v=>.pure (.done (h v))) g n i []
def ii (x:Option c1) (d:Yh) (k:Option Nat) (b:Ya) (r:Flow) (a:Yf) (c tail:Ya):Prop:=
 x.map (fun o=>(kX d o,k.map fun k=>ih k o.T))=some ((.ret (.ok r),((b.map (·.1)).zip a++c).map some,(kY x).map Ob.r),k.map fun _=>tail)
def aH.SureF (B:bf) (m:Nat) (S:Ya) (o:aH):Prop:=o.pl.Nodup∧∀(a:af) (A:Around),Lv m A→∀(h:Heap) (j:Nat) (s:Array GenState) (d:Drawn) (q:OsState) (g:Bool) (l:Yb) (k:Result→Sem Fin) (Q:Fin→Shared→Prop) (E:Yd→Shared→Prop),
 ((o.objs a).map (·.1)).Nodup→(∀x∈o.objs a,h.get? x.1=some x.2∧B.lo≤x.1)→B.In h→
 (∀p∈S,h.get? p.1=some p.2∧B.lo≤p.1)→(∀p∈S,p.1∉(o.objs a).map (·.1))→(S.map (·.1)).Nodup→
 (∀(c:Heap) (f:Nat) (e:Ye),(o.strm=false→c.objs.size=h.objs.size∧f=j+o.dt∧e=fun i=>j+i)→h.objs.size≤c.objs.size→
  (∀b n,h.get? b=some n→b∉(o.objs a).map (·.1)→c.get? b=some n)→
  (∀x∈((o.objs a).map (·.1)).zip (o.out a e).2.1,c.get? x.1=some x.2)→
  (∀p∈(o.out a e).2.2,c.get? p.1=some p.2∧h.objs.size≤p.1)→((o.out a e).2.2.map (·.1)).Nodup→
  wpAny B.M A (k (lL o.bad (o.out a e).1)) Q E ⟨c,s,d,f,q⟩)→
 wpAny B.M A (.call (o.code a) none g l k) Q E ⟨h,s,d,j,q⟩
theorem aH.Sure.toF {B:bf} {m:Nat} {o:aH} (h:o.Sure B m) (S:Ya):o.SureF B m S:=⟨h.1,fun a A f e c j d i g l k Q E nd n b _ _ _ p=>h.2 a A f e c j d i g l k Q E nd n b p⟩
theorem jr {B:bf} {m:Nat} {S:Ya} {o:aH} {l:List aH} (h:o.SureF B m S) (r:∀o∈l,o.SureF B m S):∀b∈o::l,b.SureF B m S:=by
 intro b a
 rcases List.mem_cons.mp a with rfl | a
 ·exact h
 ·exact r b a
theorem pd {B:bf} {m:Nat} {S:Ya}:∀o∈([]:List aH),o.SureF B m S:=fun _ h=>nomatch h
theorem aH.SureF.le {B:bf} {m n:Nat} {S:Ya} {o:aH} (h:o.SureF B m S) (l:m≤n):o.SureF B n S:=⟨h.1,fun a A b=>h.2 a A (b.le l)⟩
theorem zf {a S:Ya} {o:Yf} (h:o.length=a.length):((a++S).map (·.1)).zip (o++bH S)=(a.map (·.1)).zip o++S:=by
 rw [List.map_append,iT (by rw [List.length_map,h]),sy]
theorem pe {B:bf} {m:Nat} {S:Ya} {code:af→Code} {z:Yh} {f:af→Ya} {out:af→Ye→Flow×Yf×Ya}
  (J:z.Nodup) (X:∀c j,(out c j).2.1.length=(f c).length) (D:∀c,aL B m (code c) (f c++S) fun j=>(.ok (out c j).1,(out c j).2.1++bH S,(out c j).2.2)):(bA code z f out).SureF B m S:=by
 refine ⟨J,fun c A N h G R d O g l k Q E nd U F hS hd P Y => ?_⟩
 refine x_call (hd:=none) ?_ (by intro e;cases e)
 refine D c A N h G R d O _ ?_ (fun p i => ?_) F fun y w j le V i H u => ?_
 ·rw [List.map_append]
  refine List.nodup_append.mpr ⟨nd,P,fun a s b T e => ?_⟩
  obtain ⟨p,i,rfl⟩:=List.mem_map.mp T
  exact hd p i (e▸s)
 ·rcases List.mem_append.mp i with i | i
  ·exact U p i
  ·exact hS p i
 ·have t:∀x∈((f c).map (·.1)).zip (out c j).2.1++S,y.get? x.1=some x.2:=fun x hx=>i x (by rw [←zf (X c j)] at hx;exact hx)
  refine Y y w j (fun e=>by cases e) le (fun b I q K => ?_) (fun x hx=>t x (List.mem_append_left _ hx)) H u
  by_cases C:b∈S.map (·.1)
  ·obtain ⟨p,o,rfl⟩:=List.mem_map.mp C
   have L:=(hS p o).1
   rw [L] at q
   rw [←q]
   exact t p (List.mem_append_right _ o)
  ·refine V b I q fun n => ?_
   rw [List.map_append] at n
   rcases List.mem_append.mp n with s | s
   ·exact K s
   ·exact C s
theorem Eb {B:bf} (O:B.Ok) {m:Nat} {A:Around} (b:Lv (m+1) A) {S:Ya} {orcs:List aH} (u:∀o∈orcs,o.SureF B m S) {X:Cx} (q:X.A₀ = A) (f:B.lo≤X.h₀.objs.size)
  (hS:∀p∈S,X.h₀.get? p.1=some p.2∧B.lo≤p.1) (s:∀p∈S,p.1∉X.M₀) (z:(S.map (·.1)).Nodup):gg (B.sv orcs) X:=by
 have G:=tQ (B:=B) O b (orcs:=[]) (fun _ h=>nomatch h) q f
 refine ⟨G.den,G.pab,G.ef,G.cr,G.bd,G.lg,G.kt,G.stat,G.lim,G.ids,G.hd,G.depth,G.units,G.low,fun o t => ?_⟩
 subst q
 refine ⟨(u o t).1,fun j D i h w g l k Q E nd F I C d n y => ?_⟩
 refine (u o t).2 j D ⟨i.1,by have:=b.2.1;have:=i.2.1;lia,by have:=b.2.2;have:=i.2.2;lia⟩ h w _ _ _ g l k Q E nd F ⟨I,C⟩ (fun p a=>⟨d _ _ (hS p a).1 (s p a),(hS p a).2⟩) (fun p a H => ?_) z y
 obtain ⟨x,hx,e⟩:=List.mem_map.mp H
 rcases n x hx with c | c
 ·exact s p a (e▸c)
 ·exact absurd (Heap.lt_size (hS p a).1) (Nat.not_lt.mpr (e▸c))
theorem mY {b c:Bool} {w:Yc} {m:Nat} {α : Type} {t:Sem α} {enc : α→Flow} (inj:∀{a b : α},enc a=enc b→a=b) {need:Ya} {val:Ye→α} {objs:Ye→Yf} {ads tail:Ye→Ya} {orcs:List aH} (S:Ya) (hs:∀o∈orcs,o.SureF (B0 (W b c w)) m S)
  (H L:Nat) (F I:Yh) (k:Option Nat) (u:Nat→Nat→(Nat→Oc)→Nat→Nat) (ns:I.Nodup:=by decide) (hk:k.elim True (fun k=>∀i∈I,i<k):=by exact trivial) (ht:k=none→∀a,tail a=[]:=by exact fun _ _=>rfl) (Z:∀a,(objs a).length=need.length:=by intro _;kernel_rfl)
  (E:∀n j f,ii (mX b c w orcs H F L f t enc need n j) I k need (enc (val (u n j f))) (objs (u n j f)) (ads (u n j f)) (tail (u n j f)):=by intro n j f;delta ii;kernel_rfl):aI (B0 (W b c w)) (m+1) t (need++S) fun a=>(val a,objs a++bH S,ads a++tail a):=by
 refine ⟨fun A hA h j gs d os Q Er N V hB hR => ?_⟩
 rw [List.map_append,List.nodup_append] at N
 obtain ⟨hnd,ns0,dis⟩:=N
 have hn:∀p∈need,h.get? p.1=some p.2∧(B0 (W b c w)).lo≤p.1:=fun p g=>V p (List.mem_append_left _ g)
 have hS:∀p∈S,h.get? p.1=some p.2∧(B0 (W b c w)).lo≤p.1:=fun p g=>V p (List.mem_append_right _ g)
 have T:∀p∈S,p.1∉need.map (·.1):=fun p g O=>dis _ O _ (List.mem_map_of_mem g) rfl
 let R:Result→Shared→Prop:=fun r s=>match r with
  | .ok f=>∀v,f=enc v→Q v s
  | .error e=>Er e s
 have G:gg ((B0 (W b c w)).sv orcs) ⟨h,need.map (·.1),A,R,gs,d,os⟩:=Eb (bG _) hA hs rfl hB.2 hS T ns0
 have D:dr ((B0 (W b c w)).sv orcs) ⟨h,need.map (·.1),A,R,gs,d,os⟩ h need h.objs.size:=⟨rfl,fun p g=>(hn p g).1,fun p g=>(hn p g).2,hnd,hB.1,fun _ _ e _=>e,fun p g=>.inl (List.mem_map_of_mem (f:=(·.1)) g),Nat.le_refl _⟩
 have z:=tP G H L F [] .base (t.bind fun v=>.pure (.done (enc v))) need h.objs.size j [] h (fun X hl=>by
  obtain ⟨f,ef⟩:=sw X
  rw [hl] at ef
  have U:=E h.objs.size j f
  unfold ii mX at U
  rw [←ef] at U
  generalize hx:d7 ((B0 (W b c w)).sv orcs) H F X [] .base (t.bind fun v=>.pure (.done (enc v))) need h.objs.size j []=x at U
  cases x with
  | none=>cases U
  | some o=>
   have e2:=Option.some.inj U
   have eS:=congrArg Prod.fst e2
   have eT:k.map (fun k=>ih k o.T)=k.map fun _=>tail (u h.objs.size j f):=congrArg Prod.snd e2
   have er:o.r = .ret (.ok (enc (val (u h.objs.size j f)))):=congrArg Prod.fst eS
   have K:I.map (bW o.T)=((need.map (·.1)).zip (objs (u h.objs.size j f))++ads (u h.objs.size j f)).map some:=congrArg (fun y:Rs×List (Option (Addr×Obj))×List Ob=>y.2.1) eS
   have eob:lK o.ob:=congrArg (fun y:Rs×List (Option (Addr×Obj))×List Ob=>y.2.2) eS
   refine ⟨o,rfl,eob,fun h' C => ?_⟩
   rw [er]
   intro v hv
   have ev:=inj hv
   subst ev
   have nn:=lQ C.nd ns K
   rw [List.map_append,List.map_fst_zip (by rw [Z,List.length_map];exact Nat.le_refl _)] at nn
   have fresh:∀p∈o.T,p.1∉need.map (·.1)→h.objs.size≤p.1:=fun p g hn'=>(C.new p g).resolve_left hn'
   have tl:∀p∈tail (u h.objs.size j f),∃J,k=some J∧p∈ih J o.T:=fun p g=>by
    cases k with
    | none=>rw [ht rfl] at g;cases g
    | some J=>
     have:ih J o.T=tail (u h.objs.size j f):=Option.some.inj eT
     exact ⟨J,rfl,by rw [this];exact g⟩
   have tn:∀p∈tail (u h.objs.size j f),∀q∈(need.map (·.1)).zip (objs (u h.objs.size j f))++ads (u h.objs.size j f),q.1≠p.1:=fun p g q P=>by
    obtain ⟨J,ek,T⟩:=tl p g
    subst ek
    obtain ⟨i,hi,hi'⟩:=jb K q P
    exact ze C.nd (hk i hi) hi' T
   have mz:∀a∈need.map (·.1),∃q∈(need.map (·.1)).zip (objs (u h.objs.size j f)),q.1=a:=fun a ha=>by
    have:a∈((need.map (·.1)).zip (objs (u h.objs.size j f))).map (·.1):=by rw [jq (Z _)];exact ha
    obtain ⟨q,P,e⟩:=List.mem_map.mp this
    exact ⟨q,P,e⟩
   refine hR h' o.tk (u h.objs.size j f) (by rw [C.size];exact C.grow) (fun b ob q hb=>C.keep b ob q fun O=>hb (by rw [List.map_append];exact List.mem_append_left _ O)) (fun x hx => ?_) (fun p g => ?_) ?_
   ·have B:x∈((need++S).map (·.1)).zip (objs (u h.objs.size j f)++bH S):=hx
    rw [zf (Z _)] at B
    rcases List.mem_append.mp B with B | B
    ·obtain ⟨i,_,Y⟩:=jb K x (List.mem_append_left _ B)
     exact C.own x (dn Y)
    ·exact C.keep x.1 x.2 (hS x B).1 (T x B)
   ·rcases List.mem_append.mp g with g | g
    ·obtain ⟨i,hi,Y⟩:=jb K p (List.mem_append_right _ g)
     refine ⟨C.own p (dn Y),fresh p (dn Y) fun O => ?_⟩
     exact (List.nodup_append.mp nn).2.2 p.1 O p.1 (List.mem_map_of_mem g) rfl
    ·obtain ⟨J,ek,T⟩:=tl p g
     refine ⟨C.own p (sA T),fresh p (sA T) fun O => ?_⟩
     obtain ⟨q,P,e⟩:=mz p.1 O
     exact tn p g q (List.mem_append_left _ P) e
   ·show ((ads (u h.objs.size j f)++tail (u h.objs.size j f)).map (·.1)).Nodup
    rw [List.map_append]
    refine List.nodup_append.mpr ⟨(List.nodup_append.mp nn).2.1,?_,fun a ha b' hb => ?_⟩
    ·cases k with
     | none=>rw [ht rfl];exact List.nodup_nil
     | some J=>
      have:ih J o.T=tail (u h.objs.size j f):=Option.some.inj eT
      rw [←this]
      exact Ea C.nd
    ·obtain ⟨q,P,rfl⟩:=List.mem_map.mp ha
     obtain ⟨p,g,rfl⟩:=List.mem_map.mp hb
     exact tn p g q (List.mem_append_right _ P)) trivial (Nat.zero_le _) D
 intro Γ p hΓ
 have y:=z Γ p hΓ
 rw [Sem.wp_bind] at y
 exact Sem.wp_mono _ Γ _ (fun v p' s' q=>q v rfl) (fun _ _ _ q=>q) p _ y
theorem bt {b c:Bool} {w:Yc} {m:Nat} {α : Type} {t:Sem α} {enc : α→Flow} (s:∀{a b : α},enc a=enc b→a=b) {need:Ya} {val:Ye→α} {objs:Ye→Yf} {ads tail:Ye→Ya} {orcs:List aH} (A:∀o∈orcs,o.Sure (B0 (W b c w)) m)
  (g L:Nat) (j d:Yh) (k:Option Nat) (q:Nat→Nat→(Nat→Oc)→Nat→Nat) (x:d.Nodup:=by decide) (B:k.elim True (fun k=>∀i∈d,i<k):=by exact trivial) (y:k=none→∀a,tail a=[]:=by exact fun _ _=>rfl) (z:∀a,(objs a).length=need.length:=by intro _;kernel_rfl)
  (E:∀n p f,ii (mX b c w orcs g j L f t enc need n p) d k need (enc (val (q n p f))) (objs (q n p f)) (ads (q n p f)) (tail (q n p f)):=by intro n p f;delta ii;kernel_rfl):aI (B0 (W b c w)) (m+1) t need fun a=>(val a,objs a,ads a++tail a):=by
 have h:=mY (tail:=tail) s [] (fun o u=>(A o u).toF []) g L j d k q x B y z E
 rw [List.append_nil] at h
 have e:(fun a=>(val a,objs a++bH [],ads a++tail a))=fun a=>(val a,objs a,ads a++tail a):=funext fun a=>by
  show (val a,objs a++[],ads a++tail a)=_
  rw [List.append_nil]
 rw [e] at h
 exact h
def Ec (v:Flow):aH:={code:=fun _=>.call .none ⟨[],[]⟩,strm:=true,out:=fun _ _=>(v,[],[])}
def ff (c:Code) (h f a g:Nat):Code:=match c with
 | .compStart e d _ _ b=>.compStart e d (.ref h) (.ref f) {b with locals:=a,frame:=some g}
 | c=>c
def d0 (c:Code) (h f a g:Nat):Code:=match c with
 | .compStart e d _ _ b=>.compLoop e d (.ref h) (.ref f) {b with locals:=a,frame:=some g}
 | c=>c
section
open PySem.Builtin PySem.Builtin.Str
section
variable {B:bf} {m:Nat}
def i2 (id:String) (x y:Int) (v:Ye→Yd):aH:=bs id (fun p=>[.int x (p 0 0),.int y (p 0 1)]) fun _ a=>v a
theorem lk {id:String} {c:Str} {F:Builtin} {x y:Int} {e:af→Made} {v:Ye→Yd} (b:Slot "int" c id)
  (a:entryFor table id=some F) (d:∀p:af,argsOk id ⟨[.int x (p 0 0),.int y (p 0 1)],[]⟩) (g:∀p:af,Gives (F ⟨[.int x (p 0 0),.int y (p 0 1)],[]⟩) (e p))
  (i:∀p s (Q:Yd→Shared→Prop),(∀j k,Q (v j) {s with toks:=k})→(e p).post Q s):(i2 id x y v).Sure B m:=
 jX fun p _ s Q _ h=>call_gives b (typeIs_int s _ _) a (d p) (g p) (i p s Q h)
theorem aM {x y z:Int} (e:x.fmod y=z) (a:¬(y==0)=true:=by decide):(i2 "int.__mod__" x y fun b=>.int z (b 0)).Sure B m:=
 lk F.slot_int_mod F.entry_int_mod (fun _=>F.args_int_mod_2 _ _) (fun _=>AutoIntG6.int___mod___int_int_1 _ _ _ _ a) fun _ s _ h=>by
  rw [e];exact h (fun _=>s.toks) (s.toks+1)
theorem aO {x y z:Int} (e:x.fdiv y=z) (a:¬(y==0)=true:=by decide) (b:y.natAbs<1073741824:=by decide):(i2 "int.__floordiv__" x y fun c=>.int z (c 0)).Sure B m:=
 lk F.slot_int_floordiv F.entry_int_floordiv (fun _=>F.args_int_floordiv_2 _ _) (fun _=>AutoIntG4.int___floordiv___int_int_1 _ _ _ _ a (by rw [PyProof.noPylong_small b];decide)) fun _ s _ h=>by
  rw [e];exact h (fun _=>s.toks) (s.toks+1)
def b3 (x:Str) (i:Int) (z:Str):aH:=bs "str.__getitem__" (fun p=>[.str x (p 0 0),.int i (p 0 1)]) fun _ a=>.str z (a 0)
theorem Ed {x:Str} {i:Int} {c:Nat} {z:Str} (a:(decide (i < -(2 ^ 63:Int))||decide (i≥2 ^ 63))=false) (h:(seqIndex? i x.length).bind (x.cps[·]?)=some c) (e:(⟨#[c]⟩:Str)=z):(b3 x i z).Sure B m:=
 jX fun p _ s _ _ b=>call_gives F.slot_str_getitem (typeIs_str s _ _) F.entry_str_getitem (F.args_str_getitem_2 _ _) (gives_str_getitem x i (p 0 0) (p 0 1) c a h) ⟨by show 1≤sizeLine;decide,by rw [e];exact b (fun _=>s.toks) (s.toks+1)⟩
end
end
section
open PySem.Builtin PySem.Builtin.Str
def bK (i:Int) (z:Str):Prop:=∃c:Nat,(decide (i < -(2 ^ 63:Int))||decide (i≥2 ^ 63))=false∧(seqIndex? i ("a/.= é" : Str).length).bind (("a/.= é" : Str).cps[·]?)=some c∧(⟨#[c]⟩:Str)=z
theorem bK.sure {i:Int} {z:Str} (h:bK i z) {B:bf} {m:Nat}:(b3 "a/.= é" i z).Sure B m:=let ⟨_,a,b,c⟩:=h;Ed a b c
theorem Ee (b:Bool) (w:Yc) (x q:Int) (r g:Int) (c:x.fmod 2=0) (d:x.fdiv 2=q) (e:q.fdiv 1=r) (h:r.fmod 18=g) (i:g.fmod 3=0) (p:af):aC (B0 (W b false w)) 1 (.call (.ref 274) ⟨[.int x (p 0 0)],[]⟩) [] (fun a=>(.ret (.ref (a 0)),[],[(a 0,ab [.str "" (a 1)] 1)])):=
 aA (orcs:=[i2 "int.__mod__" x 2 fun a=>.int 0 (a 0),i2 "int.__floordiv__" x 2 fun a=>.int q (a 0),i2 "int.__floordiv__" q 1 fun a=>.int r (a 0),i2 "int.__mod__" r 18 fun a=>.int g (a 0),i2 "int.__mod__" g 3 fun a=>.int 0 (a 0)]) (aa (aM c) (aa (aO d) (aa (aO e) (aa (aM h) (aa (aM i) aq))))) 237 5 [0,0,1,0,0,0,1,0,0,0,1,2,0,0,16,0,0,0,0,0,79,4,4,0,4,0,29,4,4,4,0,4,0,80,4,4,4,5,0,5,0,5,0,81,5,5,5,5,4,5,4,1,0,1,3,1,0,0,83,4,5,2,1,1,3,3,3,3,0,0,2,6,0,0,0,0,0,79,6,6,0,6,0,29,6,6,6,0,6,0,80,6,6,6,7,0,7,7,0,7,0,84,7,0,7,0,7,0,81,7,7,7,11,9,0,0,27,8,8,0,3,0,26,3,2,3,0,5,0,5,0,81,5,5,5,13,0,1] [2] (fun n j f=>aB [n+2,(f 4).2.1+2])
theorem Ef (b:Bool) (w:Yc) (x q:Int) (r g:Int) (c:x.fmod 2=0) (d:x.fdiv 2=q) (e:q.fdiv 1=r) (h:r.fmod 18=g) (i:g.fmod 3=0) (p:af):aC (B0 (W b true w)) 1 (.call (.ref 274) ⟨[.int x (p 0 0)],[]⟩) [] (fun a=>(.ret (.ref (a 0)),[],[(a 0,ab [.str "" (a 1)] 1)])):=
 aA (orcs:=[i2 "int.__mod__" x 2 fun a=>.int 0 (a 0),i2 "int.__floordiv__" x 2 fun a=>.int q (a 0),i2 "int.__floordiv__" q 1 fun a=>.int r (a 0),i2 "int.__mod__" r 18 fun a=>.int g (a 0),i2 "int.__mod__" g 3 fun a=>.int 0 (a 0)]) (aa (aM c) (aa (aO d) (aa (aO e) (aa (aM h) (aa (aM i) aq))))) 227 5 [0,0,1,0,0,0,1,0,0,0,1,2,0,0,16,0,0,0,0,0,79,4,4,0,4,0,29,4,4,4,0,4,0,80,4,4,4,5,0,5,0,5,0,81,5,5,5,5,4,5,4,1,0,1,3,1,0,0,83,4,5,2,1,1,3,3,3,3,0,0,2,6,0,0,0,0,0,79,6,6,0,6,0,29,6,6,6,0,6,0,80,6,6,6,7,0,0,7,0,7,0,81,7,7,7,11,9,0,0,27,8,8,0,3,0,26,3,2,3,0,5,0,5,0,81,5,5,5,13,0,1] [2] (fun n j f=>aB [n+2,(f 4).2.1+2])
theorem Eg (b:Bool) (w:Yc) (x q:Int) (r g:Int) (h:Int) (d:Int) (c:Str) (e:Str) (u:x.fmod 2=0) (i:x.fdiv 2=q) (t:q.fdiv 1=r) (k:r.fmod 18=g) (z:g.fmod 3=1) (y:g.fdiv 3=h) (s:(h+0).fmod 6=d) (m:bK d c) (j:Txt.join "" [c]=e) (o:JoinOk "" [c]=true) (p:af):aC (B0 (W b false w)) 1 (.call (.ref 274) ⟨[.int x (p 0 0)],[]⟩) [] (fun a=>(.ret (.ref (a 0)),[],[(a 0,ab [.str e (a 1)] 1)])):=
 aA (orcs:=[i2 "int.__mod__" x 2 fun a=>.int 0 (a 0),i2 "int.__floordiv__" x 2 fun a=>.int q (a 0),i2 "int.__floordiv__" q 1 fun a=>.int r (a 0),i2 "int.__mod__" r 18 fun a=>.int g (a 0),i2 "int.__mod__" g 3 fun a=>.int 1 (a 0),i2 "int.__floordiv__" g 3 fun a=>.int h (a 0),i2 "int.__mod__" (h+0) 6 fun a=>.int d (a 0),b3 "a/.= é" d c,bx 7 "" [c] e]) (aa (aM u) (aa (aO i) (aa (aO t) (aa (aM k) (aa (aM z) (aa (aO y) (aa (aM s) (aa (m.sure) (aa (bB j o) aq))))))))) 283 9 [0,0,1,0,0,0,1,0,0,0,1,2,0,0,16,0,0,0,0,0,79,4,4,0,4,0,29,4,4,4,0,4,0,80,4,4,4,5,0,5,0,5,0,81,5,5,5,5,4,5,4,1,0,1,3,1,0,0,83,4,5,2,1,1,3,3,3,3,0,0,2,6,0,0,0,0,0,79,6,6,0,6,0,29,6,6,6,0,6,0,80,6,6,6,7,0,7,7,0,7,0,84,7,0,7,0,7,0,81,7,7,7,7,6,7,6,9,8,2,7,9,0,0,16,8,9,0,8,0,26,8,7,8,0,7,0,7,0,81,7,7,7,11,9,9,8,10,0,3,0,26,3,2,3,0,5,0,5,0,81,5,5,5,13,0,1] [2] (fun n A f=>aB [n+2,(f 8).2.2 0])
theorem Eh (b:Bool) (w:Yc) (x q:Int) (r g:Int) (h:Int) (d:Int) (c:Str) (e:Str) (u:x.fmod 2=0) (i:x.fdiv 2=q) (t:q.fdiv 1=r) (k:r.fmod 18=g) (z:g.fmod 3=1) (y:g.fdiv 3=h) (s:(h+0).fmod 6=d) (m:bK d c) (j:Txt.join "" [c]=e) (o:JoinOk "" [c]=true) (p:af):aC (B0 (W b true w)) 1 (.call (.ref 274) ⟨[.int x (p 0 0)],[]⟩) [] (fun a=>(.ret (.ref (a 0)),[],[(a 0,ab [.str e (a 1)] 1)])):=
 aA (orcs:=[i2 "int.__mod__" x 2 fun a=>.int 0 (a 0),i2 "int.__floordiv__" x 2 fun a=>.int q (a 0),i2 "int.__floordiv__" q 1 fun a=>.int r (a 0),i2 "int.__mod__" r 18 fun a=>.int g (a 0),i2 "int.__mod__" g 3 fun a=>.int 1 (a 0),i2 "int.__floordiv__" g 3 fun a=>.int h (a 0),i2 "int.__mod__" (h+0) 6 fun a=>.int d (a 0),b3 "a/.= é" d c,bx 7 "" [c] e]) (aa (aM u) (aa (aO i) (aa (aO t) (aa (aM k) (aa (aM z) (aa (aO y) (aa (aM s) (aa (m.sure) (aa (bB j o) aq))))))))) 273 9 [0,0,1,0,0,0,1,0,0,0,1,2,0,0,16,0,0,0,0,0,79,4,4,0,4,0,29,4,4,4,0,4,0,80,4,4,4,5,0,5,0,5,0,81,5,5,5,5,4,5,4,1,0,1,3,1,0,0,83,4,5,2,1,1,3,3,3,3,0,0,2,6,0,0,0,0,0,79,6,6,0,6,0,29,6,6,6,0,6,0,80,6,6,6,7,0,0,7,0,7,0,81,7,7,7,7,6,7,6,9,8,2,7,9,0,0,16,8,9,0,8,0,26,8,7,8,0,7,0,7,0,81,7,7,7,11,9,9,8,10,0,3,0,26,3,2,3,0,5,0,5,0,81,5,5,5,13,0,1] [2] (fun n A f=>aB [n+2,(f 8).2.2 0])
theorem Ei (b:Bool) (w:Yc) (x q:Int) (r g:Int) (h:Int) (i:Int) (d:Str) (e:Int) (c:Str) (k:Str) (A:x.fmod 2=0) (s:x.fdiv 2=q) (z:q.fdiv 1=r) (t:r.fmod 18=g) (D:g.fmod 3=2) (m:g.fdiv 3=h) (y:(h+0).fmod 6=i) (u:bK i d) (B:(h+1).fmod 6=e) (C:bK e c) (j:Txt.join "" [d,c]=k) (o:JoinOk "" [d,c]=true) (p:af):aC (B0 (W b false w)) 1 (.call (.ref 274) ⟨[.int x (p 0 0)],[]⟩) [] (fun a=>(.ret (.ref (a 0)),[],[(a 0,ab [.str k (a 1)] 1)])):=
 aA (orcs:=[i2 "int.__mod__" x 2 fun a=>.int 0 (a 0),i2 "int.__floordiv__" x 2 fun a=>.int q (a 0),i2 "int.__floordiv__" q 1 fun a=>.int r (a 0),i2 "int.__mod__" r 18 fun a=>.int g (a 0),i2 "int.__mod__" g 3 fun a=>.int 2 (a 0),i2 "int.__floordiv__" g 3 fun a=>.int h (a 0),i2 "int.__mod__" (h+0) 6 fun a=>.int i (a 0),b3 "a/.= é" i d,i2 "int.__floordiv__" g 3 fun a=>.int h (a 0),i2 "int.__mod__" (h+1) 6 fun a=>.int e (a 0),b3 "a/.= é" e c,bx 7 "" [d,c] k]) (aa (aM A) (aa (aO s) (aa (aO z) (aa (aM t) (aa (aM D) (aa (aO m) (aa (aM y) (aa (u.sure) (aa (aO m) (aa (aM B) (aa (C.sure) (aa (bB j o) aq)))))))))))) 330 12 [0,0,1,0,0,0,1,0,0,0,1,2,0,0,16,0,0,0,0,0,79,4,4,0,4,0,29,4,4,4,0,4,0,80,4,4,4,5,0,5,0,5,0,81,5,5,5,5,4,5,4,1,0,1,3,1,0,0,83,4,5,2,1,1,3,3,3,3,0,0,2,6,0,0,0,0,0,79,6,6,0,6,0,29,6,6,6,0,6,0,80,6,6,6,7,0,7,7,0,7,0,84,7,0,7,0,7,0,81,7,7,7,7,6,7,6,9,8,2,7,9,0,0,16,8,9,0,8,0,26,8,7,8,0,7,0,7,0,81,7,7,7,7,6,7,6,9,8,2,10,9,0,0,16,11,12,0,8,0,26,8,7,8,0,7,0,7,0,81,7,7,7,11,9,9,8,13,0,3,0,26,3,2,3,0,5,0,5,0,81,5,5,5,13,0,1] [2] (fun n E f=>aB [n+2,(f 11).2.2 0])
theorem Ej (b:Bool) (w:Yc) (x q:Int) (r g:Int) (h:Int) (i:Int) (d:Str) (e:Int) (c:Str) (k:Str) (A:x.fmod 2=0) (s:x.fdiv 2=q) (z:q.fdiv 1=r) (t:r.fmod 18=g) (D:g.fmod 3=2) (m:g.fdiv 3=h) (y:(h+0).fmod 6=i) (u:bK i d) (B:(h+1).fmod 6=e) (C:bK e c) (j:Txt.join "" [d,c]=k) (o:JoinOk "" [d,c]=true) (p:af):aC (B0 (W b true w)) 1 (.call (.ref 274) ⟨[.int x (p 0 0)],[]⟩) [] (fun a=>(.ret (.ref (a 0)),[],[(a 0,ab [.str k (a 1)] 1)])):=
 aA (orcs:=[i2 "int.__mod__" x 2 fun a=>.int 0 (a 0),i2 "int.__floordiv__" x 2 fun a=>.int q (a 0),i2 "int.__floordiv__" q 1 fun a=>.int r (a 0),i2 "int.__mod__" r 18 fun a=>.int g (a 0),i2 "int.__mod__" g 3 fun a=>.int 2 (a 0),i2 "int.__floordiv__" g 3 fun a=>.int h (a 0),i2 "int.__mod__" (h+0) 6 fun a=>.int i (a 0),b3 "a/.= é" i d,i2 "int.__floordiv__" g 3 fun a=>.int h (a 0),i2 "int.__mod__" (h+1) 6 fun a=>.int e (a 0),b3 "a/.= é" e c,bx 7 "" [d,c] k]) (aa (aM A) (aa (aO s) (aa (aO z) (aa (aM t) (aa (aM D) (aa (aO m) (aa (aM y) (aa (u.sure) (aa (aO m) (aa (aM B) (aa (C.sure) (aa (bB j o) aq)))))))))))) 320 12 [0,0,1,0,0,0,1,0,0,0,1,2,0,0,16,0,0,0,0,0,79,4,4,0,4,0,29,4,4,4,0,4,0,80,4,4,4,5,0,5,0,5,0,81,5,5,5,5,4,5,4,1,0,1,3,1,0,0,83,4,5,2,1,1,3,3,3,3,0,0,2,6,0,0,0,0,0,79,6,6,0,6,0,29,6,6,6,0,6,0,80,6,6,6,7,0,0,7,0,7,0,81,7,7,7,7,6,7,6,9,8,2,7,9,0,0,16,8,9,0,8,0,26,8,7,8,0,7,0,7,0,81,7,7,7,7,6,7,6,9,8,2,10,9,0,0,16,11,12,0,8,0,26,8,7,8,0,7,0,7,0,81,7,7,7,11,9,9,8,13,0,3,0,26,3,2,3,0,5,0,5,0,81,5,5,5,13,0,1] [2] (fun n E f=>aB [n+2,(f 11).2.2 0])
theorem Ek (b:Bool) (w:Yc) (x q:Int) (r g:Int) (d c:Int) (o:x.fmod 2=1) (j:x.fdiv 2=q) (m:q.fdiv 1=r) (k:r.fmod 18=g) (s:g.fmod 3=0) (e:q.fdiv 18=d) (h:d.fmod 18=c) (i:c.fmod 3=0) (p:af):aC (B0 (W b false w)) 1 (.call (.ref 274) ⟨[.int x (p 0 0)],[]⟩) [] (fun a=>(.ret (.ref (a 0)),[],[(a 0,ab [.str "" (a 1),.str "" (a 2)] 2)])):=
 aA (orcs:=[i2 "int.__mod__" x 2 fun a=>.int 1 (a 0),i2 "int.__floordiv__" x 2 fun a=>.int q (a 0),i2 "int.__floordiv__" q 1 fun a=>.int r (a 0),i2 "int.__mod__" r 18 fun a=>.int g (a 0),i2 "int.__mod__" g 3 fun a=>.int 0 (a 0),i2 "int.__floordiv__" x 2 fun a=>.int q (a 0),i2 "int.__floordiv__" q 18 fun a=>.int d (a 0),i2 "int.__mod__" d 18 fun a=>.int c (a 0),i2 "int.__mod__" c 3 fun a=>.int 0 (a 0)]) (aa (aM o) (aa (aO j) (aa (aO m) (aa (aM k) (aa (aM s) (aa (aO j) (aa (aO e) (aa (aM h) (aa (aM i) aq))))))))) 383 9 [0,0,1,0,0,0,1,0,0,0,1,2,0,0,16,0,0,0,0,0,79,4,4,0,4,0,29,4,4,4,0,4,0,80,4,4,4,5,0,5,0,5,0,81,5,5,5,5,4,5,4,1,0,1,3,1,0,0,83,4,5,2,1,1,3,3,3,3,0,0,2,6,0,0,0,0,0,79,6,6,0,6,0,29,6,6,6,0,6,0,80,6,6,6,7,0,7,7,0,7,0,84,7,0,7,0,7,0,81,7,7,7,11,9,0,0,27,8,8,0,3,0,26,3,2,3,0,5,0,5,0,81,5,5,5,5,4,5,4,1,0,1,7,1,0,0,83,8,9,2,1,1,3,3,3,3,0,0,2,10,0,0,0,0,0,79,12,12,0,12,0,29,12,12,12,0,12,0,80,12,12,12,13,0,13,13,0,13,0,84,13,0,13,0,13,0,81,13,13,13,17,15,0,0,27,14,14,0,3,0,26,3,2,3,0,5,0,5,0,81,5,5,5,19,0,1] [2] (fun n t f=>aB [n+2,(f 4).2.1+2,(f 8).2.1+2])
theorem El (b:Bool) (w:Yc) (x q:Int) (r g:Int) (d c:Int) (o:x.fmod 2=1) (j:x.fdiv 2=q) (m:q.fdiv 1=r) (k:r.fmod 18=g) (s:g.fmod 3=0) (e:q.fdiv 18=d) (h:d.fmod 18=c) (i:c.fmod 3=0) (p:af):aC (B0 (W b true w)) 1 (.call (.ref 274) ⟨[.int x (p 0 0)],[]⟩) [] (fun a=>(.ret (.ref (a 0)),[],[(a 0,ab [.str "" (a 1),.str "" (a 2)] 2)])):=
 aA (orcs:=[i2 "int.__mod__" x 2 fun a=>.int 1 (a 0),i2 "int.__floordiv__" x 2 fun a=>.int q (a 0),i2 "int.__floordiv__" q 1 fun a=>.int r (a 0),i2 "int.__mod__" r 18 fun a=>.int g (a 0),i2 "int.__mod__" g 3 fun a=>.int 0 (a 0),i2 "int.__floordiv__" x 2 fun a=>.int q (a 0),i2 "int.__floordiv__" q 18 fun a=>.int d (a 0),i2 "int.__mod__" d 18 fun a=>.int c (a 0),i2 "int.__mod__" c 3 fun a=>.int 0 (a 0)]) (aa (aM o) (aa (aO j) (aa (aO m) (aa (aM k) (aa (aM s) (aa (aO j) (aa (aO e) (aa (aM h) (aa (aM i) aq))))))))) 363 9 [0,0,1,0,0,0,1,0,0,0,1,2,0,0,16,0,0,0,0,0,79,4,4,0,4,0,29,4,4,4,0,4,0,80,4,4,4,5,0,5,0,5,0,81,5,5,5,5,4,5,4,1,0,1,3,1,0,0,83,4,5,2,1,1,3,3,3,3,0,0,2,6,0,0,0,0,0,79,6,6,0,6,0,29,6,6,6,0,6,0,80,6,6,6,7,0,0,7,0,7,0,81,7,7,7,11,9,0,0,27,8,8,0,3,0,26,3,2,3,0,5,0,5,0,81,5,5,5,5,4,5,4,1,0,1,7,1,0,0,83,8,9,2,1,1,3,3,3,3,0,0,2,10,0,0,0,0,0,79,12,12,0,12,0,29,12,12,12,0,12,0,80,12,12,12,13,0,0,13,0,13,0,81,13,13,13,17,15,0,0,27,14,14,0,3,0,26,3,2,3,0,5,0,5,0,81,5,5,5,19,0,1] [2] (fun n t f=>aB [n+2,(f 4).2.1+2,(f 8).2.1+2])
theorem Em (b:Bool) (w:Yc) (x q:Int) (r g:Int) (j h:Int) (i:Int) (d:Int) (c:Str) (e:Str) (C:x.fmod 2=1) (y:x.fdiv 2=q) (B:q.fdiv 1=r) (z:r.fmod 18=g) (E:g.fmod 3=0) (o:q.fdiv 18=j) (s:j.fmod 18=h) (u:h.fmod 3=1) (m:h.fdiv 3=i) (k:(i+0).fmod 6=d) (t:bK d c) (A:Txt.join "" [c]=e) (D:JoinOk "" [c]=true) (p:af):aC (B0 (W b false w)) 1 (.call (.ref 274) ⟨[.int x (p 0 0)],[]⟩) [] (fun a=>(.ret (.ref (a 0)),[],[(a 0,ab [.str "" (a 1),.str e (a 2)] 2)])):=
 aA (orcs:=[i2 "int.__mod__" x 2 fun a=>.int 1 (a 0),i2 "int.__floordiv__" x 2 fun a=>.int q (a 0),i2 "int.__floordiv__" q 1 fun a=>.int r (a 0),i2 "int.__mod__" r 18 fun a=>.int g (a 0),i2 "int.__mod__" g 3 fun a=>.int 0 (a 0),i2 "int.__floordiv__" x 2 fun a=>.int q (a 0),i2 "int.__floordiv__" q 18 fun a=>.int j (a 0),i2 "int.__mod__" j 18 fun a=>.int h (a 0),i2 "int.__mod__" h 3 fun a=>.int 1 (a 0),i2 "int.__floordiv__" h 3 fun a=>.int i (a 0),i2 "int.__mod__" (i+0) 6 fun a=>.int d (a 0),b3 "a/.= é" d c,bx 13 "" [c] e]) (aa (aM C) (aa (aO y) (aa (aO B) (aa (aM z) (aa (aM E) (aa (aO y) (aa (aO o) (aa (aM s) (aa (aM u) (aa (aO m) (aa (aM k) (aa (t.sure) (aa (bB A D) aq))))))))))))) 429 13 [0,0,1,0,0,0,1,0,0,0,1,2,0,0,16,0,0,0,0,0,79,4,4,0,4,0,29,4,4,4,0,4,0,80,4,4,4,5,0,5,0,5,0,81,5,5,5,5,4,5,4,1,0,1,3,1,0,0,83,4,5,2,1,1,3,3,3,3,0,0,2,6,0,0,0,0,0,79,6,6,0,6,0,29,6,6,6,0,6,0,80,6,6,6,7,0,7,7,0,7,0,84,7,0,7,0,7,0,81,7,7,7,11,9,0,0,27,8,8,0,3,0,26,3,2,3,0,5,0,5,0,81,5,5,5,5,4,5,4,1,0,1,7,1,0,0,83,8,9,2,1,1,3,3,3,3,0,0,2,10,0,0,0,0,0,79,12,12,0,12,0,29,12,12,12,0,12,0,80,12,12,12,13,0,13,13,0,13,0,84,13,0,13,0,13,0,81,13,13,13,13,12,13,12,15,14,2,11,15,0,0,16,12,13,0,14,0,26,14,13,14,0,13,0,13,0,81,13,13,13,17,15,15,14,14,0,3,0,26,3,2,3,0,5,0,5,0,81,5,5,5,19,0,1] [2] (fun n F f=>aB [n+2,(f 4).2.1+2,(f 12).2.2 0])
theorem Eo (b:Bool) (w:Yc) (x q:Int) (r g:Int) (j h:Int) (i:Int) (d:Int) (c:Str) (e:Str) (C:x.fmod 2=1) (y:x.fdiv 2=q) (B:q.fdiv 1=r) (z:r.fmod 18=g) (E:g.fmod 3=0) (o:q.fdiv 18=j) (s:j.fmod 18=h) (u:h.fmod 3=1) (m:h.fdiv 3=i) (k:(i+0).fmod 6=d) (t:bK d c) (A:Txt.join "" [c]=e) (D:JoinOk "" [c]=true) (p:af):aC (B0 (W b true w)) 1 (.call (.ref 274) ⟨[.int x (p 0 0)],[]⟩) [] (fun a=>(.ret (.ref (a 0)),[],[(a 0,ab [.str "" (a 1),.str e (a 2)] 2)])):=
 aA (orcs:=[i2 "int.__mod__" x 2 fun a=>.int 1 (a 0),i2 "int.__floordiv__" x 2 fun a=>.int q (a 0),i2 "int.__floordiv__" q 1 fun a=>.int r (a 0),i2 "int.__mod__" r 18 fun a=>.int g (a 0),i2 "int.__mod__" g 3 fun a=>.int 0 (a 0),i2 "int.__floordiv__" x 2 fun a=>.int q (a 0),i2 "int.__floordiv__" q 18 fun a=>.int j (a 0),i2 "int.__mod__" j 18 fun a=>.int h (a 0),i2 "int.__mod__" h 3 fun a=>.int 1 (a 0),i2 "int.__floordiv__" h 3 fun a=>.int i (a 0),i2 "int.__mod__" (i+0) 6 fun a=>.int d (a 0),b3 "a/.= é" d c,bx 13 "" [c] e]) (aa (aM C) (aa (aO y) (aa (aO B) (aa (aM z) (aa (aM E) (aa (aO y) (aa (aO o) (aa (aM s) (aa (aM u) (aa (aO m) (aa (aM k) (aa (t.sure) (aa (bB A D) aq))))))))))))) 409 13 [0,0,1,0,0,0,1,0,0,0,1,2,0,0,16,0,0,0,0,0,79,4,4,0,4,0,29,4,4,4,0,4,0,80,4,4,4,5,0,5,0,5,0,81,5,5,5,5,4,5,4,1,0,1,3,1,0,0,83,4,5,2,1,1,3,3,3,3,0,0,2,6,0,0,0,0,0,79,6,6,0,6,0,29,6,6,6,0,6,0,80,6,6,6,7,0,0,7,0,7,0,81,7,7,7,11,9,0,0,27,8,8,0,3,0,26,3,2,3,0,5,0,5,0,81,5,5,5,5,4,5,4,1,0,1,7,1,0,0,83,8,9,2,1,1,3,3,3,3,0,0,2,10,0,0,0,0,0,79,12,12,0,12,0,29,12,12,12,0,12,0,80,12,12,12,13,0,0,13,0,13,0,81,13,13,13,13,12,13,12,15,14,2,11,15,0,0,16,12,13,0,14,0,26,14,13,14,0,13,0,13,0,81,13,13,13,17,15,15,14,14,0,3,0,26,3,2,3,0,5,0,5,0,81,5,5,5,19,0,1] [2] (fun n F f=>aB [n+2,(f 4).2.1+2,(f 12).2.2 0])
theorem Ep (b:Bool) (w:Yc) (x q:Int) (r g:Int) (o k:Int) (i:Int) (h:Int) (d:Str) (e:Int) (c:Str) (j:Str) (G:x.fmod 2=1) (C:x.fdiv 2=q) (F:q.fdiv 1=r) (D:r.fmod 18=g) (I:g.fmod 3=0) (t:q.fdiv 18=o) (u:o.fmod 18=k) (A:k.fmod 3=2) (m:k.fdiv 3=i) (s:(i+0).fmod 6=h) (z:bK h d) (y:(i+1).fmod 6=e) (B:bK e c) (E:Txt.join "" [d,c]=j) (H:JoinOk "" [d,c]=true) (p:af):aC (B0 (W b false w)) 1 (.call (.ref 274) ⟨[.int x (p 0 0)],[]⟩) [] (fun a=>(.ret (.ref (a 0)),[],[(a 0,ab [.str "" (a 1),.str j (a 2)] 2)])):=
 aA (orcs:=[i2 "int.__mod__" x 2 fun a=>.int 1 (a 0),i2 "int.__floordiv__" x 2 fun a=>.int q (a 0),i2 "int.__floordiv__" q 1 fun a=>.int r (a 0),i2 "int.__mod__" r 18 fun a=>.int g (a 0),i2 "int.__mod__" g 3 fun a=>.int 0 (a 0),i2 "int.__floordiv__" x 2 fun a=>.int q (a 0),i2 "int.__floordiv__" q 18 fun a=>.int o (a 0),i2 "int.__mod__" o 18 fun a=>.int k (a 0),i2 "int.__mod__" k 3 fun a=>.int 2 (a 0),i2 "int.__floordiv__" k 3 fun a=>.int i (a 0),i2 "int.__mod__" (i+0) 6 fun a=>.int h (a 0),b3 "a/.= é" h d,i2 "int.__floordiv__" k 3 fun a=>.int i (a 0),i2 "int.__mod__" (i+1) 6 fun a=>.int e (a 0),b3 "a/.= é" e c,bx 13 "" [d,c] j]) (aa (aM G) (aa (aO C) (aa (aO F) (aa (aM D) (aa (aM I) (aa (aO C) (aa (aO t) (aa (aM u) (aa (aM A) (aa (aO m) (aa (aM s) (aa (z.sure) (aa (aO m) (aa (aM y) (aa (B.sure) (aa (bB E H) aq)))))))))))))))) 476 16 [0,0,1,0,0,0,1,0,0,0,1,2,0,0,16,0,0,0,0,0,79,4,4,0,4,0,29,4,4,4,0,4,0,80,4,4,4,5,0,5,0,5,0,81,5,5,5,5,4,5,4,1,0,1,3,1,0,0,83,4,5,2,1,1,3,3,3,3,0,0,2,6,0,0,0,0,0,79,6,6,0,6,0,29,6,6,6,0,6,0,80,6,6,6,7,0,7,7,0,7,0,84,7,0,7,0,7,0,81,7,7,7,11,9,0,0,27,8,8,0,3,0,26,3,2,3,0,5,0,5,0,81,5,5,5,5,4,5,4,1,0,1,7,1,0,0,83,8,9,2,1,1,3,3,3,3,0,0,2,10,0,0,0,0,0,79,12,12,0,12,0,29,12,12,12,0,12,0,80,12,12,12,13,0,13,13,0,13,0,84,13,0,13,0,13,0,81,13,13,13,13,12,13,12,15,14,2,11,15,0,0,16,12,13,0,14,0,26,14,13,14,0,13,0,13,0,81,13,13,13,13,12,13,12,15,14,2,14,15,0,0,16,15,16,0,14,0,26,14,13,14,0,13,0,13,0,81,13,13,13,17,15,15,14,17,0,3,0,26,3,2,3,0,5,0,5,0,81,5,5,5,19,0,1] [2] (fun n J f=>aB [n+2,(f 4).2.1+2,(f 15).2.2 0])
theorem Eq (b:Bool) (w:Yc) (x q:Int) (r g:Int) (o k:Int) (i:Int) (h:Int) (d:Str) (e:Int) (c:Str) (j:Str) (G:x.fmod 2=1) (C:x.fdiv 2=q) (F:q.fdiv 1=r) (D:r.fmod 18=g) (I:g.fmod 3=0) (t:q.fdiv 18=o) (u:o.fmod 18=k) (A:k.fmod 3=2) (m:k.fdiv 3=i) (s:(i+0).fmod 6=h) (z:bK h d) (y:(i+1).fmod 6=e) (B:bK e c) (E:Txt.join "" [d,c]=j) (H:JoinOk "" [d,c]=true) (p:af):aC (B0 (W b true w)) 1 (.call (.ref 274) ⟨[.int x (p 0 0)],[]⟩) [] (fun a=>(.ret (.ref (a 0)),[],[(a 0,ab [.str "" (a 1),.str j (a 2)] 2)])):=
 aA (orcs:=[i2 "int.__mod__" x 2 fun a=>.int 1 (a 0),i2 "int.__floordiv__" x 2 fun a=>.int q (a 0),i2 "int.__floordiv__" q 1 fun a=>.int r (a 0),i2 "int.__mod__" r 18 fun a=>.int g (a 0),i2 "int.__mod__" g 3 fun a=>.int 0 (a 0),i2 "int.__floordiv__" x 2 fun a=>.int q (a 0),i2 "int.__floordiv__" q 18 fun a=>.int o (a 0),i2 "int.__mod__" o 18 fun a=>.int k (a 0),i2 "int.__mod__" k 3 fun a=>.int 2 (a 0),i2 "int.__floordiv__" k 3 fun a=>.int i (a 0),i2 "int.__mod__" (i+0) 6 fun a=>.int h (a 0),b3 "a/.= é" h d,i2 "int.__floordiv__" k 3 fun a=>.int i (a 0),i2 "int.__mod__" (i+1) 6 fun a=>.int e (a 0),b3 "a/.= é" e c,bx 13 "" [d,c] j]) (aa (aM G) (aa (aO C) (aa (aO F) (aa (aM D) (aa (aM I) (aa (aO C) (aa (aO t) (aa (aM u) (aa (aM A) (aa (aO m) (aa (aM s) (aa (z.sure) (aa (aO m) (aa (aM y) (aa (B.sure) (aa (bB E H) aq)))))))))))))))) 456 16 [0,0,1,0,0,0,1,0,0,0,1,2,0,0,16,0,0,0,0,0,79,4,4,0,4,0,29,4,4,4,0,4,0,80,4,4,4,5,0,5,0,5,0,81,5,5,5,5,4,5,4,1,0,1,3,1,0,0,83,4,5,2,1,1,3,3,3,3,0,0,2,6,0,0,0,0,0,79,6,6,0,6,0,29,6,6,6,0,6,0,80,6,6,6,7,0,0,7,0,7,0,81,7,7,7,11,9,0,0,27,8,8,0,3,0,26,3,2,3,0,5,0,5,0,81,5,5,5,5,4,5,4,1,0,1,7,1,0,0,83,8,9,2,1,1,3,3,3,3,0,0,2,10,0,0,0,0,0,79,12,12,0,12,0,29,12,12,12,0,12,0,80,12,12,12,13,0,0,13,0,13,0,81,13,13,13,13,12,13,12,15,14,2,11,15,0,0,16,12,13,0,14,0,26,14,13,14,0,13,0,13,0,81,13,13,13,13,12,13,12,15,14,2,14,15,0,0,16,15,16,0,14,0,26,14,13,14,0,13,0,13,0,81,13,13,13,17,15,15,14,17,0,3,0,26,3,2,3,0,5,0,5,0,81,5,5,5,19,0,1] [2] (fun n J f=>aB [n+2,(f 4).2.1+2,(f 15).2.2 0])
theorem Es (b:Bool) (w:Yc) (x q:Int) (r g:Int) (h:Int) (i:Int) (c:Str) (s:Str) (e d:Int) (C:x.fmod 2=1) (u:x.fdiv 2=q) (B:q.fdiv 1=r) (y:r.fmod 18=g) (E:g.fmod 3=1) (D:g.fdiv 3=h) (A:(h+0).fmod 6=i) (z:bK i c) (j:Txt.join "" [c]=s) (o:JoinOk "" [c]=true) (k:q.fdiv 18=e) (m:e.fmod 18=d) (t:d.fmod 3=0) (p:af):aC (B0 (W b false w)) 1 (.call (.ref 274) ⟨[.int x (p 0 0)],[]⟩) [] (fun a=>(.ret (.ref (a 0)),[],[(a 0,ab [.str s (a 1),.str "" (a 2)] 2)])):=
 aA (orcs:=[i2 "int.__mod__" x 2 fun a=>.int 1 (a 0),i2 "int.__floordiv__" x 2 fun a=>.int q (a 0),i2 "int.__floordiv__" q 1 fun a=>.int r (a 0),i2 "int.__mod__" r 18 fun a=>.int g (a 0),i2 "int.__mod__" g 3 fun a=>.int 1 (a 0),i2 "int.__floordiv__" g 3 fun a=>.int h (a 0),i2 "int.__mod__" (h+0) 6 fun a=>.int i (a 0),b3 "a/.= é" i c,bx 7 "" [c] s,i2 "int.__floordiv__" x 2 fun a=>.int q (a 0),i2 "int.__floordiv__" q 18 fun a=>.int e (a 0),i2 "int.__mod__" e 18 fun a=>.int d (a 0),i2 "int.__mod__" d 3 fun a=>.int 0 (a 0)]) (aa (aM C) (aa (aO u) (aa (aO B) (aa (aM y) (aa (aM E) (aa (aO D) (aa (aM A) (aa (z.sure) (aa (bB j o) (aa (aO u) (aa (aO k) (aa (aM m) (aa (aM t) aq))))))))))))) 429 13 [0,0,1,0,0,0,1,0,0,0,1,2,0,0,16,0,0,0,0,0,79,4,4,0,4,0,29,4,4,4,0,4,0,80,4,4,4,5,0,5,0,5,0,81,5,5,5,5,4,5,4,1,0,1,3,1,0,0,83,4,5,2,1,1,3,3,3,3,0,0,2,6,0,0,0,0,0,79,6,6,0,6,0,29,6,6,6,0,6,0,80,6,6,6,7,0,7,7,0,7,0,84,7,0,7,0,7,0,81,7,7,7,7,6,7,6,9,8,2,7,9,0,0,16,8,9,0,8,0,26,8,7,8,0,7,0,7,0,81,7,7,7,11,9,9,8,10,0,3,0,26,3,2,3,0,5,0,5,0,81,5,5,5,5,4,5,4,1,0,1,11,1,0,0,83,12,13,2,1,1,3,3,3,3,0,0,2,14,0,0,0,0,0,79,12,12,0,12,0,29,12,12,12,0,12,0,80,12,12,12,13,0,13,13,0,13,0,84,13,0,13,0,13,0,81,13,13,13,17,15,0,0,27,14,14,0,3,0,26,3,2,3,0,5,0,5,0,81,5,5,5,19,0,1] [2] (fun n F f=>aB [n+2,(f 8).2.2 0,(f 12).2.1+2])
theorem Et (b:Bool) (w:Yc) (x q:Int) (r g:Int) (h:Int) (i:Int) (c:Str) (s:Str) (e d:Int) (C:x.fmod 2=1) (u:x.fdiv 2=q) (B:q.fdiv 1=r) (y:r.fmod 18=g) (E:g.fmod 3=1) (D:g.fdiv 3=h) (A:(h+0).fmod 6=i) (z:bK i c) (j:Txt.join "" [c]=s) (o:JoinOk "" [c]=true) (k:q.fdiv 18=e) (m:e.fmod 18=d) (t:d.fmod 3=0) (p:af):aC (B0 (W b true w)) 1 (.call (.ref 274) ⟨[.int x (p 0 0)],[]⟩) [] (fun a=>(.ret (.ref (a 0)),[],[(a 0,ab [.str s (a 1),.str "" (a 2)] 2)])):=
 aA (orcs:=[i2 "int.__mod__" x 2 fun a=>.int 1 (a 0),i2 "int.__floordiv__" x 2 fun a=>.int q (a 0),i2 "int.__floordiv__" q 1 fun a=>.int r (a 0),i2 "int.__mod__" r 18 fun a=>.int g (a 0),i2 "int.__mod__" g 3 fun a=>.int 1 (a 0),i2 "int.__floordiv__" g 3 fun a=>.int h (a 0),i2 "int.__mod__" (h+0) 6 fun a=>.int i (a 0),b3 "a/.= é" i c,bx 7 "" [c] s,i2 "int.__floordiv__" x 2 fun a=>.int q (a 0),i2 "int.__floordiv__" q 18 fun a=>.int e (a 0),i2 "int.__mod__" e 18 fun a=>.int d (a 0),i2 "int.__mod__" d 3 fun a=>.int 0 (a 0)]) (aa (aM C) (aa (aO u) (aa (aO B) (aa (aM y) (aa (aM E) (aa (aO D) (aa (aM A) (aa (z.sure) (aa (bB j o) (aa (aO u) (aa (aO k) (aa (aM m) (aa (aM t) aq))))))))))))) 409 13 [0,0,1,0,0,0,1,0,0,0,1,2,0,0,16,0,0,0,0,0,79,4,4,0,4,0,29,4,4,4,0,4,0,80,4,4,4,5,0,5,0,5,0,81,5,5,5,5,4,5,4,1,0,1,3,1,0,0,83,4,5,2,1,1,3,3,3,3,0,0,2,6,0,0,0,0,0,79,6,6,0,6,0,29,6,6,6,0,6,0,80,6,6,6,7,0,0,7,0,7,0,81,7,7,7,7,6,7,6,9,8,2,7,9,0,0,16,8,9,0,8,0,26,8,7,8,0,7,0,7,0,81,7,7,7,11,9,9,8,10,0,3,0,26,3,2,3,0,5,0,5,0,81,5,5,5,5,4,5,4,1,0,1,11,1,0,0,83,12,13,2,1,1,3,3,3,3,0,0,2,14,0,0,0,0,0,79,12,12,0,12,0,29,12,12,12,0,12,0,80,12,12,12,13,0,0,13,0,13,0,81,13,13,13,17,15,0,0,27,14,14,0,3,0,26,3,2,3,0,5,0,5,0,81,5,5,5,19,0,1] [2] (fun n F f=>aB [n+2,(f 8).2.2 0,(f 12).2.1+2])
theorem Eu (b:Bool) (w:Yc) (x q:Int) (r g:Int) (h:Int) (t:Int) (k:Str) (B:Str) (s i:Int) (m:Int) (d:Int) (c:Str) (e:Str) (K:x.fmod 2=1) (E:x.fdiv 2=q) (J:q.fdiv 1=r) (F:r.fmod 18=g) (O:g.fmod 3=1) (N:g.fdiv 3=h) (I:(h+0).fmod 6=t) (G:bK t k) (j:Txt.join "" [k]=B) (o:JoinOk "" [k]=true) (z:q.fdiv 18=s) (A:s.fmod 18=i) (D:i.fmod 3=1) (y:i.fdiv 3=m) (u:(m+0).fmod 6=d) (C:bK d c) (H:Txt.join "" [c]=e) (L:JoinOk "" [c]=true) (p:af):aC (B0 (W b false w)) 1 (.call (.ref 274) ⟨[.int x (p 0 0)],[]⟩) [] (fun a=>(.ret (.ref (a 0)),[],[(a 0,ab [.str B (a 1),.str e (a 2)] 2)])):=
 aA (orcs:=[i2 "int.__mod__" x 2 fun a=>.int 1 (a 0),i2 "int.__floordiv__" x 2 fun a=>.int q (a 0),i2 "int.__floordiv__" q 1 fun a=>.int r (a 0),i2 "int.__mod__" r 18 fun a=>.int g (a 0),i2 "int.__mod__" g 3 fun a=>.int 1 (a 0),i2 "int.__floordiv__" g 3 fun a=>.int h (a 0),i2 "int.__mod__" (h+0) 6 fun a=>.int t (a 0),b3 "a/.= é" t k,bx 7 "" [k] B,i2 "int.__floordiv__" x 2 fun a=>.int q (a 0),i2 "int.__floordiv__" q 18 fun a=>.int s (a 0),i2 "int.__mod__" s 18 fun a=>.int i (a 0),i2 "int.__mod__" i 3 fun a=>.int 1 (a 0),i2 "int.__floordiv__" i 3 fun a=>.int m (a 0),i2 "int.__mod__" (m+0) 6 fun a=>.int d (a 0),b3 "a/.= é" d c,bx 13 "" [c] e]) (aa (aM K) (aa (aO E) (aa (aO J) (aa (aM F) (aa (aM O) (aa (aO N) (aa (aM I) (aa (G.sure) (aa (bB j o) (aa (aO E) (aa (aO z) (aa (aM A) (aa (aM D) (aa (aO y) (aa (aM u) (aa (C.sure) (aa (bB H L) aq))))))))))))))))) 475 17 [0,0,1,0,0,0,1,0,0,0,1,2,0,0,16,0,0,0,0,0,79,4,4,0,4,0,29,4,4,4,0,4,0,80,4,4,4,5,0,5,0,5,0,81,5,5,5,5,4,5,4,1,0,1,3,1,0,0,83,4,5,2,1,1,3,3,3,3,0,0,2,6,0,0,0,0,0,79,6,6,0,6,0,29,6,6,6,0,6,0,80,6,6,6,7,0,7,7,0,7,0,84,7,0,7,0,7,0,81,7,7,7,7,6,7,6,9,8,2,7,9,0,0,16,8,9,0,8,0,26,8,7,8,0,7,0,7,0,81,7,7,7,11,9,9,8,10,0,3,0,26,3,2,3,0,5,0,5,0,81,5,5,5,5,4,5,4,1,0,1,11,1,0,0,83,12,13,2,1,1,3,3,3,3,0,0,2,14,0,0,0,0,0,79,12,12,0,12,0,29,12,12,12,0,12,0,80,12,12,12,13,0,13,13,0,13,0,84,13,0,13,0,13,0,81,13,13,13,13,12,13,12,15,14,2,15,15,0,0,16,16,17,0,14,0,26,14,13,14,0,13,0,13,0,81,13,13,13,17,15,15,14,18,0,3,0,26,3,2,3,0,5,0,5,0,81,5,5,5,19,0,1] [2] (fun n P f=>aB [n+2,(f 8).2.2 0,(f 16).2.2 0])
theorem Ev (b:Bool) (w:Yc) (x q:Int) (r g:Int) (h:Int) (t:Int) (k:Str) (B:Str) (s i:Int) (m:Int) (d:Int) (c:Str) (e:Str) (K:x.fmod 2=1) (E:x.fdiv 2=q) (J:q.fdiv 1=r) (F:r.fmod 18=g) (O:g.fmod 3=1) (N:g.fdiv 3=h) (I:(h+0).fmod 6=t) (G:bK t k) (j:Txt.join "" [k]=B) (o:JoinOk "" [k]=true) (z:q.fdiv 18=s) (A:s.fmod 18=i) (D:i.fmod 3=1) (y:i.fdiv 3=m) (u:(m+0).fmod 6=d) (C:bK d c) (H:Txt.join "" [c]=e) (L:JoinOk "" [c]=true) (p:af):aC (B0 (W b true w)) 1 (.call (.ref 274) ⟨[.int x (p 0 0)],[]⟩) [] (fun a=>(.ret (.ref (a 0)),[],[(a 0,ab [.str B (a 1),.str e (a 2)] 2)])):=
 aA (orcs:=[i2 "int.__mod__" x 2 fun a=>.int 1 (a 0),i2 "int.__floordiv__" x 2 fun a=>.int q (a 0),i2 "int.__floordiv__" q 1 fun a=>.int r (a 0),i2 "int.__mod__" r 18 fun a=>.int g (a 0),i2 "int.__mod__" g 3 fun a=>.int 1 (a 0),i2 "int.__floordiv__" g 3 fun a=>.int h (a 0),i2 "int.__mod__" (h+0) 6 fun a=>.int t (a 0),b3 "a/.= é" t k,bx 7 "" [k] B,i2 "int.__floordiv__" x 2 fun a=>.int q (a 0),i2 "int.__floordiv__" q 18 fun a=>.int s (a 0),i2 "int.__mod__" s 18 fun a=>.int i (a 0),i2 "int.__mod__" i 3 fun a=>.int 1 (a 0),i2 "int.__floordiv__" i 3 fun a=>.int m (a 0),i2 "int.__mod__" (m+0) 6 fun a=>.int d (a 0),b3 "a/.= é" d c,bx 13 "" [c] e]) (aa (aM K) (aa (aO E) (aa (aO J) (aa (aM F) (aa (aM O) (aa (aO N) (aa (aM I) (aa (G.sure) (aa (bB j o) (aa (aO E) (aa (aO z) (aa (aM A) (aa (aM D) (aa (aO y) (aa (aM u) (aa (C.sure) (aa (bB H L) aq))))))))))))))))) 455 17 [0,0,1,0,0,0,1,0,0,0,1,2,0,0,16,0,0,0,0,0,79,4,4,0,4,0,29,4,4,4,0,4,0,80,4,4,4,5,0,5,0,5,0,81,5,5,5,5,4,5,4,1,0,1,3,1,0,0,83,4,5,2,1,1,3,3,3,3,0,0,2,6,0,0,0,0,0,79,6,6,0,6,0,29,6,6,6,0,6,0,80,6,6,6,7,0,0,7,0,7,0,81,7,7,7,7,6,7,6,9,8,2,7,9,0,0,16,8,9,0,8,0,26,8,7,8,0,7,0,7,0,81,7,7,7,11,9,9,8,10,0,3,0,26,3,2,3,0,5,0,5,0,81,5,5,5,5,4,5,4,1,0,1,11,1,0,0,83,12,13,2,1,1,3,3,3,3,0,0,2,14,0,0,0,0,0,79,12,12,0,12,0,29,12,12,12,0,12,0,80,12,12,12,13,0,0,13,0,13,0,81,13,13,13,13,12,13,12,15,14,2,15,15,0,0,16,16,17,0,14,0,26,14,13,14,0,13,0,13,0,81,13,13,13,17,15,15,14,18,0,3,0,26,3,2,3,0,5,0,5,0,81,5,5,5,19,0,1] [2] (fun n P f=>aB [n+2,(f 8).2.2 0,(f 16).2.2 0])
theorem Ew (b:Bool) (w:Yc) (x q:Int) (r g:Int) (h:Int) (z:Int) (u:Str) (E:Str) (y s:Int) (k:Int) (i:Int) (d:Str) (e:Int) (c:Str) (m:Str) (P:x.fmod 2=1) (I:x.fdiv 2=q) (O:q.fdiv 1=r) (J:r.fmod 18=g) (S:g.fmod 3=1) (R:g.fdiv 3=h) (N:(h+0).fmod 6=z) (K:bK z u) (j:Txt.join "" [u]=E) (o:JoinOk "" [u]=true) (B:q.fdiv 18=y) (C:y.fmod 18=s) (G:s.fmod 3=2) (t:s.fdiv 3=k) (A:(k+0).fmod 6=i) (F:bK i d) (D:(k+1).fmod 6=e) (H:bK e c) (L:Txt.join "" [d,c]=m) (Q:JoinOk "" [d,c]=true) (p:af):aC (B0 (W b false w)) 1 (.call (.ref 274) ⟨[.int x (p 0 0)],[]⟩) [] (fun a=>(.ret (.ref (a 0)),[],[(a 0,ab [.str E (a 1),.str m (a 2)] 2)])):=
 aA (orcs:=[i2 "int.__mod__" x 2 fun a=>.int 1 (a 0),i2 "int.__floordiv__" x 2 fun a=>.int q (a 0),i2 "int.__floordiv__" q 1 fun a=>.int r (a 0),i2 "int.__mod__" r 18 fun a=>.int g (a 0),i2 "int.__mod__" g 3 fun a=>.int 1 (a 0),i2 "int.__floordiv__" g 3 fun a=>.int h (a 0),i2 "int.__mod__" (h+0) 6 fun a=>.int z (a 0),b3 "a/.= é" z u,bx 7 "" [u] E,i2 "int.__floordiv__" x 2 fun a=>.int q (a 0),i2 "int.__floordiv__" q 18 fun a=>.int y (a 0),i2 "int.__mod__" y 18 fun a=>.int s (a 0),i2 "int.__mod__" s 3 fun a=>.int 2 (a 0),i2 "int.__floordiv__" s 3 fun a=>.int k (a 0),i2 "int.__mod__" (k+0) 6 fun a=>.int i (a 0),b3 "a/.= é" i d,i2 "int.__floordiv__" s 3 fun a=>.int k (a 0),i2 "int.__mod__" (k+1) 6 fun a=>.int e (a 0),b3 "a/.= é" e c,bx 13 "" [d,c] m]) (aa (aM P) (aa (aO I) (aa (aO O) (aa (aM J) (aa (aM S) (aa (aO R) (aa (aM N) (aa (K.sure) (aa (bB j o) (aa (aO I) (aa (aO B) (aa (aM C) (aa (aM G) (aa (aO t) (aa (aM A) (aa (F.sure) (aa (aO t) (aa (aM D) (aa (H.sure) (aa (bB L Q) aq)))))))))))))))))))) 522 20 [0,0,1,0,0,0,1,0,0,0,1,2,0,0,16,0,0,0,0,0,79,4,4,0,4,0,29,4,4,4,0,4,0,80,4,4,4,5,0,5,0,5,0,81,5,5,5,5,4,5,4,1,0,1,3,1,0,0,83,4,5,2,1,1,3,3,3,3,0,0,2,6,0,0,0,0,0,79,6,6,0,6,0,29,6,6,6,0,6,0,80,6,6,6,7,0,7,7,0,7,0,84,7,0,7,0,7,0,81,7,7,7,7,6,7,6,9,8,2,7,9,0,0,16,8,9,0,8,0,26,8,7,8,0,7,0,7,0,81,7,7,7,11,9,9,8,10,0,3,0,26,3,2,3,0,5,0,5,0,81,5,5,5,5,4,5,4,1,0,1,11,1,0,0,83,12,13,2,1,1,3,3,3,3,0,0,2,14,0,0,0,0,0,79,12,12,0,12,0,29,12,12,12,0,12,0,80,12,12,12,13,0,13,13,0,13,0,84,13,0,13,0,13,0,81,13,13,13,13,12,13,12,15,14,2,15,15,0,0,16,16,17,0,14,0,26,14,13,14,0,13,0,13,0,81,13,13,13,13,12,13,12,15,14,2,18,15,0,0,16,19,20,0,14,0,26,14,13,14,0,13,0,13,0,81,13,13,13,17,15,15,14,21,0,3,0,26,3,2,3,0,5,0,5,0,81,5,5,5,19,0,1] [2] (fun n T f=>aB [n+2,(f 8).2.2 0,(f 19).2.2 0])
theorem Ex (b:Bool) (w:Yc) (x q:Int) (r g:Int) (h:Int) (z:Int) (u:Str) (E:Str) (y s:Int) (k:Int) (i:Int) (d:Str) (e:Int) (c:Str) (m:Str) (P:x.fmod 2=1) (I:x.fdiv 2=q) (O:q.fdiv 1=r) (J:r.fmod 18=g) (S:g.fmod 3=1) (R:g.fdiv 3=h) (N:(h+0).fmod 6=z) (K:bK z u) (j:Txt.join "" [u]=E) (o:JoinOk "" [u]=true) (B:q.fdiv 18=y) (C:y.fmod 18=s) (G:s.fmod 3=2) (t:s.fdiv 3=k) (A:(k+0).fmod 6=i) (F:bK i d) (D:(k+1).fmod 6=e) (H:bK e c) (L:Txt.join "" [d,c]=m) (Q:JoinOk "" [d,c]=true) (p:af):aC (B0 (W b true w)) 1 (.call (.ref 274) ⟨[.int x (p 0 0)],[]⟩) [] (fun a=>(.ret (.ref (a 0)),[],[(a 0,ab [.str E (a 1),.str m (a 2)] 2)])):=
 aA (orcs:=[i2 "int.__mod__" x 2 fun a=>.int 1 (a 0),i2 "int.__floordiv__" x 2 fun a=>.int q (a 0),i2 "int.__floordiv__" q 1 fun a=>.int r (a 0),i2 "int.__mod__" r 18 fun a=>.int g (a 0),i2 "int.__mod__" g 3 fun a=>.int 1 (a 0),i2 "int.__floordiv__" g 3 fun a=>.int h (a 0),i2 "int.__mod__" (h+0) 6 fun a=>.int z (a 0),b3 "a/.= é" z u,bx 7 "" [u] E,i2 "int.__floordiv__" x 2 fun a=>.int q (a 0),i2 "int.__floordiv__" q 18 fun a=>.int y (a 0),i2 "int.__mod__" y 18 fun a=>.int s (a 0),i2 "int.__mod__" s 3 fun a=>.int 2 (a 0),i2 "int.__floordiv__" s 3 fun a=>.int k (a 0),i2 "int.__mod__" (k+0) 6 fun a=>.int i (a 0),b3 "a/.= é" i d,i2 "int.__floordiv__" s 3 fun a=>.int k (a 0),i2 "int.__mod__" (k+1) 6 fun a=>.int e (a 0),b3 "a/.= é" e c,bx 13 "" [d,c] m]) (aa (aM P) (aa (aO I) (aa (aO O) (aa (aM J) (aa (aM S) (aa (aO R) (aa (aM N) (aa (K.sure) (aa (bB j o) (aa (aO I) (aa (aO B) (aa (aM C) (aa (aM G) (aa (aO t) (aa (aM A) (aa (F.sure) (aa (aO t) (aa (aM D) (aa (H.sure) (aa (bB L Q) aq)))))))))))))))))))) 502 20 [0,0,1,0,0,0,1,0,0,0,1,2,0,0,16,0,0,0,0,0,79,4,4,0,4,0,29,4,4,4,0,4,0,80,4,4,4,5,0,5,0,5,0,81,5,5,5,5,4,5,4,1,0,1,3,1,0,0,83,4,5,2,1,1,3,3,3,3,0,0,2,6,0,0,0,0,0,79,6,6,0,6,0,29,6,6,6,0,6,0,80,6,6,6,7,0,0,7,0,7,0,81,7,7,7,7,6,7,6,9,8,2,7,9,0,0,16,8,9,0,8,0,26,8,7,8,0,7,0,7,0,81,7,7,7,11,9,9,8,10,0,3,0,26,3,2,3,0,5,0,5,0,81,5,5,5,5,4,5,4,1,0,1,11,1,0,0,83,12,13,2,1,1,3,3,3,3,0,0,2,14,0,0,0,0,0,79,12,12,0,12,0,29,12,12,12,0,12,0,80,12,12,12,13,0,0,13,0,13,0,81,13,13,13,13,12,13,12,15,14,2,15,15,0,0,16,16,17,0,14,0,26,14,13,14,0,13,0,13,0,81,13,13,13,13,12,13,12,15,14,2,18,15,0,0,16,19,20,0,14,0,26,14,13,14,0,13,0,13,0,81,13,13,13,17,15,15,14,21,0,3,0,26,3,2,3,0,5,0,5,0,81,5,5,5,19,0,1] [2] (fun n T f=>aB [n+2,(f 8).2.2 0,(f 19).2.2 0])
theorem Ey (b:Bool) (w:Yc) (x q:Int) (r g:Int) (h:Int) (m:Int) (d:Str) (k:Int) (c:Str) (u:Str) (i e:Int) (F:x.fmod 2=1) (z:x.fdiv 2=q) (E:q.fdiv 1=r) (B:r.fmod 18=g) (I:g.fmod 3=2) (A:g.fdiv 3=h) (D:(h+0).fmod 6=m) (C:bK m d) (G:(h+1).fmod 6=k) (H:bK k c) (j:Txt.join "" [d,c]=u) (o:JoinOk "" [d,c]=true) (s:q.fdiv 18=i) (t:i.fmod 18=e) (y:e.fmod 3=0) (p:af):aC (B0 (W b false w)) 1 (.call (.ref 274) ⟨[.int x (p 0 0)],[]⟩) [] (fun a=>(.ret (.ref (a 0)),[],[(a 0,ab [.str u (a 1),.str "" (a 2)] 2)])):=
 aA (orcs:=[i2 "int.__mod__" x 2 fun a=>.int 1 (a 0),i2 "int.__floordiv__" x 2 fun a=>.int q (a 0),i2 "int.__floordiv__" q 1 fun a=>.int r (a 0),i2 "int.__mod__" r 18 fun a=>.int g (a 0),i2 "int.__mod__" g 3 fun a=>.int 2 (a 0),i2 "int.__floordiv__" g 3 fun a=>.int h (a 0),i2 "int.__mod__" (h+0) 6 fun a=>.int m (a 0),b3 "a/.= é" m d,i2 "int.__floordiv__" g 3 fun a=>.int h (a 0),i2 "int.__mod__" (h+1) 6 fun a=>.int k (a 0),b3 "a/.= é" k c,bx 7 "" [d,c] u,i2 "int.__floordiv__" x 2 fun a=>.int q (a 0),i2 "int.__floordiv__" q 18 fun a=>.int i (a 0),i2 "int.__mod__" i 18 fun a=>.int e (a 0),i2 "int.__mod__" e 3 fun a=>.int 0 (a 0)]) (aa (aM F) (aa (aO z) (aa (aO E) (aa (aM B) (aa (aM I) (aa (aO A) (aa (aM D) (aa (C.sure) (aa (aO A) (aa (aM G) (aa (H.sure) (aa (bB j o) (aa (aO z) (aa (aO s) (aa (aM t) (aa (aM y) aq)))))))))))))))) 476 16 [0,0,1,0,0,0,1,0,0,0,1,2,0,0,16,0,0,0,0,0,79,4,4,0,4,0,29,4,4,4,0,4,0,80,4,4,4,5,0,5,0,5,0,81,5,5,5,5,4,5,4,1,0,1,3,1,0,0,83,4,5,2,1,1,3,3,3,3,0,0,2,6,0,0,0,0,0,79,6,6,0,6,0,29,6,6,6,0,6,0,80,6,6,6,7,0,7,7,0,7,0,84,7,0,7,0,7,0,81,7,7,7,7,6,7,6,9,8,2,7,9,0,0,16,8,9,0,8,0,26,8,7,8,0,7,0,7,0,81,7,7,7,7,6,7,6,9,8,2,10,9,0,0,16,11,12,0,8,0,26,8,7,8,0,7,0,7,0,81,7,7,7,11,9,9,8,13,0,3,0,26,3,2,3,0,5,0,5,0,81,5,5,5,5,4,5,4,1,0,1,14,1,0,0,83,15,16,2,1,1,3,3,3,3,0,0,2,17,0,0,0,0,0,79,12,12,0,12,0,29,12,12,12,0,12,0,80,12,12,12,13,0,13,13,0,13,0,84,13,0,13,0,13,0,81,13,13,13,17,15,0,0,27,14,14,0,3,0,26,3,2,3,0,5,0,5,0,81,5,5,5,19,0,1] [2] (fun n J f=>aB [n+2,(f 11).2.2 0,(f 15).2.1+2])
theorem Ez (b:Bool) (w:Yc) (x q:Int) (r g:Int) (h:Int) (m:Int) (d:Str) (k:Int) (c:Str) (u:Str) (i e:Int) (F:x.fmod 2=1) (z:x.fdiv 2=q) (E:q.fdiv 1=r) (B:r.fmod 18=g) (I:g.fmod 3=2) (A:g.fdiv 3=h) (D:(h+0).fmod 6=m) (C:bK m d) (G:(h+1).fmod 6=k) (H:bK k c) (j:Txt.join "" [d,c]=u) (o:JoinOk "" [d,c]=true) (s:q.fdiv 18=i) (t:i.fmod 18=e) (y:e.fmod 3=0) (p:af):aC (B0 (W b true w)) 1 (.call (.ref 274) ⟨[.int x (p 0 0)],[]⟩) [] (fun a=>(.ret (.ref (a 0)),[],[(a 0,ab [.str u (a 1),.str "" (a 2)] 2)])):=
 aA (orcs:=[i2 "int.__mod__" x 2 fun a=>.int 1 (a 0),i2 "int.__floordiv__" x 2 fun a=>.int q (a 0),i2 "int.__floordiv__" q 1 fun a=>.int r (a 0),i2 "int.__mod__" r 18 fun a=>.int g (a 0),i2 "int.__mod__" g 3 fun a=>.int 2 (a 0),i2 "int.__floordiv__" g 3 fun a=>.int h (a 0),i2 "int.__mod__" (h+0) 6 fun a=>.int m (a 0),b3 "a/.= é" m d,i2 "int.__floordiv__" g 3 fun a=>.int h (a 0),i2 "int.__mod__" (h+1) 6 fun a=>.int k (a 0),b3 "a/.= é" k c,bx 7 "" [d,c] u,i2 "int.__floordiv__" x 2 fun a=>.int q (a 0),i2 "int.__floordiv__" q 18 fun a=>.int i (a 0),i2 "int.__mod__" i 18 fun a=>.int e (a 0),i2 "int.__mod__" e 3 fun a=>.int 0 (a 0)]) (aa (aM F) (aa (aO z) (aa (aO E) (aa (aM B) (aa (aM I) (aa (aO A) (aa (aM D) (aa (C.sure) (aa (aO A) (aa (aM G) (aa (H.sure) (aa (bB j o) (aa (aO z) (aa (aO s) (aa (aM t) (aa (aM y) aq)))))))))))))))) 456 16 [0,0,1,0,0,0,1,0,0,0,1,2,0,0,16,0,0,0,0,0,79,4,4,0,4,0,29,4,4,4,0,4,0,80,4,4,4,5,0,5,0,5,0,81,5,5,5,5,4,5,4,1,0,1,3,1,0,0,83,4,5,2,1,1,3,3,3,3,0,0,2,6,0,0,0,0,0,79,6,6,0,6,0,29,6,6,6,0,6,0,80,6,6,6,7,0,0,7,0,7,0,81,7,7,7,7,6,7,6,9,8,2,7,9,0,0,16,8,9,0,8,0,26,8,7,8,0,7,0,7,0,81,7,7,7,7,6,7,6,9,8,2,10,9,0,0,16,11,12,0,8,0,26,8,7,8,0,7,0,7,0,81,7,7,7,11,9,9,8,13,0,3,0,26,3,2,3,0,5,0,5,0,81,5,5,5,5,4,5,4,1,0,1,14,1,0,0,83,15,16,2,1,1,3,3,3,3,0,0,2,17,0,0,0,0,0,79,12,12,0,12,0,29,12,12,12,0,12,0,80,12,12,12,13,0,0,13,0,13,0,81,13,13,13,17,15,0,0,27,14,14,0,3,0,26,3,2,3,0,5,0,5,0,81,5,5,5,19,0,1] [2] (fun n J f=>aB [n+2,(f 11).2.2 0,(f 15).2.1+2])
theorem EA (b:Bool) (w:Yc) (x q:Int) (r g:Int) (h:Int) (y:Int) (m:Str) (u:Int) (k:Str) (D:Str) (t i:Int) (s:Int) (d:Int) (c:Str) (e:Str) (O:x.fmod 2=1) (G:x.fdiv 2=q) (N:q.fdiv 1=r) (I:r.fmod 18=g) (S:g.fmod 3=2) (H:g.fdiv 3=h) (L:(h+0).fmod 6=y) (J:bK y m) (P:(h+1).fmod 6=u) (Q:bK u k) (j:Txt.join "" [m,k]=D) (o:JoinOk "" [m,k]=true) (B:q.fdiv 18=t) (C:t.fmod 18=i) (F:i.fmod 3=1) (A:i.fdiv 3=s) (z:(s+0).fmod 6=d) (E:bK d c) (K:Txt.join "" [c]=e) (R:JoinOk "" [c]=true) (p:af):aC (B0 (W b false w)) 1 (.call (.ref 274) ⟨[.int x (p 0 0)],[]⟩) [] (fun a=>(.ret (.ref (a 0)),[],[(a 0,ab [.str D (a 1),.str e (a 2)] 2)])):=
 aA (orcs:=[i2 "int.__mod__" x 2 fun a=>.int 1 (a 0),i2 "int.__floordiv__" x 2 fun a=>.int q (a 0),i2 "int.__floordiv__" q 1 fun a=>.int r (a 0),i2 "int.__mod__" r 18 fun a=>.int g (a 0),i2 "int.__mod__" g 3 fun a=>.int 2 (a 0),i2 "int.__floordiv__" g 3 fun a=>.int h (a 0),i2 "int.__mod__" (h+0) 6 fun a=>.int y (a 0),b3 "a/.= é" y m,i2 "int.__floordiv__" g 3 fun a=>.int h (a 0),i2 "int.__mod__" (h+1) 6 fun a=>.int u (a 0),b3 "a/.= é" u k,bx 7 "" [m,k] D,i2 "int.__floordiv__" x 2 fun a=>.int q (a 0),i2 "int.__floordiv__" q 18 fun a=>.int t (a 0),i2 "int.__mod__" t 18 fun a=>.int i (a 0),i2 "int.__mod__" i 3 fun a=>.int 1 (a 0),i2 "int.__floordiv__" i 3 fun a=>.int s (a 0),i2 "int.__mod__" (s+0) 6 fun a=>.int d (a 0),b3 "a/.= é" d c,bx 13 "" [c] e]) (aa (aM O) (aa (aO G) (aa (aO N) (aa (aM I) (aa (aM S) (aa (aO H) (aa (aM L) (aa (J.sure) (aa (aO H) (aa (aM P) (aa (Q.sure) (aa (bB j o) (aa (aO G) (aa (aO B) (aa (aM C) (aa (aM F) (aa (aO A) (aa (aM z) (aa (E.sure) (aa (bB K R) aq)))))))))))))))))))) 522 20 [0,0,1,0,0,0,1,0,0,0,1,2,0,0,16,0,0,0,0,0,79,4,4,0,4,0,29,4,4,4,0,4,0,80,4,4,4,5,0,5,0,5,0,81,5,5,5,5,4,5,4,1,0,1,3,1,0,0,83,4,5,2,1,1,3,3,3,3,0,0,2,6,0,0,0,0,0,79,6,6,0,6,0,29,6,6,6,0,6,0,80,6,6,6,7,0,7,7,0,7,0,84,7,0,7,0,7,0,81,7,7,7,7,6,7,6,9,8,2,7,9,0,0,16,8,9,0,8,0,26,8,7,8,0,7,0,7,0,81,7,7,7,7,6,7,6,9,8,2,10,9,0,0,16,11,12,0,8,0,26,8,7,8,0,7,0,7,0,81,7,7,7,11,9,9,8,13,0,3,0,26,3,2,3,0,5,0,5,0,81,5,5,5,5,4,5,4,1,0,1,14,1,0,0,83,15,16,2,1,1,3,3,3,3,0,0,2,17,0,0,0,0,0,79,12,12,0,12,0,29,12,12,12,0,12,0,80,12,12,12,13,0,13,13,0,13,0,84,13,0,13,0,13,0,81,13,13,13,13,12,13,12,15,14,2,18,15,0,0,16,19,20,0,14,0,26,14,13,14,0,13,0,13,0,81,13,13,13,17,15,15,14,21,0,3,0,26,3,2,3,0,5,0,5,0,81,5,5,5,19,0,1] [2] (fun n T f=>aB [n+2,(f 11).2.2 0,(f 19).2.2 0])
theorem EB (b:Bool) (w:Yc) (x q:Int) (r g:Int) (h:Int) (y:Int) (m:Str) (u:Int) (k:Str) (D:Str) (t i:Int) (s:Int) (d:Int) (c:Str) (e:Str) (O:x.fmod 2=1) (G:x.fdiv 2=q) (N:q.fdiv 1=r) (I:r.fmod 18=g) (S:g.fmod 3=2) (H:g.fdiv 3=h) (L:(h+0).fmod 6=y) (J:bK y m) (P:(h+1).fmod 6=u) (Q:bK u k) (j:Txt.join "" [m,k]=D) (o:JoinOk "" [m,k]=true) (B:q.fdiv 18=t) (C:t.fmod 18=i) (F:i.fmod 3=1) (A:i.fdiv 3=s) (z:(s+0).fmod 6=d) (E:bK d c) (K:Txt.join "" [c]=e) (R:JoinOk "" [c]=true) (p:af):aC (B0 (W b true w)) 1 (.call (.ref 274) ⟨[.int x (p 0 0)],[]⟩) [] (fun a=>(.ret (.ref (a 0)),[],[(a 0,ab [.str D (a 1),.str e (a 2)] 2)])):=
 aA (orcs:=[i2 "int.__mod__" x 2 fun a=>.int 1 (a 0),i2 "int.__floordiv__" x 2 fun a=>.int q (a 0),i2 "int.__floordiv__" q 1 fun a=>.int r (a 0),i2 "int.__mod__" r 18 fun a=>.int g (a 0),i2 "int.__mod__" g 3 fun a=>.int 2 (a 0),i2 "int.__floordiv__" g 3 fun a=>.int h (a 0),i2 "int.__mod__" (h+0) 6 fun a=>.int y (a 0),b3 "a/.= é" y m,i2 "int.__floordiv__" g 3 fun a=>.int h (a 0),i2 "int.__mod__" (h+1) 6 fun a=>.int u (a 0),b3 "a/.= é" u k,bx 7 "" [m,k] D,i2 "int.__floordiv__" x 2 fun a=>.int q (a 0),i2 "int.__floordiv__" q 18 fun a=>.int t (a 0),i2 "int.__mod__" t 18 fun a=>.int i (a 0),i2 "int.__mod__" i 3 fun a=>.int 1 (a 0),i2 "int.__floordiv__" i 3 fun a=>.int s (a 0),i2 "int.__mod__" (s+0) 6 fun a=>.int d (a 0),b3 "a/.= é" d c,bx 13 "" [c] e]) (aa (aM O) (aa (aO G) (aa (aO N) (aa (aM I) (aa (aM S) (aa (aO H) (aa (aM L) (aa (J.sure) (aa (aO H) (aa (aM P) (aa (Q.sure) (aa (bB j o) (aa (aO G) (aa (aO B) (aa (aM C) (aa (aM F) (aa (aO A) (aa (aM z) (aa (E.sure) (aa (bB K R) aq)))))))))))))))))))) 502 20 [0,0,1,0,0,0,1,0,0,0,1,2,0,0,16,0,0,0,0,0,79,4,4,0,4,0,29,4,4,4,0,4,0,80,4,4,4,5,0,5,0,5,0,81,5,5,5,5,4,5,4,1,0,1,3,1,0,0,83,4,5,2,1,1,3,3,3,3,0,0,2,6,0,0,0,0,0,79,6,6,0,6,0,29,6,6,6,0,6,0,80,6,6,6,7,0,0,7,0,7,0,81,7,7,7,7,6,7,6,9,8,2,7,9,0,0,16,8,9,0,8,0,26,8,7,8,0,7,0,7,0,81,7,7,7,7,6,7,6,9,8,2,10,9,0,0,16,11,12,0,8,0,26,8,7,8,0,7,0,7,0,81,7,7,7,11,9,9,8,13,0,3,0,26,3,2,3,0,5,0,5,0,81,5,5,5,5,4,5,4,1,0,1,14,1,0,0,83,15,16,2,1,1,3,3,3,3,0,0,2,17,0,0,0,0,0,79,12,12,0,12,0,29,12,12,12,0,12,0,80,12,12,12,13,0,0,13,0,13,0,81,13,13,13,13,12,13,12,15,14,2,18,15,0,0,16,19,20,0,14,0,26,14,13,14,0,13,0,13,0,81,13,13,13,17,15,15,14,21,0,3,0,26,3,2,3,0,5,0,5,0,81,5,5,5,19,0,1] [2] (fun n T f=>aB [n+2,(f 11).2.2 0,(f 19).2.2 0])
theorem EC (b:Bool) (w:Yc) (x q:Int) (r g:Int) (h:Int) (B:Int) (y:Str) (A:Int) (u:Str) (G:Str) (z s:Int) (k:Int) (i:Int) (d:Str) (e:Int) (c:Str) (m:Str) (S:x.fmod 2=1) (K:x.fdiv 2=q) (R:q.fdiv 1=r) (N:r.fmod 18=g) (X:g.fmod 3=2) (L:g.fdiv 3=h) (Q:(h+0).fmod 6=B) (O:bK B y) (T:(h+1).fmod 6=A) (U:bK A u) (j:Txt.join "" [y,u]=G) (o:JoinOk "" [y,u]=true) (D:q.fdiv 18=z) (E:z.fmod 18=s) (I:s.fmod 3=2) (t:s.fdiv 3=k) (C:(k+0).fmod 6=i) (H:bK i d) (F:(k+1).fmod 6=e) (J:bK e c) (P:Txt.join "" [d,c]=m) (V:JoinOk "" [d,c]=true) (p:af):aC (B0 (W b false w)) 1 (.call (.ref 274) ⟨[.int x (p 0 0)],[]⟩) [] (fun a=>(.ret (.ref (a 0)),[],[(a 0,ab [.str G (a 1),.str m (a 2)] 2)])):=
 aA (orcs:=[i2 "int.__mod__" x 2 fun a=>.int 1 (a 0),i2 "int.__floordiv__" x 2 fun a=>.int q (a 0),i2 "int.__floordiv__" q 1 fun a=>.int r (a 0),i2 "int.__mod__" r 18 fun a=>.int g (a 0),i2 "int.__mod__" g 3 fun a=>.int 2 (a 0),i2 "int.__floordiv__" g 3 fun a=>.int h (a 0),i2 "int.__mod__" (h+0) 6 fun a=>.int B (a 0),b3 "a/.= é" B y,i2 "int.__floordiv__" g 3 fun a=>.int h (a 0),i2 "int.__mod__" (h+1) 6 fun a=>.int A (a 0),b3 "a/.= é" A u,bx 7 "" [y,u] G,i2 "int.__floordiv__" x 2 fun a=>.int q (a 0),i2 "int.__floordiv__" q 18 fun a=>.int z (a 0),i2 "int.__mod__" z 18 fun a=>.int s (a 0),i2 "int.__mod__" s 3 fun a=>.int 2 (a 0),i2 "int.__floordiv__" s 3 fun a=>.int k (a 0),i2 "int.__mod__" (k+0) 6 fun a=>.int i (a 0),b3 "a/.= é" i d,i2 "int.__floordiv__" s 3 fun a=>.int k (a 0),i2 "int.__mod__" (k+1) 6 fun a=>.int e (a 0),b3 "a/.= é" e c,bx 13 "" [d,c] m]) (aa (aM S) (aa (aO K) (aa (aO R) (aa (aM N) (aa (aM X) (aa (aO L) (aa (aM Q) (aa (O.sure) (aa (aO L) (aa (aM T) (aa (U.sure) (aa (bB j o) (aa (aO K) (aa (aO D) (aa (aM E) (aa (aM I) (aa (aO t) (aa (aM C) (aa (H.sure) (aa (aO t) (aa (aM F) (aa (J.sure) (aa (bB P V) aq))))))))))))))))))))))) 569 23 [0,0,1,0,0,0,1,0,0,0,1,2,0,0,16,0,0,0,0,0,79,4,4,0,4,0,29,4,4,4,0,4,0,80,4,4,4,5,0,5,0,5,0,81,5,5,5,5,4,5,4,1,0,1,3,1,0,0,83,4,5,2,1,1,3,3,3,3,0,0,2,6,0,0,0,0,0,79,6,6,0,6,0,29,6,6,6,0,6,0,80,6,6,6,7,0,7,7,0,7,0,84,7,0,7,0,7,0,81,7,7,7,7,6,7,6,9,8,2,7,9,0,0,16,8,9,0,8,0,26,8,7,8,0,7,0,7,0,81,7,7,7,7,6,7,6,9,8,2,10,9,0,0,16,11,12,0,8,0,26,8,7,8,0,7,0,7,0,81,7,7,7,11,9,9,8,13,0,3,0,26,3,2,3,0,5,0,5,0,81,5,5,5,5,4,5,4,1,0,1,14,1,0,0,83,15,16,2,1,1,3,3,3,3,0,0,2,17,0,0,0,0,0,79,12,12,0,12,0,29,12,12,12,0,12,0,80,12,12,12,13,0,13,13,0,13,0,84,13,0,13,0,13,0,81,13,13,13,13,12,13,12,15,14,2,18,15,0,0,16,19,20,0,14,0,26,14,13,14,0,13,0,13,0,81,13,13,13,13,12,13,12,15,14,2,21,15,0,0,16,22,23,0,14,0,26,14,13,14,0,13,0,13,0,81,13,13,13,17,15,15,14,24,0,3,0,26,3,2,3,0,5,0,5,0,81,5,5,5,19,0,1] [2] (fun n Y f=>aB [n+2,(f 11).2.2 0,(f 22).2.2 0])
theorem ED (b:Bool) (w:Yc) (x q:Int) (r g:Int) (h:Int) (B:Int) (y:Str) (A:Int) (u:Str) (G:Str) (z s:Int) (k:Int) (i:Int) (d:Str) (e:Int) (c:Str) (m:Str) (S:x.fmod 2=1) (K:x.fdiv 2=q) (R:q.fdiv 1=r) (N:r.fmod 18=g) (X:g.fmod 3=2) (L:g.fdiv 3=h) (Q:(h+0).fmod 6=B) (O:bK B y) (T:(h+1).fmod 6=A) (U:bK A u) (j:Txt.join "" [y,u]=G) (o:JoinOk "" [y,u]=true) (D:q.fdiv 18=z) (E:z.fmod 18=s) (I:s.fmod 3=2) (t:s.fdiv 3=k) (C:(k+0).fmod 6=i) (H:bK i d) (F:(k+1).fmod 6=e) (J:bK e c) (P:Txt.join "" [d,c]=m) (V:JoinOk "" [d,c]=true) (p:af):aC (B0 (W b true w)) 1 (.call (.ref 274) ⟨[.int x (p 0 0)],[]⟩) [] (fun a=>(.ret (.ref (a 0)),[],[(a 0,ab [.str G (a 1),.str m (a 2)] 2)])):=
 aA (orcs:=[i2 "int.__mod__" x 2 fun a=>.int 1 (a 0),i2 "int.__floordiv__" x 2 fun a=>.int q (a 0),i2 "int.__floordiv__" q 1 fun a=>.int r (a 0),i2 "int.__mod__" r 18 fun a=>.int g (a 0),i2 "int.__mod__" g 3 fun a=>.int 2 (a 0),i2 "int.__floordiv__" g 3 fun a=>.int h (a 0),i2 "int.__mod__" (h+0) 6 fun a=>.int B (a 0),b3 "a/.= é" B y,i2 "int.__floordiv__" g 3 fun a=>.int h (a 0),i2 "int.__mod__" (h+1) 6 fun a=>.int A (a 0),b3 "a/.= é" A u,bx 7 "" [y,u] G,i2 "int.__floordiv__" x 2 fun a=>.int q (a 0),i2 "int.__floordiv__" q 18 fun a=>.int z (a 0),i2 "int.__mod__" z 18 fun a=>.int s (a 0),i2 "int.__mod__" s 3 fun a=>.int 2 (a 0),i2 "int.__floordiv__" s 3 fun a=>.int k (a 0),i2 "int.__mod__" (k+0) 6 fun a=>.int i (a 0),b3 "a/.= é" i d,i2 "int.__floordiv__" s 3 fun a=>.int k (a 0),i2 "int.__mod__" (k+1) 6 fun a=>.int e (a 0),b3 "a/.= é" e c,bx 13 "" [d,c] m]) (aa (aM S) (aa (aO K) (aa (aO R) (aa (aM N) (aa (aM X) (aa (aO L) (aa (aM Q) (aa (O.sure) (aa (aO L) (aa (aM T) (aa (U.sure) (aa (bB j o) (aa (aO K) (aa (aO D) (aa (aM E) (aa (aM I) (aa (aO t) (aa (aM C) (aa (H.sure) (aa (aO t) (aa (aM F) (aa (J.sure) (aa (bB P V) aq))))))))))))))))))))))) 549 23 [0,0,1,0,0,0,1,0,0,0,1,2,0,0,16,0,0,0,0,0,79,4,4,0,4,0,29,4,4,4,0,4,0,80,4,4,4,5,0,5,0,5,0,81,5,5,5,5,4,5,4,1,0,1,3,1,0,0,83,4,5,2,1,1,3,3,3,3,0,0,2,6,0,0,0,0,0,79,6,6,0,6,0,29,6,6,6,0,6,0,80,6,6,6,7,0,0,7,0,7,0,81,7,7,7,7,6,7,6,9,8,2,7,9,0,0,16,8,9,0,8,0,26,8,7,8,0,7,0,7,0,81,7,7,7,7,6,7,6,9,8,2,10,9,0,0,16,11,12,0,8,0,26,8,7,8,0,7,0,7,0,81,7,7,7,11,9,9,8,13,0,3,0,26,3,2,3,0,5,0,5,0,81,5,5,5,5,4,5,4,1,0,1,14,1,0,0,83,15,16,2,1,1,3,3,3,3,0,0,2,17,0,0,0,0,0,79,12,12,0,12,0,29,12,12,12,0,12,0,80,12,12,12,13,0,0,13,0,13,0,81,13,13,13,13,12,13,12,15,14,2,18,15,0,0,16,19,20,0,14,0,26,14,13,14,0,13,0,13,0,81,13,13,13,13,12,13,12,15,14,2,21,15,0,0,16,22,23,0,14,0,26,14,13,14,0,13,0,13,0,81,13,13,13,17,15,15,14,24,0,3,0,26,3,2,3,0,5,0,5,0,81,5,5,5,19,0,1] [2] (fun n Y f=>aB [n+2,(f 11).2.2 0,(f 22).2.2 0])
end
def zg (x:Str) (p:af):Code:=.call (.ref 208) ⟨[.str x (p 0 0)],[]⟩
def zh (x:Str) (p:af):Ya:=[]
def zi (x:Str) (p:af) (a:Ye):Flow×Yf×Ya:=(.ret (.str x (p 0 0)),[],[])
theorem EE (b c:Bool) (w:Yc) (x:Str) (p:af):aC (B0 (W b c w)) 1 (zg x p) (zh x p) (zi x p):=
 aA (orcs:=[]) aq 62 0 [0,0,1,0,0,0,0,0,1,0,0,0,1,0,0,0,1,0,0,0,0,0,0,1,0,2,2,2,2,2,0,0,2,1] [] (fun n a f=>fun _=>0)
def ec (a:Yh) (x:Str):aH:=bA (zg x) a (zh x) (zi x)
theorem eO {b c:Bool} {w:Yc} {m:Nat} (a:Yh) (d:a.Nodup) (x:Str) (e:1≤m):(ec a x).Sure (B0 (W b c w)) m:=
 (bS d fun p=>EE b c w x p).le e
def zj (x:Str) (p:af):Code:=.call (.ref 222) ⟨[.str x (p 0 0)],[]⟩
def zk (x:Str) (p:af):Ya:=[]
def zl (x:Str) (p:af) (a:Ye):Flow×Yf×Ya:=(.ret (.str "/" (a 0)),[],[])
theorem EF (b c:Bool) (w:Yc) (x:Str) (p:af):aC (B0 (W b c w)) 1 (zj x p) (zk x p) (zl x p):=
 aA (orcs:=[]) aq 41 0 [0,0,1,0,0,0,0,0,1,0,0,0,0,3,0,4,0,0,5,0,0,6,0,7] [] (fun n a f=>aB [a+2])
def js (a:Yh) (x:Str):aH:=bA (zj x) a (zk x) (zl x)
theorem kh {b c:Bool} {w:Yc} {m:Nat} (a:Yh) (d:a.Nodup) (x:Str) (e:1≤m):(js a x).Sure (B0 (W b c w)) m:=
 (bS d fun p=>EF b c w x p).le e
theorem dc:∀a∈aD,Txt.startswith a "/" = false∧(a.length==0)=false∧("/" ++ a).length≤1000:=by decide +kernel
theorem EG:∀a∈aD,Txt.endswith ("/" ++ a) "/" = false:=by decide +kernel
theorem zm:∀a∈aD,(("/" ++ a).length==0)=false:=by decide +kernel
theorem zn:∀a∈aD,(("/" ++ a).length:Int)=((a.length+1:Nat):Int):=by decide +kernel
theorem pf:∀a∈aD,∀b∈aD,("/" ++ a++("/" ++ b)).length≤1000:=by decide +kernel
def zo (a:Str) (p:af):Code:=.call (.ref 229) ⟨[.str "/" (p 0 0),.str a (p 0 1)],[]⟩
def zp (a:Str) (p:af):Ya:=[]
def zq (a:Str) (p:af) (b:Ye):Flow×Yf×Ya:=(.ret (.str ("/" ++ a) (b 0)),[],[])
theorem EH (b c:Bool) (w:Yc) (a:Str) (d:a∈aD) (p:af):aC (B0 (W b c w)) 2 (zo a p) (zp a p) (zq a p):=
 aA (orcs:=[ec [] "/",js [] "/",ec [] a,o2 "str.startswith" a "/" fun _=>.bool false,o2 "str.__add__" "/" a fun e=>.str ("/" ++ a) (e 0)]) (aa (eO [] (by decide) "/" (by decide)) (aa (kh [] (by decide) "/" (by decide)) (aa (eO [] (by decide) a (by decide)) (aa (cn ((dc a d).1)) (aa (fY rfl (by decide +kernel) (dc a d).2.1 (dc a d).2.2) aq))))) 180 5 [0,0,2,1,2,1,0,0,0,2,0,2,2,1,0,2,0,3,2,1,2,2,1,2,1,1,0,1,0,8,3,0,3,0,3,0,9,3,3,1,3,2,2,1,0,2,0,4,2,1,2,2,5,2,0,11,0,0,12,2,2,0,0,13,2,2,6,2,1,0,3,0,3,0,9,3,3,1,3,2,5,0,2] [] (fun n g f=>aB [(f 4).2.2 0])
def zr (b:Yh) (a:Str):aH:=bA (zo a) b (zp a) (zq a)
theorem EI {b c:Bool} {w:Yc} {m:Nat} (d:Yh) (e:d.Nodup) (a:Str) (g:a∈aD) (f:2≤m):(zr d a).Sure (B0 (W b c w)) m:=
 (bS e fun p=>EH b c w a g p).le f
def zs (a b:Str) (p:af):Code:=.call (.ref 229) ⟨[.str "/" (p 0 0),.str a (p 0 1),.str b (p 0 2)],[]⟩
def zt (a b:Str) (p:af):Ya:=[]
def zu (a c:Str) (p:af) (b:Ye):Flow×Yf×Ya:=(.ret (.str ("/" ++ a++("/" ++ c)) (b 0)),[],[])
theorem EJ (b c:Bool) (w:Yc) (a d:Str) (e:a∈aD) (g:d∈aD) (p:af):aC (B0 (W b c w)) 2 (zs a d p) (zt a d p) (zu a d p):=
 aA (orcs:=[ec [] "/",js [] "/",ec [] a,o2 "str.startswith" a "/" fun _=>.bool false,o2 "str.__add__" "/" a fun h=>.str ("/" ++ a) (h 0),ec [] d,o2 "str.startswith" d "/" fun _=>.bool false,a9 ("/" ++ a) ((a.length+1:Nat):Int),o2 "str.endswith" ("/" ++ a) "/" fun _=>.bool false,o2 "str.__add__" "/" d fun h=>.str ("/" ++ d) (h 0),o2 "str.__add__" ("/" ++ a) ("/" ++ d) fun h=>.str ("/" ++ a++("/" ++ d)) (h 0)]) (aa (eO [] (by decide) "/" (by decide)) (aa (kh [] (by decide) "/" (by decide)) (aa (eO [] (by decide) a (by decide)) (aa (cn ((dc a e).1)) (aa (fY rfl (by decide +kernel) (dc a e).2.1 (dc a e).2.2) (aa (eO [] (by decide) d (by decide)) (aa (cn ((dc d g).1)) (aa (bb (zn a e) (dc a e).2.2) (aa (Dw (EG a e)) (aa (fY rfl (by decide +kernel) (dc d g).2.1 (dc d g).2.2) (aa (fY rfl (zm a e) (zm d g) (pf a e d g)) aq))))))))))) 260 11 [0,0,2,1,2,1,0,0,0,2,0,2,2,1,0,2,0,3,2,1,2,2,1,2,1,1,0,1,0,8,3,0,3,0,3,0,9,3,3,1,3,2,2,1,0,2,0,4,2,1,2,2,5,2,0,11,0,0,12,2,2,0,0,13,2,2,6,2,1,0,3,0,3,0,9,3,3,1,3,2,2,1,0,2,0,7,2,1,2,2,8,2,9,2,2,10,2,2,2,11,12,2,1,0,3,0,3,0,9,3,3,1,3,2,5,0,2] [] (fun n i f=>aB [(f 10).2.2 0])
def zv (c:Yh) (a b:Str):aH:=bA (zs a b) c (zt a b) (zu a b)
theorem EK {b c:Bool} {w:Yc} {m:Nat} (e:Yh) (f:e.Nodup) (a d:Str) (i:a∈aD) (g:d∈aD) (h:2≤m):(zv e a d).Sure (B0 (W b c w)) m:=
 (bS f fun p=>EJ b c w a d i g p).le h
def b1:Yg:=["","a","/",".","="," ","é","a/","/.",".=","= "," é","éa"]
def uW:List (Str×Str)→Str→Str
 | [],x=>x
 | q::l,x=>if q.1==x then q.2 else uW l x
def b4 (x:Str):Str:=uW (aD.zip b1) x
theorem EL (b c:Bool) (w:Yc) (p:af):aC (B0 (W b c w)) 1 (.call (.ref 86) ⟨[.str "=" (p 0 0)],[]⟩) [] (fun d=>(.ret (.str "" (d 0)),[],[])):=
 aA (orcs:=[]) aq 276 0 [0,0,0,1,0,1,0,0,0,1,0,11,0,0,12,1,0,1,0,0,64,2,2,0,2,0,23,3,0,3,0,3,0,24,3,3,2,3,2,1,0,1,0,0,21,1,0,1,0,11,0,0,12,1,0,0,0,1,0,0,11,0,0,12,1,0,0,1,1,0,0,63,1,1,0,0,17,1,0,1,0,0,20,1,0,0,16,1,0,0,65,1,0,0,16,1,0,0,1,1,0,0,63,0,3,0,3,0,24,3,3,2,3,2,5,0,1,0,0,69,0,0,17,0,0,66,1,1,0,0,13,1] [] (fun n a f=>aB [a+4])
theorem EM (b c:Bool) (w:Yc) (p:af):aC (B0 (W b c w)) 1 (.call (.ref 86) ⟨[.str "a" (p 0 0)],[]⟩) [] (fun d=>(.ret (.str "a" (d 0)),[],[])):=
 aA (orcs:=[]) aq 344 0 [0,0,0,1,0,1,0,0,0,1,0,11,0,0,12,1,0,1,0,0,64,2,2,0,2,0,23,3,0,3,0,3,0,24,3,3,2,3,2,1,0,1,0,0,21,1,0,1,0,11,0,0,12,1,0,0,0,1,0,0,11,0,0,12,1,0,0,1,1,0,0,63,1,1,0,0,17,1,0,1,0,0,20,1,1,0,0,14,1,0,1,0,0,16,1,0,1,1,0,0,65,1,1,0,0,14,1,0,0,1,1,0,0,63,0,3,0,3,0,24,3,3,2,3,2,5,0,1,0,0,69,0,0,17,0,0,66,1,1,0,0,13,1,0,0,1,0,0,11,0,0,12,0,0,69,0,0,17,6,6,6,6,1,0,1] [] (fun n a f=>aB [a+31])
theorem EN (b c:Bool) (w:Yc) (p:af):aC (B0 (W b c w)) 1 (.call (.ref 86) ⟨[.str "=2F" (p 0 0)],[]⟩) [] (fun d=>(.ret (.str "/" (d 0)),[],[])):=
 aA (orcs:=[]) aq 495 0 [0,0,0,1,0,1,0,0,0,1,0,11,0,0,12,1,0,1,0,0,64,2,2,0,2,0,23,3,0,3,0,3,0,24,3,3,2,3,2,1,0,1,0,0,21,1,0,1,0,11,0,0,12,1,0,0,0,1,0,0,11,0,0,12,1,0,0,1,1,0,0,63,1,1,0,0,17,1,0,1,0,0,20,1,0,0,16,1,0,0,65,1,0,0,16,1,0,0,63,1,1,0,0,16,0,0,17,0,0,0,66,1,1,0,0,16,0,0,17,0,0,0,66,1,0,1,1,1,0,0,16,0,0,17,4,4,4,4,0,0,0,0,5,4,0,0,0,0,0,0,5,0,0,17,6,6,6,6,0,0,0,0,0,67,0,0,29,0,0,68,0,0,14,1,0,1,0,0,16,1,0,1,1,0,0,65,1,1,0,0,14,1,0,0,1,1,0,0,63,0,3,0,3,0,24,3,3,2,3,2,8,0,1,0,0,69,0,0,17,0,0,66,1,1,0,0,13,1,0,0,1,0,0,11,0,0,12,0,0,69,0,0,17,9,9,9,9,1,0,1] [] (fun n a f=>aB [a+50])
theorem EO (b c:Bool) (w:Yc) (p:af):aC (B0 (W b c w)) 1 (.call (.ref 86) ⟨[.str "=2E" (p 0 0)],[]⟩) [] (fun d=>(.ret (.str "." (d 0)),[],[])):=
 aA (orcs:=[]) aq 495 0 [0,0,0,1,0,1,0,0,0,1,0,11,0,0,12,1,0,1,0,0,64,2,2,0,2,0,23,3,0,3,0,3,0,24,3,3,2,3,2,1,0,1,0,0,21,1,0,1,0,11,0,0,12,1,0,0,0,1,0,0,11,0,0,12,1,0,0,1,1,0,0,63,1,1,0,0,17,1,0,1,0,0,20,1,0,0,16,1,0,0,65,1,0,0,16,1,0,0,63,1,1,0,0,16,0,0,17,0,0,0,66,1,1,0,0,16,0,0,17,0,0,0,66,1,0,1,1,1,0,0,16,0,0,17,4,4,4,4,0,0,0,0,5,4,0,0,0,0,0,0,5,0,0,17,6,6,6,6,0,0,0,0,0,67,0,0,29,0,0,68,0,0,14,1,0,1,0,0,16,1,0,1,1,0,0,65,1,1,0,0,14,1,0,0,1,1,0,0,63,0,3,0,3,0,24,3,3,2,3,2,8,0,1,0,0,69,0,0,17,0,0,66,1,1,0,0,13,1,0,0,1,0,0,11,0,0,12,0,0,69,0,0,17,9,9,9,9,1,0,1] [] (fun n a f=>aB [a+50])
theorem EP (b c:Bool) (w:Yc) (p:af):aC (B0 (W b c w)) 1 (.call (.ref 86) ⟨[.str "=3D" (p 0 0)],[]⟩) [] (fun d=>(.ret (.str "=" (d 0)),[],[])):=
 aA (orcs:=[]) aq 495 0 [0,0,0,1,0,1,0,0,0,1,0,11,0,0,12,1,0,1,0,0,64,2,2,0,2,0,23,3,0,3,0,3,0,24,3,3,2,3,2,1,0,1,0,0,21,1,0,1,0,11,0,0,12,1,0,0,0,1,0,0,11,0,0,12,1,0,0,1,1,0,0,63,1,1,0,0,17,1,0,1,0,0,20,1,0,0,16,1,0,0,65,1,0,0,16,1,0,0,63,1,1,0,0,16,0,0,17,0,0,0,66,1,1,0,0,16,0,0,17,0,0,0,66,1,0,1,1,1,0,0,16,0,0,17,4,4,4,4,0,0,0,0,5,4,0,0,0,0,0,0,5,0,0,17,6,6,6,6,0,0,0,0,0,67,0,0,29,0,0,68,0,0,14,1,0,1,0,0,16,1,0,1,1,0,0,65,1,1,0,0,14,1,0,0,1,1,0,0,63,0,3,0,3,0,24,3,3,2,3,2,8,0,1,0,0,69,0,0,17,0,0,66,1,1,0,0,13,1,0,0,1,0,0,11,0,0,12,0,0,69,0,0,17,9,9,9,9,1,0,1] [] (fun n a f=>aB [a+50])
theorem EQ (b c:Bool) (w:Yc) (p:af):aC (B0 (W b c w)) 1 (.call (.ref 86) ⟨[.str "=20" (p 0 0)],[]⟩) [] (fun d=>(.ret (.str " " (d 0)),[],[])):=
 aA (orcs:=[]) aq 495 0 [0,0,0,1,0,1,0,0,0,1,0,11,0,0,12,1,0,1,0,0,64,2,2,0,2,0,23,3,0,3,0,3,0,24,3,3,2,3,2,1,0,1,0,0,21,1,0,1,0,11,0,0,12,1,0,0,0,1,0,0,11,0,0,12,1,0,0,1,1,0,0,63,1,1,0,0,17,1,0,1,0,0,20,1,0,0,16,1,0,0,65,1,0,0,16,1,0,0,63,1,1,0,0,16,0,0,17,0,0,0,66,1,1,0,0,16,0,0,17,0,0,0,66,1,0,1,1,1,0,0,16,0,0,17,4,4,4,4,0,0,0,0,5,4,0,0,0,0,0,0,5,0,0,17,6,6,6,6,0,0,0,0,0,67,0,0,29,0,0,68,0,0,14,1,0,1,0,0,16,1,0,1,1,0,0,65,1,1,0,0,14,1,0,0,1,1,0,0,63,0,3,0,3,0,24,3,3,2,3,2,8,0,1,0,0,69,0,0,17,0,0,66,1,1,0,0,13,1,0,0,1,0,0,11,0,0,12,0,0,69,0,0,17,9,9,9,9,1,0,1] [] (fun n a f=>aB [a+50])
theorem ER (b c:Bool) (w:Yc) (p:af):aC (B0 (W b c w)) 1 (.call (.ref 86) ⟨[.str "=E9" (p 0 0)],[]⟩) [] (fun d=>(.ret (.str "é" (d 0)),[],[])):=
 aA (orcs:=[]) aq 495 0 [0,0,0,1,0,1,0,0,0,1,0,11,0,0,12,1,0,1,0,0,64,2,2,0,2,0,23,3,0,3,0,3,0,24,3,3,2,3,2,1,0,1,0,0,21,1,0,1,0,11,0,0,12,1,0,0,0,1,0,0,11,0,0,12,1,0,0,1,1,0,0,63,1,1,0,0,17,1,0,1,0,0,20,1,0,0,16,1,0,0,65,1,0,0,16,1,0,0,63,1,1,0,0,16,0,0,17,0,0,0,66,1,1,0,0,16,0,0,17,0,0,0,66,1,0,1,1,1,0,0,16,0,0,17,4,4,4,4,0,0,0,0,5,4,0,0,0,0,0,0,5,0,0,17,6,6,6,6,0,0,0,0,0,67,0,0,29,0,0,68,0,0,14,1,0,1,0,0,16,1,0,1,1,0,0,65,1,1,0,0,14,1,0,0,1,1,0,0,63,0,3,0,3,0,24,3,3,2,3,2,8,0,1,0,0,69,0,0,17,0,0,66,1,1,0,0,13,1,0,0,1,0,0,11,0,0,12,0,0,69,0,0,17,9,9,9,9,1,0,1] [] (fun n a f=>aB [a+50])
theorem ES (b c:Bool) (w:Yc) (p:af):aC (B0 (W b c w)) 1 (.call (.ref 86) ⟨[.str "a=2F" (p 0 0)],[]⟩) [] (fun d=>(.ret (.str "a/" (d 0)),[],[])):=
 aA (orcs:=[]) aq 573 0 [0,0,0,1,0,1,0,0,0,1,0,11,0,0,12,1,0,1,0,0,64,2,2,0,2,0,23,3,0,3,0,3,0,24,3,3,2,3,2,1,0,1,0,0,21,1,0,1,0,11,0,0,12,1,0,0,0,1,0,0,11,0,0,12,1,0,0,1,1,0,0,63,1,1,0,0,17,1,0,1,0,0,20,1,1,0,0,14,1,0,1,0,0,16,1,0,1,1,0,0,65,0,1,1,0,0,63,1,1,0,0,17,1,0,1,0,0,20,1,0,0,16,1,0,0,65,1,0,0,16,1,0,0,63,1,1,0,0,16,0,0,17,0,0,0,66,1,1,0,0,16,0,0,17,0,0,0,66,1,0,1,1,1,0,0,16,0,0,17,4,4,4,4,0,0,0,0,5,4,0,0,0,0,0,0,5,0,0,17,6,6,6,6,0,0,0,0,0,67,0,0,29,0,0,68,0,0,14,1,0,1,0,0,16,1,0,1,1,0,0,65,1,1,0,0,14,1,0,0,1,1,0,0,63,0,3,0,3,0,24,3,3,2,3,2,8,0,1,0,0,69,0,0,17,0,0,66,1,1,0,0,13,1,0,0,1,0,0,11,0,0,12,0,0,69,0,0,17,9,9,9,9,1,0,1] [] (fun n a f=>aB [a+59])
theorem ET (b c:Bool) (w:Yc) (p:af):aC (B0 (W b c w)) 1 (.call (.ref 86) ⟨[.str "=2F=2E" (p 0 0)],[]⟩) [] (fun d=>(.ret (.str "/." (d 0)),[],[])):=
 aA (orcs:=[]) aq 724 0 [0,0,0,1,0,1,0,0,0,1,0,11,0,0,12,1,0,1,0,0,64,2,2,0,2,0,23,3,0,3,0,3,0,24,3,3,2,3,2,1,0,1,0,0,21,1,0,1,0,11,0,0,12,1,0,0,0,1,0,0,11,0,0,12,1,0,0,1,1,0,0,63,1,1,0,0,17,1,0,1,0,0,20,1,0,0,16,1,0,0,65,1,0,0,16,1,0,0,63,1,1,0,0,16,0,0,17,0,0,0,66,1,1,0,0,16,0,0,17,0,0,0,66,1,0,1,1,1,0,0,16,0,0,17,4,4,4,4,0,0,0,0,5,4,0,0,0,0,0,0,5,0,0,17,6,6,6,6,0,0,0,0,0,67,0,0,29,0,0,68,0,0,14,1,0,1,0,0,16,1,0,1,1,0,0,65,0,1,1,0,0,63,1,1,0,0,17,1,0,1,0,0,20,1,0,0,16,1,0,0,65,1,0,0,16,1,0,0,63,1,1,0,0,16,0,0,17,0,0,0,66,1,1,0,0,16,0,0,17,0,0,0,66,1,0,1,1,1,0,0,16,0,0,17,7,7,7,7,0,0,0,0,8,7,0,0,0,0,0,0,8,0,0,17,9,9,9,9,0,0,0,0,0,67,0,0,29,0,0,68,0,0,14,1,0,1,0,0,16,1,0,1,1,0,0,65,1,1,0,0,14,1,0,0,1,1,0,0,63,0,3,0,3,0,24,3,3,2,3,2,11,0,1,0,0,69,0,0,17,0,0,66,1,1,0,0,13,1,0,0,1,0,0,11,0,0,12,0,0,69,0,0,17,12,12,12,12,1,0,1] [] (fun n a f=>aB [a+79])
theorem EU (b c:Bool) (w:Yc) (p:af):aC (B0 (W b c w)) 1 (.call (.ref 86) ⟨[.str "=2E=3D" (p 0 0)],[]⟩) [] (fun d=>(.ret (.str ".=" (d 0)),[],[])):=
 aA (orcs:=[]) aq 724 0 [0,0,0,1,0,1,0,0,0,1,0,11,0,0,12,1,0,1,0,0,64,2,2,0,2,0,23,3,0,3,0,3,0,24,3,3,2,3,2,1,0,1,0,0,21,1,0,1,0,11,0,0,12,1,0,0,0,1,0,0,11,0,0,12,1,0,0,1,1,0,0,63,1,1,0,0,17,1,0,1,0,0,20,1,0,0,16,1,0,0,65,1,0,0,16,1,0,0,63,1,1,0,0,16,0,0,17,0,0,0,66,1,1,0,0,16,0,0,17,0,0,0,66,1,0,1,1,1,0,0,16,0,0,17,4,4,4,4,0,0,0,0,5,4,0,0,0,0,0,0,5,0,0,17,6,6,6,6,0,0,0,0,0,67,0,0,29,0,0,68,0,0,14,1,0,1,0,0,16,1,0,1,1,0,0,65,0,1,1,0,0,63,1,1,0,0,17,1,0,1,0,0,20,1,0,0,16,1,0,0,65,1,0,0,16,1,0,0,63,1,1,0,0,16,0,0,17,0,0,0,66,1,1,0,0,16,0,0,17,0,0,0,66,1,0,1,1,1,0,0,16,0,0,17,7,7,7,7,0,0,0,0,8,7,0,0,0,0,0,0,8,0,0,17,9,9,9,9,0,0,0,0,0,67,0,0,29,0,0,68,0,0,14,1,0,1,0,0,16,1,0,1,1,0,0,65,1,1,0,0,14,1,0,0,1,1,0,0,63,0,3,0,3,0,24,3,3,2,3,2,11,0,1,0,0,69,0,0,17,0,0,66,1,1,0,0,13,1,0,0,1,0,0,11,0,0,12,0,0,69,0,0,17,12,12,12,12,1,0,1] [] (fun n a f=>aB [a+79])
theorem EV (b c:Bool) (w:Yc) (p:af):aC (B0 (W b c w)) 1 (.call (.ref 86) ⟨[.str "=3D=20" (p 0 0)],[]⟩) [] (fun d=>(.ret (.str "= " (d 0)),[],[])):=
 aA (orcs:=[]) aq 724 0 [0,0,0,1,0,1,0,0,0,1,0,11,0,0,12,1,0,1,0,0,64,2,2,0,2,0,23,3,0,3,0,3,0,24,3,3,2,3,2,1,0,1,0,0,21,1,0,1,0,11,0,0,12,1,0,0,0,1,0,0,11,0,0,12,1,0,0,1,1,0,0,63,1,1,0,0,17,1,0,1,0,0,20,1,0,0,16,1,0,0,65,1,0,0,16,1,0,0,63,1,1,0,0,16,0,0,17,0,0,0,66,1,1,0,0,16,0,0,17,0,0,0,66,1,0,1,1,1,0,0,16,0,0,17,4,4,4,4,0,0,0,0,5,4,0,0,0,0,0,0,5,0,0,17,6,6,6,6,0,0,0,0,0,67,0,0,29,0,0,68,0,0,14,1,0,1,0,0,16,1,0,1,1,0,0,65,0,1,1,0,0,63,1,1,0,0,17,1,0,1,0,0,20,1,0,0,16,1,0,0,65,1,0,0,16,1,0,0,63,1,1,0,0,16,0,0,17,0,0,0,66,1,1,0,0,16,0,0,17,0,0,0,66,1,0,1,1,1,0,0,16,0,0,17,7,7,7,7,0,0,0,0,8,7,0,0,0,0,0,0,8,0,0,17,9,9,9,9,0,0,0,0,0,67,0,0,29,0,0,68,0,0,14,1,0,1,0,0,16,1,0,1,1,0,0,65,1,1,0,0,14,1,0,0,1,1,0,0,63,0,3,0,3,0,24,3,3,2,3,2,11,0,1,0,0,69,0,0,17,0,0,66,1,1,0,0,13,1,0,0,1,0,0,11,0,0,12,0,0,69,0,0,17,12,12,12,12,1,0,1] [] (fun n a f=>aB [a+79])
theorem EW (b c:Bool) (w:Yc) (p:af):aC (B0 (W b c w)) 1 (.call (.ref 86) ⟨[.str "=20=E9" (p 0 0)],[]⟩) [] (fun d=>(.ret (.str " é" (d 0)),[],[])):=
 aA (orcs:=[]) aq 724 0 [0,0,0,1,0,1,0,0,0,1,0,11,0,0,12,1,0,1,0,0,64,2,2,0,2,0,23,3,0,3,0,3,0,24,3,3,2,3,2,1,0,1,0,0,21,1,0,1,0,11,0,0,12,1,0,0,0,1,0,0,11,0,0,12,1,0,0,1,1,0,0,63,1,1,0,0,17,1,0,1,0,0,20,1,0,0,16,1,0,0,65,1,0,0,16,1,0,0,63,1,1,0,0,16,0,0,17,0,0,0,66,1,1,0,0,16,0,0,17,0,0,0,66,1,0,1,1,1,0,0,16,0,0,17,4,4,4,4,0,0,0,0,5,4,0,0,0,0,0,0,5,0,0,17,6,6,6,6,0,0,0,0,0,67,0,0,29,0,0,68,0,0,14,1,0,1,0,0,16,1,0,1,1,0,0,65,0,1,1,0,0,63,1,1,0,0,17,1,0,1,0,0,20,1,0,0,16,1,0,0,65,1,0,0,16,1,0,0,63,1,1,0,0,16,0,0,17,0,0,0,66,1,1,0,0,16,0,0,17,0,0,0,66,1,0,1,1,1,0,0,16,0,0,17,7,7,7,7,0,0,0,0,8,7,0,0,0,0,0,0,8,0,0,17,9,9,9,9,0,0,0,0,0,67,0,0,29,0,0,68,0,0,14,1,0,1,0,0,16,1,0,1,1,0,0,65,1,1,0,0,14,1,0,0,1,1,0,0,63,0,3,0,3,0,24,3,3,2,3,2,11,0,1,0,0,69,0,0,17,0,0,66,1,1,0,0,13,1,0,0,1,0,0,11,0,0,12,0,0,69,0,0,17,12,12,12,12,1,0,1] [] (fun n a f=>aB [a+79])
theorem EX (b c:Bool) (w:Yc) (p:af):aC (B0 (W b c w)) 1 (.call (.ref 86) ⟨[.str "=E9a" (p 0 0)],[]⟩) [] (fun d=>(.ret (.str "éa" (d 0)),[],[])):=
 aA (orcs:=[]) aq 573 0 [0,0,0,1,0,1,0,0,0,1,0,11,0,0,12,1,0,1,0,0,64,2,2,0,2,0,23,3,0,3,0,3,0,24,3,3,2,3,2,1,0,1,0,0,21,1,0,1,0,11,0,0,12,1,0,0,0,1,0,0,11,0,0,12,1,0,0,1,1,0,0,63,1,1,0,0,17,1,0,1,0,0,20,1,0,0,16,1,0,0,65,1,0,0,16,1,0,0,63,1,1,0,0,16,0,0,17,0,0,0,66,1,1,0,0,16,0,0,17,0,0,0,66,1,0,1,1,1,0,0,16,0,0,17,4,4,4,4,0,0,0,0,5,4,0,0,0,0,0,0,5,0,0,17,6,6,6,6,0,0,0,0,0,67,0,0,29,0,0,68,0,0,14,1,0,1,0,0,16,1,0,1,1,0,0,65,0,1,1,0,0,63,1,1,0,0,17,1,0,1,0,0,20,1,1,0,0,14,1,0,1,0,0,16,1,0,1,1,0,0,65,1,1,0,0,14,1,0,0,1,1,0,0,63,0,3,0,3,0,24,3,3,2,3,2,8,0,1,0,0,69,0,0,17,0,0,66,1,1,0,0,13,1,0,0,1,0,0,11,0,0,12,0,0,69,0,0,17,9,9,9,9,1,0,1] [] (fun n a f=>aB [a+59])
theorem fc {α : Type} {P : α→Prop} {x : α} {l:List α} (h:P x) (r:∀a∈l,P a):∀a∈x::l,P a:=List.forall_mem_cons.mpr ⟨h,r⟩
theorem fn {α : Type} {P : α→Prop}:∀a∈([]:List α),P a:=fun _ h=>nomatch h
def sC (a:Str) (p:af):Code:=.call (.ref 86) ⟨[.str a (p 0 0)],[]⟩
def gC (x:Str) (a:Ye):Flow×Yf×Ya:=(.ret (.str x (a 0)),[],[])
theorem gD {B:bf} {x y:Str} {p:af} (e:b4 x=y) (D:aC B 1 (sC x p) [] (gC y)):aC B 1 (sC x p) [] (gC (b4 x)):=by
 rw [e];exact D
theorem EY (b c:Bool) (w:Yc) (p:af):∀a∈aD,aC (B0 (W b c w)) 1 (sC a p) [] (gC (b4 a)):=by
 unfold aD
 refine fc (gD (y:="") (by decide +kernel) (EL b c w p)) ?_
 refine fc (gD (y:="a") (by decide +kernel) (EM b c w p)) ?_
 refine fc (gD (y:="/") (by decide +kernel) (EN b c w p)) ?_
 refine fc (gD (y:=".") (by decide +kernel) (EO b c w p)) ?_
 refine fc (gD (y:="=") (by decide +kernel) (EP b c w p)) ?_
 refine fc (gD (y:=" ") (by decide +kernel) (EQ b c w p)) ?_
 refine fc (gD (y:="é") (by decide +kernel) (ER b c w p)) ?_
 refine fc (gD (y:="a/") (by decide +kernel) (ES b c w p)) ?_
 refine fc (gD (y:="/.") (by decide +kernel) (ET b c w p)) ?_
 refine fc (gD (y:=".=") (by decide +kernel) (EU b c w p)) ?_
 refine fc (gD (y:="= ") (by decide +kernel) (EV b c w p)) ?_
 refine fc (gD (y:=" é") (by decide +kernel) (EW b c w p)) ?_
 refine fc (gD (y:="éa") (by decide +kernel) (EX b c w p)) ?_
 exact fn
def ju (a:Str):aH:=bA (sC a) [] (fun _=>[]) fun _ b=>gC (b4 a) b
theorem ki {b c:Bool} {w:Yc} {m:Nat} (a:Str) (e:a∈aD) (d:1≤m):(ju a).Sure (B0 (W b c w)) m:=
 (bS (by decide) fun p=>EY b c w p a e).le d
theorem EZ (b:Bool) (w:Yc) (p:af):aC (B0 (W b false w)) 1 (.call (.ref 279) ⟨[.str "" (p 0 0)],[]⟩) [] (fun c=>(.ret (.str "=" (c 0)),[],[])):=
 aA (orcs:=[]) aq 23 0 [0,0,1,0,0,0,1,0,0,20] [] (fun n a f=>aB [a+2])
theorem E0 (b:Bool) (w:Yc) (p:af):aC (B0 (W b true w)) 1 (.call (.ref 279) ⟨[.str "" (p 0 0)],[]⟩) [] (fun c=>(.ret (.str "=" (c 0)),[],[])):=
 aA (orcs:=[]) aq 23 0 [0,0,1,0,0,0,1,0,0,20] [] (fun n a f=>aB [a+2])
theorem E1 (b:Bool) (w:Yc) (p:af):aC (B0 (W b false w)) 1 (.call (.ref 279) ⟨[.str "a" (p 0 0)],[]⟩) [] (fun c=>(.ret (.str "a" (c 0)),[],[])):=
 aA (orcs:=[]) aq 115 0 [0,0,1,0,0,0,1,0,0,20,1,0,0,74,2,0,2,2,0,2,0,86,2,0,2,0,2,0,87,2,2,2,1,4,3,4,0,0,25,4,0,3,0,26,3,2,3,0,2,0,2,0,87,2,2,2,1,6,4,4,3,0,0,27,3,3] [] (fun n a f=>aB [a+3])
theorem E2 (b:Bool) (w:Yc) (p:af):aC (B0 (W b true w)) 1 (.call (.ref 279) ⟨[.str "a" (p 0 0)],[]⟩) [] (fun c=>(.ret (.str "a" (c 0)),[],[])):=
 aA (orcs:=[]) aq 105 0 [0,0,1,0,0,0,1,0,0,20,1,0,0,74,2,0,0,2,0,2,0,87,2,2,2,1,4,3,4,0,0,25,4,0,3,0,26,3,2,3,0,2,0,2,0,87,2,2,2,1,6,4,4,3,0,0,27,3,3] [] (fun n a f=>aB [a+3])
theorem E3 (b:Bool) (w:Yc) (p:af):aC (B0 (W b false w)) 1 (.call (.ref 279) ⟨[.str "/" (p 0 0)],[]⟩) [] (fun a=>(.ret (.str "=2F" (a 0)),[],[])):=
 aA (orcs:=[]) aq 155 0 [0,0,1,0,0,0,1,0,0,20,1,0,0,74,2,0,2,2,0,2,0,86,2,0,2,0,2,0,87,2,2,2,1,4,3,4,0,0,25,0,4,0,0,0,0,5,4,0,0,0,0,0,5,0,0,77,0,0,0,0,0,0,54,0,0,3,0,26,3,2,3,0,2,0,2,0,87,2,2,2,1,7,4,4,3,0,0,27,3,3] [] (fun n c f=>aB [520])
theorem E4 (b:Bool) (w:Yc) (p:af):aC (B0 (W b true w)) 1 (.call (.ref 279) ⟨[.str "/" (p 0 0)],[]⟩) [] (fun a=>(.ret (.str "=2F" (a 0)),[],[])):=
 aA (orcs:=[]) aq 145 0 [0,0,1,0,0,0,1,0,0,20,1,0,0,74,2,0,0,2,0,2,0,87,2,2,2,1,4,3,4,0,0,25,0,4,0,0,0,0,5,4,0,0,0,0,0,5,0,0,77,0,0,0,0,0,0,54,0,0,3,0,26,3,2,3,0,2,0,2,0,87,2,2,2,1,7,4,4,3,0,0,27,3,3] [] (fun n c f=>aB [520])
theorem E5 (b:Bool) (w:Yc) (p:af):aC (B0 (W b false w)) 1 (.call (.ref 279) ⟨[.str "." (p 0 0)],[]⟩) [] (fun a=>(.ret (.str "=2E" (a 0)),[],[])):=
 aA (orcs:=[]) aq 155 0 [0,0,1,0,0,0,1,0,0,20,1,0,0,74,2,0,2,2,0,2,0,86,2,0,2,0,2,0,87,2,2,2,1,4,3,4,0,0,25,0,4,0,0,0,0,5,4,0,0,0,0,0,5,0,0,77,0,0,0,0,0,0,54,0,0,3,0,26,3,2,3,0,2,0,2,0,87,2,2,2,1,7,4,4,3,0,0,27,3,3] [] (fun n c f=>aB [516])
theorem E6 (b:Bool) (w:Yc) (p:af):aC (B0 (W b true w)) 1 (.call (.ref 279) ⟨[.str "." (p 0 0)],[]⟩) [] (fun a=>(.ret (.str "=2E" (a 0)),[],[])):=
 aA (orcs:=[]) aq 145 0 [0,0,1,0,0,0,1,0,0,20,1,0,0,74,2,0,0,2,0,2,0,87,2,2,2,1,4,3,4,0,0,25,0,4,0,0,0,0,5,4,0,0,0,0,0,5,0,0,77,0,0,0,0,0,0,54,0,0,3,0,26,3,2,3,0,2,0,2,0,87,2,2,2,1,7,4,4,3,0,0,27,3,3] [] (fun n c f=>aB [516])
theorem E7 (b:Bool) (w:Yc) (p:af):aC (B0 (W b false w)) 1 (.call (.ref 279) ⟨[.str "=" (p 0 0)],[]⟩) [] (fun a=>(.ret (.str "=3D" (a 0)),[],[])):=
 aA (orcs:=[]) aq 155 0 [0,0,1,0,0,0,1,0,0,20,1,0,0,74,2,0,2,2,0,2,0,86,2,0,2,0,2,0,87,2,2,2,1,4,3,4,0,0,25,0,4,0,0,0,0,5,4,0,0,0,0,0,5,0,0,77,0,0,0,0,0,0,54,0,0,3,0,26,3,2,3,0,2,0,2,0,87,2,2,2,1,7,4,4,3,0,0,27,3,3] [] (fun n c f=>aB [576])
theorem E8 (b:Bool) (w:Yc) (p:af):aC (B0 (W b true w)) 1 (.call (.ref 279) ⟨[.str "=" (p 0 0)],[]⟩) [] (fun a=>(.ret (.str "=3D" (a 0)),[],[])):=
 aA (orcs:=[]) aq 145 0 [0,0,1,0,0,0,1,0,0,20,1,0,0,74,2,0,0,2,0,2,0,87,2,2,2,1,4,3,4,0,0,25,0,4,0,0,0,0,5,4,0,0,0,0,0,5,0,0,77,0,0,0,0,0,0,54,0,0,3,0,26,3,2,3,0,2,0,2,0,87,2,2,2,1,7,4,4,3,0,0,27,3,3] [] (fun n c f=>aB [576])
theorem E9 (b:Bool) (w:Yc) (p:af):aC (B0 (W b false w)) 1 (.call (.ref 279) ⟨[.str " " (p 0 0)],[]⟩) [] (fun a=>(.ret (.str "=20" (a 0)),[],[])):=
 aA (orcs:=[]) aq 155 0 [0,0,1,0,0,0,1,0,0,20,1,0,0,74,2,0,2,2,0,2,0,86,2,0,2,0,2,0,87,2,2,2,1,4,3,4,0,0,25,0,4,0,0,0,0,5,4,0,0,0,0,0,5,0,0,77,0,0,0,0,0,0,54,0,0,3,0,26,3,2,3,0,2,0,2,0,87,2,2,2,1,7,4,4,3,0,0,27,3,3] [] (fun n c f=>aB [460])
theorem Fa (b:Bool) (w:Yc) (p:af):aC (B0 (W b true w)) 1 (.call (.ref 279) ⟨[.str " " (p 0 0)],[]⟩) [] (fun a=>(.ret (.str "=20" (a 0)),[],[])):=
 aA (orcs:=[]) aq 145 0 [0,0,1,0,0,0,1,0,0,20,1,0,0,74,2,0,0,2,0,2,0,87,2,2,2,1,4,3,4,0,0,25,0,4,0,0,0,0,5,4,0,0,0,0,0,5,0,0,77,0,0,0,0,0,0,54,0,0,3,0,26,3,2,3,0,2,0,2,0,87,2,2,2,1,7,4,4,3,0,0,27,3,3] [] (fun n c f=>aB [460])
theorem Fb (b:Bool) (w:Yc) (p:af):aC (B0 (W b false w)) 1 (.call (.ref 279) ⟨[.str "é" (p 0 0)],[]⟩) [] (fun a=>(.ret (.str "=E9" (a 0)),[],[])):=
 aA (orcs:=[]) aq 155 0 [0,0,1,0,0,0,1,0,0,20,1,0,0,74,2,0,2,2,0,2,0,75,2,0,2,0,2,0,76,2,2,2,1,4,3,4,0,0,25,0,4,0,0,0,0,5,4,0,0,0,0,0,5,0,0,77,0,0,0,0,0,0,54,0,0,3,0,26,3,2,3,0,2,0,2,0,76,2,2,2,1,7,4,4,3,0,0,27,3,3] [] (fun n c f=>aB [1264])
theorem Fc (b:Bool) (w:Yc) (p:af):aC (B0 (W b true w)) 1 (.call (.ref 279) ⟨[.str "é" (p 0 0)],[]⟩) [] (fun a=>(.ret (.str "=E9" (a 0)),[],[])):=
 aA (orcs:=[]) aq 145 0 [0,0,1,0,0,0,1,0,0,20,1,0,0,74,2,0,0,2,0,2,0,76,2,2,2,1,4,3,4,0,0,25,0,4,0,0,0,0,5,4,0,0,0,0,0,5,0,0,77,0,0,0,0,0,0,54,0,0,3,0,26,3,2,3,0,2,0,2,0,76,2,2,2,1,7,4,4,3,0,0,27,3,3] [] (fun n c f=>aB [1264])
theorem Fd (b:Bool) (w:Yc) (p:af):aC (B0 (W b false w)) 1 (.call (.ref 279) ⟨[.str "a/" (p 0 0)],[]⟩) [] (fun c=>(.ret (.str "a=2F" (c 0)),[],[])):=
 aA (orcs:=[]) aq 191 0 [0,0,1,0,0,0,1,0,0,20,1,0,0,74,2,0,2,2,0,2,0,86,2,0,2,0,2,0,87,2,2,2,1,4,3,4,0,0,25,4,0,3,0,26,3,2,3,0,2,0,2,0,87,2,2,2,1,4,3,4,0,0,25,0,4,0,0,0,0,5,4,0,0,0,0,0,5,0,0,77,0,0,0,0,0,0,54,0,0,3,0,26,3,2,3,0,2,0,2,0,87,2,2,2,1,7,4,4,3,0,0,27,3,3] [] (fun n a f=>aB [a+11])
theorem Fe (b:Bool) (w:Yc) (p:af):aC (B0 (W b true w)) 1 (.call (.ref 279) ⟨[.str "a/" (p 0 0)],[]⟩) [] (fun c=>(.ret (.str "a=2F" (c 0)),[],[])):=
 aA (orcs:=[]) aq 181 0 [0,0,1,0,0,0,1,0,0,20,1,0,0,74,2,0,0,2,0,2,0,87,2,2,2,1,4,3,4,0,0,25,4,0,3,0,26,3,2,3,0,2,0,2,0,87,2,2,2,1,4,3,4,0,0,25,0,4,0,0,0,0,5,4,0,0,0,0,0,5,0,0,77,0,0,0,0,0,0,54,0,0,3,0,26,3,2,3,0,2,0,2,0,87,2,2,2,1,7,4,4,3,0,0,27,3,3] [] (fun n a f=>aB [a+11])
theorem Ff (b:Bool) (w:Yc) (p:af):aC (B0 (W b false w)) 1 (.call (.ref 279) ⟨[.str "/." (p 0 0)],[]⟩) [] (fun c=>(.ret (.str "=2F=2E" (c 0)),[],[])):=
 aA (orcs:=[]) aq 231 0 [0,0,1,0,0,0,1,0,0,20,1,0,0,74,2,0,2,2,0,2,0,86,2,0,2,0,2,0,87,2,2,2,1,4,3,4,0,0,25,0,4,0,0,0,0,5,4,0,0,0,0,0,5,0,0,77,0,0,0,0,0,0,54,0,0,3,0,26,3,2,3,0,2,0,2,0,87,2,2,2,1,4,3,4,0,0,25,0,4,0,0,0,0,6,5,0,0,0,0,0,6,0,0,77,0,0,0,0,0,0,54,0,0,3,0,26,3,2,3,0,2,0,2,0,87,2,2,2,1,8,4,4,3,0,0,27,3,3] [] (fun n a f=>aB [a+13])
theorem Fg (b:Bool) (w:Yc) (p:af):aC (B0 (W b true w)) 1 (.call (.ref 279) ⟨[.str "/." (p 0 0)],[]⟩) [] (fun c=>(.ret (.str "=2F=2E" (c 0)),[],[])):=
 aA (orcs:=[]) aq 221 0 [0,0,1,0,0,0,1,0,0,20,1,0,0,74,2,0,0,2,0,2,0,87,2,2,2,1,4,3,4,0,0,25,0,4,0,0,0,0,5,4,0,0,0,0,0,5,0,0,77,0,0,0,0,0,0,54,0,0,3,0,26,3,2,3,0,2,0,2,0,87,2,2,2,1,4,3,4,0,0,25,0,4,0,0,0,0,6,5,0,0,0,0,0,6,0,0,77,0,0,0,0,0,0,54,0,0,3,0,26,3,2,3,0,2,0,2,0,87,2,2,2,1,8,4,4,3,0,0,27,3,3] [] (fun n a f=>aB [a+13])
theorem Fh (b:Bool) (w:Yc) (p:af):aC (B0 (W b false w)) 1 (.call (.ref 279) ⟨[.str ".=" (p 0 0)],[]⟩) [] (fun c=>(.ret (.str "=2E=3D" (c 0)),[],[])):=
 aA (orcs:=[]) aq 231 0 [0,0,1,0,0,0,1,0,0,20,1,0,0,74,2,0,2,2,0,2,0,86,2,0,2,0,2,0,87,2,2,2,1,4,3,4,0,0,25,0,4,0,0,0,0,5,4,0,0,0,0,0,5,0,0,77,0,0,0,0,0,0,54,0,0,3,0,26,3,2,3,0,2,0,2,0,87,2,2,2,1,4,3,4,0,0,25,0,4,0,0,0,0,6,5,0,0,0,0,0,6,0,0,77,0,0,0,0,0,0,54,0,0,3,0,26,3,2,3,0,2,0,2,0,87,2,2,2,1,8,4,4,3,0,0,27,3,3] [] (fun n a f=>aB [a+13])
theorem Fi (b:Bool) (w:Yc) (p:af):aC (B0 (W b true w)) 1 (.call (.ref 279) ⟨[.str ".=" (p 0 0)],[]⟩) [] (fun c=>(.ret (.str "=2E=3D" (c 0)),[],[])):=
 aA (orcs:=[]) aq 221 0 [0,0,1,0,0,0,1,0,0,20,1,0,0,74,2,0,0,2,0,2,0,87,2,2,2,1,4,3,4,0,0,25,0,4,0,0,0,0,5,4,0,0,0,0,0,5,0,0,77,0,0,0,0,0,0,54,0,0,3,0,26,3,2,3,0,2,0,2,0,87,2,2,2,1,4,3,4,0,0,25,0,4,0,0,0,0,6,5,0,0,0,0,0,6,0,0,77,0,0,0,0,0,0,54,0,0,3,0,26,3,2,3,0,2,0,2,0,87,2,2,2,1,8,4,4,3,0,0,27,3,3] [] (fun n a f=>aB [a+13])
theorem Fj (b:Bool) (w:Yc) (p:af):aC (B0 (W b false w)) 1 (.call (.ref 279) ⟨[.str "= " (p 0 0)],[]⟩) [] (fun c=>(.ret (.str "=3D=20" (c 0)),[],[])):=
 aA (orcs:=[]) aq 231 0 [0,0,1,0,0,0,1,0,0,20,1,0,0,74,2,0,2,2,0,2,0,86,2,0,2,0,2,0,87,2,2,2,1,4,3,4,0,0,25,0,4,0,0,0,0,5,4,0,0,0,0,0,5,0,0,77,0,0,0,0,0,0,54,0,0,3,0,26,3,2,3,0,2,0,2,0,87,2,2,2,1,4,3,4,0,0,25,0,4,0,0,0,0,6,5,0,0,0,0,0,6,0,0,77,0,0,0,0,0,0,54,0,0,3,0,26,3,2,3,0,2,0,2,0,87,2,2,2,1,8,4,4,3,0,0,27,3,3] [] (fun n a f=>aB [a+13])
theorem Fk (b:Bool) (w:Yc) (p:af):aC (B0 (W b true w)) 1 (.call (.ref 279) ⟨[.str "= " (p 0 0)],[]⟩) [] (fun c=>(.ret (.str "=3D=20" (c 0)),[],[])):=
 aA (orcs:=[]) aq 221 0 [0,0,1,0,0,0,1,0,0,20,1,0,0,74,2,0,0,2,0,2,0,87,2,2,2,1,4,3,4,0,0,25,0,4,0,0,0,0,5,4,0,0,0,0,0,5,0,0,77,0,0,0,0,0,0,54,0,0,3,0,26,3,2,3,0,2,0,2,0,87,2,2,2,1,4,3,4,0,0,25,0,4,0,0,0,0,6,5,0,0,0,0,0,6,0,0,77,0,0,0,0,0,0,54,0,0,3,0,26,3,2,3,0,2,0,2,0,87,2,2,2,1,8,4,4,3,0,0,27,3,3] [] (fun n a f=>aB [a+13])
theorem Fl (b:Bool) (w:Yc) (p:af):aC (B0 (W b false w)) 1 (.call (.ref 279) ⟨[.str " é" (p 0 0)],[]⟩) [] (fun c=>(.ret (.str "=20=E9" (c 0)),[],[])):=
 aA (orcs:=[]) aq 231 0 [0,0,1,0,0,0,1,0,0,20,1,0,0,74,2,0,2,2,0,2,0,75,2,0,2,0,2,0,76,2,2,2,1,4,3,4,0,0,25,0,4,0,0,0,0,5,4,0,0,0,0,0,5,0,0,77,0,0,0,0,0,0,54,0,0,3,0,26,3,2,3,0,2,0,2,0,76,2,2,2,1,4,3,4,0,0,25,0,4,0,0,0,0,6,5,0,0,0,0,0,6,0,0,77,0,0,0,0,0,0,54,0,0,3,0,26,3,2,3,0,2,0,2,0,76,2,2,2,1,8,4,4,3,0,0,27,3,3] [] (fun n a f=>aB [a+13])
theorem Fm (b:Bool) (w:Yc) (p:af):aC (B0 (W b true w)) 1 (.call (.ref 279) ⟨[.str " é" (p 0 0)],[]⟩) [] (fun c=>(.ret (.str "=20=E9" (c 0)),[],[])):=
 aA (orcs:=[]) aq 221 0 [0,0,1,0,0,0,1,0,0,20,1,0,0,74,2,0,0,2,0,2,0,76,2,2,2,1,4,3,4,0,0,25,0,4,0,0,0,0,5,4,0,0,0,0,0,5,0,0,77,0,0,0,0,0,0,54,0,0,3,0,26,3,2,3,0,2,0,2,0,76,2,2,2,1,4,3,4,0,0,25,0,4,0,0,0,0,6,5,0,0,0,0,0,6,0,0,77,0,0,0,0,0,0,54,0,0,3,0,26,3,2,3,0,2,0,2,0,76,2,2,2,1,8,4,4,3,0,0,27,3,3] [] (fun n a f=>aB [a+13])
theorem Fn (b:Bool) (w:Yc) (p:af):aC (B0 (W b false w)) 1 (.call (.ref 279) ⟨[.str "éa" (p 0 0)],[]⟩) [] (fun c=>(.ret (.str "=E9a" (c 0)),[],[])):=
 aA (orcs:=[]) aq 191 0 [0,0,1,0,0,0,1,0,0,20,1,0,0,74,2,0,2,2,0,2,0,75,2,0,2,0,2,0,76,2,2,2,1,4,3,4,0,0,25,0,4,0,0,0,0,5,4,0,0,0,0,0,5,0,0,77,0,0,0,0,0,0,54,0,0,3,0,26,3,2,3,0,2,0,2,0,76,2,2,2,1,4,3,4,0,0,25,4,0,3,0,26,3,2,3,0,2,0,2,0,76,2,2,2,1,7,4,4,3,0,0,27,3,3] [] (fun n a f=>aB [a+11])
theorem Fo (b:Bool) (w:Yc) (p:af):aC (B0 (W b true w)) 1 (.call (.ref 279) ⟨[.str "éa" (p 0 0)],[]⟩) [] (fun c=>(.ret (.str "=E9a" (c 0)),[],[])):=
 aA (orcs:=[]) aq 181 0 [0,0,1,0,0,0,1,0,0,20,1,0,0,74,2,0,0,2,0,2,0,76,2,2,2,1,4,3,4,0,0,25,0,4,0,0,0,0,5,4,0,0,0,0,0,5,0,0,77,0,0,0,0,0,0,54,0,0,3,0,26,3,2,3,0,2,0,2,0,76,2,2,2,1,4,3,4,0,0,25,4,0,3,0,26,3,2,3,0,2,0,2,0,76,2,2,2,1,7,4,4,3,0,0,27,3,3] [] (fun n a f=>aB [a+11])
def ao (x:Str):Str:=uW (b1.zip aD) x
def ph (a:Str) (p:af):Code:=.call (.ref 279) ⟨[.str a (p 0 0)],[]⟩
theorem gE {b c:Bool} {w:Yc} {x y:Str} {p:af} (e:ao x=y) (D:aC (B0 (W b false w)) 1 (ph x p) [] (gC y)) (a:aC (B0 (W b true w)) 1 (ph x p) [] (gC y)):aC (B0 (W b c w)) 1 (ph x p) [] (gC (ao x)):=by
 rw [e]
 cases c with
 | false=>exact D
 | true=>exact a
theorem Fp (b c:Bool) (w:Yc) (p:af):∀a∈b1,aC (B0 (W b c w)) 1 (ph a p) [] (gC (ao a)):=by
 unfold b1
 refine fc (gE (y:="=") (by decide +kernel) (EZ b w p) (E0 b w p)) ?_
 refine fc (gE (y:="a") (by decide +kernel) (E1 b w p) (E2 b w p)) ?_
 refine fc (gE (y:="=2F") (by decide +kernel) (E3 b w p) (E4 b w p)) ?_
 refine fc (gE (y:="=2E") (by decide +kernel) (E5 b w p) (E6 b w p)) ?_
 refine fc (gE (y:="=3D") (by decide +kernel) (E7 b w p) (E8 b w p)) ?_
 refine fc (gE (y:="=20") (by decide +kernel) (E9 b w p) (Fa b w p)) ?_
 refine fc (gE (y:="=E9") (by decide +kernel) (Fb b w p) (Fc b w p)) ?_
 refine fc (gE (y:="a=2F") (by decide +kernel) (Fd b w p) (Fe b w p)) ?_
 refine fc (gE (y:="=2F=2E") (by decide +kernel) (Ff b w p) (Fg b w p)) ?_
 refine fc (gE (y:="=2E=3D") (by decide +kernel) (Fh b w p) (Fi b w p)) ?_
 refine fc (gE (y:="=3D=20") (by decide +kernel) (Fj b w p) (Fk b w p)) ?_
 refine fc (gE (y:="=20=E9") (by decide +kernel) (Fl b w p) (Fm b w p)) ?_
 refine fc (gE (y:="=E9a") (by decide +kernel) (Fn b w p) (Fo b w p)) ?_
 exact fn
def ll (a:Str):aH:=bA (ph a) [] (fun _=>[]) fun _ b=>gC (ao a) b
theorem mZ {b c:Bool} {w:Yc} {m:Nat} (a:Str) (e:a∈b1) (d:1≤m):(ll a).Sure (B0 (W b c w)) m:=
 (bS (by decide) fun p=>Fp b c w p a e).le d
section
open PySem.Builtin PySem.Builtin.Str
def uX:Yg:=["","a","a/","","/","/.","",".",".=","","=","= ",""," "," é","","é","éa"]
def ci (g:Int):Str:=(bW uX g.toNat).getD ""
def jv (g:Int):Prop:=g.fmod 3=0∧ci g=""
def jw (g:Int):Prop:=∃h b a,g.fmod 3=1∧g.fdiv 3=h∧(h+0).fmod 6=b∧bK b a∧Txt.join "" [a]=ci g∧JoinOk "" [a]=true
def jx (g:Int):Prop:=∃h d a c b,g.fmod 3=2∧g.fdiv 3=h∧(h+0).fmod 6=d∧bK d a∧(h+1).fmod 6=c∧bK c b∧Txt.join "" [a,b]=ci g∧JoinOk "" [a,b]=true
theorem uY:bK 0 "a" := ⟨97,by decide +kernel,by decide +kernel,by decide +kernel⟩
theorem uZ:bK 1 "/" := ⟨47,by decide +kernel,by decide +kernel,by decide +kernel⟩
theorem u0:bK 2 "." := ⟨46,by decide +kernel,by decide +kernel,by decide +kernel⟩
theorem u1:bK 3 "=" := ⟨61,by decide +kernel,by decide +kernel,by decide +kernel⟩
theorem u2:bK 4 " " := ⟨32,by decide +kernel,by decide +kernel,by decide +kernel⟩
theorem u3:bK 5 "é" := ⟨233,by decide +kernel,by decide +kernel,by decide +kernel⟩
theorem Fq:jv 0:=⟨by decide +kernel,by decide +kernel⟩
theorem Fr:jw 1:=⟨0,0,"a",by decide +kernel,by decide +kernel,by decide +kernel,uY,by decide +kernel,by decide +kernel⟩
theorem Fs:jx 2:=⟨0,0,"a",1,"/",by decide +kernel,by decide +kernel,by decide +kernel,uY,by decide +kernel,uZ,by decide +kernel,by decide +kernel⟩
theorem Ft:jv 3:=⟨by decide +kernel,by decide +kernel⟩
theorem Fu:jw 4:=⟨1,1,"/",by decide +kernel,by decide +kernel,by decide +kernel,uZ,by decide +kernel,by decide +kernel⟩
theorem Fv:jx 5:=⟨1,1,"/",2,".",by decide +kernel,by decide +kernel,by decide +kernel,uZ,by decide +kernel,u0,by decide +kernel,by decide +kernel⟩
theorem Fw:jv 6:=⟨by decide +kernel,by decide +kernel⟩
theorem Fx:jw 7:=⟨2,2,".",by decide +kernel,by decide +kernel,by decide +kernel,u0,by decide +kernel,by decide +kernel⟩
theorem Fy:jx 8:=⟨2,2,".",3,"=",by decide +kernel,by decide +kernel,by decide +kernel,u0,by decide +kernel,u1,by decide +kernel,by decide +kernel⟩
theorem Fz:jv 9:=⟨by decide +kernel,by decide +kernel⟩
theorem FA:jw 10:=⟨3,3,"=",by decide +kernel,by decide +kernel,by decide +kernel,u1,by decide +kernel,by decide +kernel⟩
theorem FB:jx 11:=⟨3,3,"=",4," ",by decide +kernel,by decide +kernel,by decide +kernel,u1,by decide +kernel,u2,by decide +kernel,by decide +kernel⟩
theorem FC:jv 12:=⟨by decide +kernel,by decide +kernel⟩
theorem FD:jw 13:=⟨4,4," ",by decide +kernel,by decide +kernel,by decide +kernel,u2,by decide +kernel,by decide +kernel⟩
theorem FE:jx 14:=⟨4,4," ",5,"é",by decide +kernel,by decide +kernel,by decide +kernel,u2,by decide +kernel,u3,by decide +kernel,by decide +kernel⟩
theorem FF:jv 15:=⟨by decide +kernel,by decide +kernel⟩
theorem FG:jw 16:=⟨5,5,"é",by decide +kernel,by decide +kernel,by decide +kernel,u3,by decide +kernel,by decide +kernel⟩
theorem FH:jx 17:=⟨5,5,"é",0,"a",by decide +kernel,by decide +kernel,by decide +kernel,u3,by decide +kernel,uY,by decide +kernel,by decide +kernel⟩
theorem zw (g:Int) (b:0≤g) (a:g<18):jv g∨jw g∨jx g:=by
 have:g=0∨g=1∨g=2∨g=3∨g=4∨g=5∨g=6∨g=7∨g=8∨g=9∨g=10∨g=11∨g=12∨g=13∨g=14∨g=15∨g=16∨g=17:=by lia
 rcases this with rfl | rfl | rfl | rfl | rfl | rfl | rfl | rfl | rfl | rfl | rfl | rfl | rfl | rfl | rfl | rfl | rfl | rfl
 ·exact .inl Fq
 ·exact .inr (.inl Fr)
 ·exact .inr (.inr Fs)
 ·exact .inl Ft
 ·exact .inr (.inl Fu)
 ·exact .inr (.inr Fv)
 ·exact .inl Fw
 ·exact .inr (.inl Fx)
 ·exact .inr (.inr Fy)
 ·exact .inl Fz
 ·exact .inr (.inl FA)
 ·exact .inr (.inr FB)
 ·exact .inl FC
 ·exact .inr (.inl FD)
 ·exact .inr (.inr FE)
 ·exact .inl FF
 ·exact .inr (.inl FG)
 ·exact .inr (.inr FH)
theorem u4 (g:Int):ci g∈b1:=by
 have:∀x∈uX,x∈b1:=by decide +kernel
 unfold ci
 cases e:bW uX g.toNat with
 | none=>decide +kernel
 | some y=>exact this y (dn e)
def b2 (x:Int):Int:=((x.fdiv 2).fdiv 1).fmod 18
def cu (x:Int):Int:=((x.fdiv 2).fdiv 18).fmod 18
theorem FI (x:Int):jv (b2 x)∨jw (b2 x)∨jx (b2 x):=zw _ (Int.fmod_nonneg_of_pos _ (by decide)) (Int.fmod_lt_of_pos _ (by decide))
theorem FJ (x:Int):jv (cu x)∨jw (cu x)∨jx (cu x):=zw _ (Int.fmod_nonneg_of_pos _ (by decide)) (Int.fmod_lt_of_pos _ (by decide))
def fL (x:Int):Yg:=if x.fmod 2=0 then [ci (b2 x)] else [ci (b2 x),ci (cu x)]
def u5 (x:Int) (p:af):Code:=.call (.ref 274) ⟨[.int x (p 0 0)],[]⟩
def u6 (l:Yg) (a:Ye):Flow×Yf×Ya:=(.ret (.ref (a 0)),[],[(a 0,ab (cR l a 1) l.length)])
theorem FK (b c:Bool) (w:Yc) (x:Int) (p:af):aC (B0 (W b c w)) 1 (u5 x p) [] (u6 (fL x)):=by
 unfold fL
 have L:=FI x
 have K:=FJ x
 rcases (show x.fmod 2=0∨x.fmod 2=1 by have:=Int.fmod_nonneg_of_pos x (b:=2) (by decide);have:=Int.fmod_lt_of_pos x (b:=2) (by decide);lia) with e | e
 ·rw [if_pos e]
  rcases L with ⟨u,n⟩ | ⟨h,q,s,u,v,m,k,j,o⟩ | ⟨h,q,s,G,I,u,v,m,k,F,H,j,o⟩
  ·rw [n];cases c;exact Ee b w x (x.fdiv 2) ((x.fdiv 2).fdiv 1) (b2 x) e rfl rfl rfl u p;exact Ef b w x (x.fdiv 2) ((x.fdiv 2).fdiv 1) (b2 x) e rfl rfl rfl u p
  ·cases c;exact Eg b w x (x.fdiv 2) ((x.fdiv 2).fdiv 1) (b2 x) h q s (ci (b2 x)) e rfl rfl rfl u v m k j o p;exact Eh b w x (x.fdiv 2) ((x.fdiv 2).fdiv 1) (b2 x) h q s (ci (b2 x)) e rfl rfl rfl u v m k j o p
  ·cases c;exact Ei b w x (x.fdiv 2) ((x.fdiv 2).fdiv 1) (b2 x) h q s G I (ci (b2 x)) e rfl rfl rfl u v m k F H j o p;exact Ej b w x (x.fdiv 2) ((x.fdiv 2).fdiv 1) (b2 x) h q s G I (ci (b2 x)) e rfl rfl rfl u v m k F H j o p
 ·rw [if_neg (by lia)]
  rcases L with ⟨u,n⟩ | ⟨h,q,s,u,v,m,k,j,o⟩ | ⟨h,q,s,G,I,u,v,m,k,F,H,j,o⟩
  ·rcases K with ⟨i,J⟩ | ⟨t,d,g,i,D,a,f,z,B⟩ | ⟨t,d,g,y,A,i,D,a,f,C,E,z,B⟩
   ·rw [n,J];cases c;exact Ek b w x (x.fdiv 2) ((x.fdiv 2).fdiv 1) (b2 x) ((x.fdiv 2).fdiv 18) (cu x) e rfl rfl rfl u rfl rfl i p;exact El b w x (x.fdiv 2) ((x.fdiv 2).fdiv 1) (b2 x) ((x.fdiv 2).fdiv 18) (cu x) e rfl rfl rfl u rfl rfl i p
   ·rw [n];cases c;exact Em b w x (x.fdiv 2) ((x.fdiv 2).fdiv 1) (b2 x) ((x.fdiv 2).fdiv 18) (cu x) t d g (ci (cu x)) e rfl rfl rfl u rfl rfl i D a f z B p;exact Eo b w x (x.fdiv 2) ((x.fdiv 2).fdiv 1) (b2 x) ((x.fdiv 2).fdiv 18) (cu x) t d g (ci (cu x)) e rfl rfl rfl u rfl rfl i D a f z B p
   ·rw [n];cases c;exact Ep b w x (x.fdiv 2) ((x.fdiv 2).fdiv 1) (b2 x) ((x.fdiv 2).fdiv 18) (cu x) t d g y A (ci (cu x)) e rfl rfl rfl u rfl rfl i D a f C E z B p;exact Eq b w x (x.fdiv 2) ((x.fdiv 2).fdiv 1) (b2 x) ((x.fdiv 2).fdiv 18) (cu x) t d g y A (ci (cu x)) e rfl rfl rfl u rfl rfl i D a f C E z B p
  ·rcases K with ⟨i,J⟩ | ⟨t,d,g,i,D,a,f,z,B⟩ | ⟨t,d,g,y,A,i,D,a,f,C,E,z,B⟩
   ·rw [J];cases c;exact Es b w x (x.fdiv 2) ((x.fdiv 2).fdiv 1) (b2 x) h q s (ci (b2 x)) ((x.fdiv 2).fdiv 18) (cu x) e rfl rfl rfl u v m k j o rfl rfl i p;exact Et b w x (x.fdiv 2) ((x.fdiv 2).fdiv 1) (b2 x) h q s (ci (b2 x)) ((x.fdiv 2).fdiv 18) (cu x) e rfl rfl rfl u v m k j o rfl rfl i p
   ·cases c;exact Eu b w x (x.fdiv 2) ((x.fdiv 2).fdiv 1) (b2 x) h q s (ci (b2 x)) ((x.fdiv 2).fdiv 18) (cu x) t d g (ci (cu x)) e rfl rfl rfl u v m k j o rfl rfl i D a f z B p;exact Ev b w x (x.fdiv 2) ((x.fdiv 2).fdiv 1) (b2 x) h q s (ci (b2 x)) ((x.fdiv 2).fdiv 18) (cu x) t d g (ci (cu x)) e rfl rfl rfl u v m k j o rfl rfl i D a f z B p
   ·cases c;exact Ew b w x (x.fdiv 2) ((x.fdiv 2).fdiv 1) (b2 x) h q s (ci (b2 x)) ((x.fdiv 2).fdiv 18) (cu x) t d g y A (ci (cu x)) e rfl rfl rfl u v m k j o rfl rfl i D a f C E z B p;exact Ex b w x (x.fdiv 2) ((x.fdiv 2).fdiv 1) (b2 x) h q s (ci (b2 x)) ((x.fdiv 2).fdiv 18) (cu x) t d g y A (ci (cu x)) e rfl rfl rfl u v m k j o rfl rfl i D a f C E z B p
  ·rcases K with ⟨i,J⟩ | ⟨t,d,g,i,D,a,f,z,B⟩ | ⟨t,d,g,y,A,i,D,a,f,C,E,z,B⟩
   ·rw [J];cases c;exact Ey b w x (x.fdiv 2) ((x.fdiv 2).fdiv 1) (b2 x) h q s G I (ci (b2 x)) ((x.fdiv 2).fdiv 18) (cu x) e rfl rfl rfl u v m k F H j o rfl rfl i p;exact Ez b w x (x.fdiv 2) ((x.fdiv 2).fdiv 1) (b2 x) h q s G I (ci (b2 x)) ((x.fdiv 2).fdiv 18) (cu x) e rfl rfl rfl u v m k F H j o rfl rfl i p
   ·cases c;exact EA b w x (x.fdiv 2) ((x.fdiv 2).fdiv 1) (b2 x) h q s G I (ci (b2 x)) ((x.fdiv 2).fdiv 18) (cu x) t d g (ci (cu x)) e rfl rfl rfl u v m k F H j o rfl rfl i D a f z B p;exact EB b w x (x.fdiv 2) ((x.fdiv 2).fdiv 1) (b2 x) h q s G I (ci (b2 x)) ((x.fdiv 2).fdiv 18) (cu x) t d g (ci (cu x)) e rfl rfl rfl u v m k F H j o rfl rfl i D a f z B p
   ·cases c;exact EC b w x (x.fdiv 2) ((x.fdiv 2).fdiv 1) (b2 x) h q s G I (ci (b2 x)) ((x.fdiv 2).fdiv 18) (cu x) t d g y A (ci (cu x)) e rfl rfl rfl u v m k F H j o rfl rfl i D a f C E z B p;exact ED b w x (x.fdiv 2) ((x.fdiv 2).fdiv 1) (b2 x) h q s G I (ci (b2 x)) ((x.fdiv 2).fdiv 18) (cu x) t d g y A (ci (cu x)) e rfl rfl rfl u v m k F H j o rfl rfl i D a f C E z B p
def FL (x:Int):aH:=bA (u5 x) [] (fun _=>[]) fun _ a=>u6 (fL x) a
theorem FM {b c:Bool} {w:Yc} {m:Nat} (x:Int) (a:1≤m):(FL x).Sure (B0 (W b c w)) m:=
 (bS (by decide) fun p=>FK b c w x p).le a
end
section
variable {B:bf} {m:Nat}
def lm (j:Nat) (a:Yb):aH:=iS "list.append" j a (fun p=>[.ref (p 0 1)]) (fun _ _=>.none) fun p=>a++[.ref (p 0 1)]
theorem m0 {j:Nat} {a:Yb} (c:a.length≤1000):(lm j a).Sure B m:=by
 refine lj fun p A s Q E b h => ?_
 have e:IsL s.heap (p 1 0) a.toArray (p 1 1):=b
 refine call_meets F.slot_list_append ⟨_,b,rfl⟩ F.entry_list_append (F.args_list_append_2 _ _) (list_append (p 1 0) a.toArray (p 1 1) (.ref (p 0 1)) (by rw [List.size_toArray];exact Nat.le_trans c (by decide))) ⟨b,?_⟩
 have d:Heap.SameBut (p 1 0) s.heap (s.heap.update (p 1 0) (Obj.mapSeq fun y=>y.push (.ref (p 0 1)))):=Heap.SameBut.update ..
 refine h _ (fun _=>p 1 1+1) s.toks d ?_
 refine (Heap.get?_update_self _ b rfl).trans ?_
 show some (Obj.mapSeq _ (ab a (p 1 1)))=some (ab (a++[.ref (p 0 1)]) (p 1 1+1))
 unfold Obj.mapSeq ab
 simp
end
noncomputable def aE (l:Yg) (a:Ye):Addr×Obj:=(a 0,ab (cR l (fun i=>a (i+1)) 0) l.length)
theorem zx (a:Ye):∀(l:Yg) (i:Nat),cR l a (i+1)=cR l (fun j=>a (j+1)) i
 | [],_=>rfl
 | x::l,i=>by
  show Value.str x (a (i+1))::cR l a (i+1+1)=Value.str x (a (i+1))::cR l (fun j=>a (j+1)) (i+1)
  rw [zx a l (i+1)]
def sD (x:Int):aH:=bA (u5 x) [] (fun _=>[]) fun _ a=>(.ret (.ref (a 0)),[],[aE (fL x) a])
theorem zy {b c:Bool} {w:Yc} {m:Nat} (x:Int) (d:1≤m):(sD x).Sure (B0 (W b c w)) m:=by
 have e:(fun a:Nat→Nat=>(Flow.ret (.ref (a 0)),([]:Yf),[aE (fL x) a]))=u6 (fL x):=by
  funext a
  show _=(Flow.ret (.ref (a 0)),([]:Yf),[(a 0,ab (cR (fL x) a (0+1)) (fL x).length)])
  rw [zx]
  rfl
 unfold sD
 rw [e]
 exact FM x d
def pi:List (Str×Addr)→Yh→List (Str×Addr)
 | e::l,a::r=>(e.1,a)::pi l r
 | _,_=>[]
section
def u7:Code:=.call (.ref 291) ⟨[.ref 900],[]⟩
def u8:Kn:=[(900,ab [.int 3 77] 0)]
noncomputable def aw (w:Yc) (a:List (Str×Nat×Yd)) (n:Nat):Obj:={cls:=.type "dict",data:=.dict (a.map fun e=>⟨reduceHash (w.params.strHash e.1.cps),.str e.1 e.2.1,e.2.2⟩).toArray n}
def fM (w:Yc):Code:=o9 (gw false false w [] 80 [0,0,2,1,0,0,2,1,1,1,0,1,0,54,5,5,5,5,5,1,6,7,6,0,6,0,85,7,6,7,8,8,0,8,0,23,9,1] 0 (fun _=>(0,0,id)) u7 u8 1000 0)
theorem u9 (w:Yc) (d b a c:Nat):ie (d0 (fM w) d b a c)=false:=by kernel_rfl
def fN (w:Yc):Code:=o9 (gw false false w [Ec .next] 120 [0,0,2,1,0,0,2,1,1,1,0,1,0,54,5,5,5,5,5,1,6,7,6,0,6,0,85,7,6,7,8,8,0,8,0,23,9,2,2,1,11,2,10,10,0,10,0,23,12,1] 1 (fun _=>(2000,0,id)) u7 u8 1000 0)
def m1 (w:Yc):Code:=o9 (gw false false w [] 60 [1,0,1,0,24,1,1,2,1,0,4,3,4,5,5,0,5,0,23,6,1] 0 (fun _=>(2000,0,id)) (d0 (fN w) 901 903 904 905) [(901,am (.ref 902) 0),(902,ab [.ref 906] 0),(903,ab [] 0),(904,aw w [] 0),(906,ab [.str "" 0] 1)] 1000 0)
theorem va (w:Yc) (d b a c:Nat):ie (d0 (fN w) d b a c)=false:=by kernel_rfl
theorem zz (w:Yc) (d b a c:Nat):ie (ff (fN w) d b a c)=false:=by kernel_rfl
theorem sE (w:Yc) (d b a c:Nat):ie (ff (m1 w) d b a c)=false:=by kernel_rfl
theorem zA (w:Yc) (d b a c:Nat):ie (ff (fM w) d b a c)=false:=by kernel_rfl
end
section
theorem FN (b c:Bool) (w:Yc) (x:Int) (g i:Nat) (d a:Yb) (k:d[i]? = some (.int x g)) (h:a.length≤1000) (p:af):aL (B0 (W b c w)) 2 (d0 (fM w) (p 1 0) (p 3 0) (p 4 0) (p 5 0)) [(p 1 0,am (.ref (p 2 0)) i),(p 2 0,ab d (p 2 1)),(p 3 0,ab a (p 3 1)),(p 4 0,aw w [] (0))] (fun e=>(.error (d0 (fM w) (p 1 0) (p 3 0) (p 4 0) (p 5 0)),[am (.ref (p 2 0)) (i+1),ab d (p 2 1),ab (a++[.ref (e 2)]) (e 0),aw w [("x",e 1,.int x g)] (1)],[aE (fL x) fun i=>e (i+2)])):=
 aA (orcs:=[cD 0 1 d i (.int x g),sD x,lm 2 a]) (aa (cT (by decide) k) (aa (zy x (by decide)) (aa (m0 h) aq))) 22 3 [1,2,4,3,0,4,0,3,4,1] [0,1,2,3,4] (fun n m f i=>match i with | 0=>(f 2).2.2 1 | 1=>(f 0).2.1+0 | j+2=>(f 1).2.2 j) (hc:=aS (u9 w _ _ _ _))
theorem FO (b c:Bool) (w:Yc) (h:Yd) (x:Int) (g i:Nat) (d a:Yb) (m:d[i]? = some (.int x g)) (k:a.length≤1000) (p:af):aL (B0 (W b c w)) 2 (d0 (fM w) (p 1 0) (p 3 0) (p 4 0) (p 5 0)) [(p 1 0,am (.ref (p 2 0)) i),(p 2 0,ab d (p 2 1)),(p 3 0,ab a (p 3 1)),(p 4 0,aw w [("x",p 4 2,h)] (p 4 1))] (fun e=>(.error (d0 (fM w) (p 1 0) (p 3 0) (p 4 0) (p 5 0)),[am (.ref (p 2 0)) (i+1),ab d (p 2 1),ab (a++[.ref (e 2)]) (e 0),aw w [("x",p 4 2,.int x g)] (p 4 1)],[aE (fL x) fun i=>e (i+2)])):=
 aA (orcs:=[cD 0 1 d i (.int x g),sD x,lm 2 a]) (aa (cT (by decide) m) (aa (zy x (by decide)) (aa (m0 k) aq))) 22 3 [1,2,4,3,0,4,0,3,4,1] [0,1,2,3,4] (fun n o f i=>match i with | 0=>(f 2).2.2 1 | 1=>(f 0).2.1+0 | j+2=>(f 1).2.2 j) (hc:=aS (u9 w _ _ _ _))
theorem FP (b c:Bool) (w:Yc) (e:Yd) (i:Nat) (a d:Yb) (f:a.length≤i) (p:af):aC (B0 (W b c w)) 2 (d0 (fM w) (p 1 0) (p 3 0) (p 4 0) (p 5 0)) [(p 1 0,am (.ref (p 2 0)) i),(p 2 0,ab a (p 2 1)),(p 3 0,ab d (p 3 1)),(p 4 0,aw w [("x",p 4 2,e)] (p 4 1))] (fun g=>(.next,[am .none i,ab a (p 2 1),ab d (p 3 1),aw w [("x",p 4 2,e)] (p 4 1)],[])):=
 aA (orcs:=[fK 0 1 a i]) (aa (iR (by decide) f) aq) 7 1 [1,2,5] [0,1,2,3] (fun _ _ _ _=>0) (hc:=aS (u9 w _ _ _ _))
theorem FQ (b:Bool) (w:Yc) (c a:Yb) (p:af):aL (B0 (W b false w)) 2 (ff (fM w) (p 1 0) (p 3 0) (p 4 0) (p 5 0)) [(p 1 0,am (.ref (p 2 0)) 0),(p 2 0,ab c (p 2 1)),(p 3 0,ab a (p 3 1)),(p 4 0,aw w [] (0))] (fun d=>(.error (d0 (fM w) (p 1 0) (p 3 0) (p 4 0) (p 5 0)),[am (.ref (p 2 0)) 0,ab c (p 2 1),ab a (p 3 1),aw w [] (0)],[])):=
 aA (orcs:=[]) aq 14 0 [1,1,0,1,0,43,1,1] [0,1,2,3] (fun _ _ _ _=>0) (hc:=aS (zA w _ _ _ _))
theorem FR (b:Bool) (w:Yc) (c a:Yb) (p:af):aL (B0 (W b true w)) 2 (ff (fM w) (p 1 0) (p 3 0) (p 4 0) (p 5 0)) [(p 1 0,am (.ref (p 2 0)) 0),(p 2 0,ab c (p 2 1)),(p 3 0,ab a (p 3 1)),(p 4 0,aw w [] (0))] (fun d=>(.error (d0 (fM w) (p 1 0) (p 3 0) (p 4 0) (p 5 0)),[am (.ref (p 2 0)) 0,ab c (p 2 1),ab a (p 3 1),aw w [] (0)],[])):=
 aA (orcs:=[]) aq 4 0 [1] [0,1,2,3] (fun _ _ _ _=>0) (hc:=aS (zA w _ _ _ _))
end
def ev (f:Ye):Nat→Nat:=fun i=>f (2*i)
def od (f:Ye):Nat→Nat:=fun i=>f (2*i+1)
def lq (f g:Ye):Nat→Nat:=fun i=>if i % 2=0 then f (i / 2) else g (i / 2)
theorem vb (f g:Ye):ev (lq f g)=f:=by
 funext i
 show (if 2*i % 2=0 then f (2*i / 2) else g (2*i / 2))=f i
 rw [if_pos (by lia),show 2*i / 2=i by lia]
theorem vc (f g:Ye):od (lq f g)=g:=by
 funext i
 show (if (2*i+1) % 2=0 then f ((2*i+1) / 2) else g ((2*i+1) / 2))=g i
 rw [if_neg (by lia),show (2*i+1) / 2=i by lia]
def aT:Yi→Ye→Yb
 | [],_=>[]
 | _::r,ax=>.ref (ev ax 2)::aT r (od ax)
def be:Yi→Ye→Ya
 | [],_=>[]
 | l::r,ax=>aE l (fun i=>ev ax (i+2))::be r (od ax)
def pj:Yb→Yd→Yd
 | [],v=>v
 | u::r,_=>pj r u
section
end
section
variable {σ δ : Type}
def b5 (step : δ→σ→Ye→σ):List δ→σ→Ye→σ
 | [],s,_=>s
 | d::r,s,ax=>b5 step r (step d s (ev ax)) (od ax)
def fP (ads : δ→Ye→Ya):List δ→Ye→Ya
 | [],_=>[]
 | d::r,ax=>ads d (ev ax)++fP ads r (od ax)
theorem sG (l:Ya):(bH l).length=l.length:=by rw [uV,List.length_map]
theorem vd {a S:Ya} {o:Yf} (h:o.length=a.length):((a++S).map (·.1)).zip (o++bH S)=(a.map (·.1)).zip o++S:=by
 rw [List.map_append,iT (by rw [List.length_map,h]),sy]
theorem sH {B:bf} (O:B.Ok) {m:Nat} {code:Code} (S:Ya) (St:Nat→σ→Ya) (g : σ→Yf) (step : δ→σ→Ye→σ) (src : δ→Ya) (ads : δ→Ye→Ya) (ok:Nat→δ→σ→Prop) (f:Nat→σ→Prop) (n:Nat)
  (q:∀i s H u,(St i s).map (·.1)=(St H u).map (·.1))
  (t:∀i d s,i<n→f i s→ok i d s→(∀p∈src d,p∈S)∧((src d).map (·.1)).Nodup∧(∀a,f (i+1) (step d s a))∧aL B m code (St i s++src d) fun a=>(.error code,bH (St (i+1) (step d s a))++bH (src d),ads d a))
  (w:∀s,f n s→aL B m code (St n s) fun _=>(.ok .next,g s,[]))
  (x:∀i s,(g s).length=(St i s).length) :
  ∀(c:List δ) (i:Nat) (s : σ),i+c.length=n→f i s→(∀k d,c[k]? = some d→∀s,ok (i+k) d s)→aL B m code (St i s++S) fun a=>(.ok .next,g (b5 step c s a)++bH S,fP ads c a):=by
 intro c
 induction c with
 | nil=>
  intro i s z y _
  have:i=n:=by simpa using z
  subst this
  have L:=w s y
  have E:aL B m code (St i s++[]) fun a=>(.ok .next,g s++bH [],[]):=by
   rw [List.append_nil]
   show aL B m code (St i s) fun a=>(.ok .next,g s++[],[])
   rw [List.append_nil]
   exact L
  exact aL.lift S (src:=[]) (k:=fun _=>.ok .next) (o:=fun _=>g s) (ads:=fun _=>[]) E (fun _=>x i s) (fun _ h=>nomatch h) List.nodup_nil
 | cons d c G=>
  intro i s z y C
  rw [List.length_cons] at z
  obtain ⟨F,I,t3,D⟩:=t i d s (by lia) y (C 0 d rfl s)
  have A:∀j u,(bH (St j u)).length=(St i s).length:=fun j u=>by
   have:=congrArg List.length (q j u i s)
   rw [List.length_map,List.length_map] at this
   rw [sG,this]
  have T:=aL.lift S (k:=fun _=>.error code) (o:=fun a=>bH (St (i+1) (step d s a))) (ads:=fun a=>ads d a) D (fun a=>A _ _) F I
  refine aL.andThen O T (fun _=>rfl) (fun a => ?_) (out2:=fun a b=>(.ok .next,g (b5 step c (step d s a) b)++bH S,fP ads c b)) (fun a => ?_) (fun a b=>⟨lq a b,?_⟩)
  ·show (bH _++bH S).length=(St i s++S).length
   rw [List.length_append,List.length_append,A,sG]
  ·show aL B m code (((St i s++S).map (·.1)).zip (bH (St (i+1) (step d s a))++bH S)) _
   rw [vd (A _ _),q i s (i+1) (step d s a),sy]
   exact G (i+1) (step d s a) (by lia) (t3 a) (fun k J e=>by
    rw [show i+1+k=i+(k+1) by lia]
    exact C (k+1) J e)
  ·show (_,g (b5 step (d::c) s (lq a b))++bH S,fP ads (d::c) (lq a b))=_
   simp only [b5,fP,vb,vc]
end
structure ij where
 as:Yb
 t:Nat
 v:Option (Nat×Nat×Yd)
def eP (w:Yc) (a:Str):Option (Nat×Nat×Yd)→Obj
 | none=>aw w [] 0
 | some (k,n,v)=>aw w [(a,k,v)] n
def lr:Option (Nat×Nat×Yd)→Yd→Nat→Option (Nat×Nat×Yd)
 | none,x,k=>some (k,1,x)
 | some (k,n,_),x,_=>some (k,n,x)
section
variable {δ : Type}
def d1 (a : δ→Yd) (b : δ→Ye→Yd) (d : δ) (s:ij) (c:Ye):ij:=⟨s.as++[b d c],c 0,lr s.v (a d) (c 1)⟩
def c2 (a : δ→Ye→Yd):List δ→Ye→Yb
 | [],_=>[]
 | d::r,ax=>a d (ev ax)::c2 a r (od ax)
theorem zB (b : δ→Yd) (a : δ→Ye→Yd):∀(e:List δ) (s:ij) (c:Ye),(b5 (d1 b a) e s c).as=s.as++c2 a e c
 | [],s,_=>(List.append_nil _).symm
 | d::r,s,c=>by
  show (b5 (d1 b a) r (d1 b a d s (ev c)) (od c)).as=s.as++(a d (ev c)::c2 a r (od c))
  rw [zB b a r]
  show s.as++[a d (ev c)]++_=_
  rw [←List.append_cons]
theorem pk {B:bf} (O:B.Ok) {m:Nat} {st lp:Code} (w:Yc) (C:Str) (A l q z j u:Nat) (b:Yb) (S:Ya) (a : δ→Yd) (src : δ→Ya) (g : δ→Ye→Yd) (ads : δ→Ye→Ya) (f:List δ) (D:b=f.map a) (P:0<f.length) (Q:f.length≤500)
  (start:aL B m st [(A,am (.ref l) 0),(l,ab b j),(q,ab [] u),(z,aw w [] 0)] fun _=>(.error lp,[am (.ref l) 0,ab b j,ab [] u,aw w [] 0],[]))
  (J:∀i d y t,d∈f→b[i]? = some (a d)→y.length≤1000→aL B m lp ([(A,am (.ref l) i),(l,ab b j),(q,ab y t),(z,aw w [] 0)]++src d) fun c=>(.error lp,[am (.ref l) (i+1),ab b j,ab (y++[g d c]) (c 0),aw w [(C,c 1,a d)] 1]++bH (src d),ads d c))
  (I:∀i d y t k n v,d∈f→b[i]? = some (a d)→y.length≤1000→aL B m lp ([(A,am (.ref l) i),(l,ab b j),(q,ab y t),(z,aw w [(C,k,v)] n)]++src d) fun c=>(.error lp,[am (.ref l) (i+1),ab b j,ab (y++[g d c]) (c 0),aw w [(C,k,a d)] n]++bH (src d),ads d c))
  (E:∀i y t k n v,b.length≤i→aL B m lp [(A,am (.ref l) i),(l,ab b j),(q,ab y t),(z,aw w [(C,k,v)] n)] fun _=>(.ok .next,[am .none i,ab b j,ab y t,aw w [(C,k,v)] n],[]))
  (sub:∀d∈f,(∀p∈src d,p∈S)∧((src d).map (·.1)).Nodup) :
  aL B m st ([(A,am (.ref l) 0),(l,ab b j),(q,ab [] u),(z,aw w [] 0)]++S) fun c=>
   (.ok .next,[am .none f.length,ab b j,ab (c2 g f c) (b5 (d1 a g) f ⟨[],u,none⟩ c).t,eP w C (b5 (d1 a g) f ⟨[],u,none⟩ c).v]++bH S,fP ads f c):=by
 have T:b.length=f.length:=by rw [D,List.length_map]
 let St:Nat→ij→Ya:=fun i s=>[(A,am (.ref l) i),(l,ab b j),(q,ab s.as s.t),(z,eP w C s.v)]
 have L:=sH O (m:=m) (code:=lp) S St (fun s=>[am .none f.length,ab b j,ab s.as s.t,eP w C s.v]) (d1 a g) src ads (fun i d _=>d∈f∧b[i]? = some (a d)) (fun i s=>s.as.length=i∧(0<i→s.v.isSome=true)) f.length (fun _ _ _ _=>rfl)
  (fun i d s R F K=>by
   obtain ⟨G,hx⟩:=K
   refine ⟨(sub d G).1,(sub d G).2,fun c=>⟨?_,fun _ => ?_⟩,?_⟩
   ·show (s.as++[g d c]).length=i+1
    rw [List.length_append,F.1];rfl
   ·show (lr s.v (a d) (c 1)).isSome=true
    cases s.v <;> rfl
   ·obtain ⟨y,t,v⟩:=s
    cases v with
    | none=>exact J i d y t G hx (by have:=F.1;simp only at this;lia)
    | some x=>
     obtain ⟨k,n,v⟩:=x
     exact I i d y t k n v G hx (by have:=F.1;simp only at this;lia))
  (fun s F=>by
   obtain ⟨y,t,v⟩:=s
   cases v with
   | none=>have:=F.2 P;cases this
   | some x=>
    obtain ⟨k,n,v⟩:=x
    exact E f.length y t k n v (by lia))
  (fun _ _=>rfl) f 0 ⟨[],u,none⟩ (by lia) ⟨rfl,fun h=>absurd h (Nat.lt_irrefl _)⟩ (fun k d e _=>⟨List.mem_of_getElem? e,by rw [D,Nat.zero_add,List.getElem?_map,e];rfl⟩)
 have N:aL B m st ([(A,am (.ref l) 0),(l,ab b j),(q,ab [] u),(z,aw w [] 0)]++S) fun c=>(.error lp,[am (.ref l) 0,ab b j,ab [] u,aw w [] 0]++bH S,[]):=
  aL.lift S (src:=[]) (k:=fun _=>.error lp) (o:=fun _=>[am (.ref l) 0,ab b j,ab [] u,aw w [] 0]) (ads:=fun _=>[]) start (fun _=>rfl) (fun _ h=>nomatch h) List.nodup_nil
 refine aL.andThen O N (fun _=>rfl) (fun _ => ?_) (out2:=fun _ c=>(.ok .next,[am .none f.length,ab b j,ab (b5 (d1 a g) f ⟨[],u,none⟩ c).as (b5 (d1 a g) f ⟨[],u,none⟩ c).t,eP w C (b5 (d1 a g) f ⟨[],u,none⟩ c).v]++bH S,fP ads f c)) (fun _ => ?_) (fun _ H=>⟨H,?_⟩)
 ·show ([am (.ref l) 0,ab b j,ab [] u,aw w [] 0]++bH S).length=([(A,am (.ref l) 0),(l,ab b j),(q,ab [] u),(z,aw w [] 0)]++S).length
  rw [List.length_append,List.length_append,sG];rfl
 ·show aL B m lp ((([(A,am (.ref l) 0),(l,ab b j),(q,ab [] u),(z,aw w [] 0)]++S).map (·.1)).zip ([am (.ref l) 0,ab b j,ab [] u,aw w [] 0]++bH S)) _
  rw [vd rfl]
  exact L
 ·rw [zB];rfl
end
section
theorem FS (b:Bool) (w:Yc) (a:Str) (e:a∈b1) (p:af):aC (B0 (W b false w)) 2 (ff (m1 w) (p 1 0) (p 3 0) (p 4 0) (p 5 0)) [(p 1 0,am (.ref (p 2 0)) 0),(p 2 0,ab [.str a (p 2 2)] 1),(p 3 0,ab [] 0),(p 4 0,aw w [] (0))] (fun c=>(.next,[am .none 1,ab [.str a (p 2 2)] 1,ab [.str (ao a) (c 1)] 1,aw w [("name",c 0,.str a (p 2 2))] (1)],[])):=
 aA (orcs:=[ll a]) (aa (mZ a e (by decide)) aq) 65 1 [1,1,0,1,0,43,1,0,1,0,1,0,24,1,1,2,1,0,4,3,0,4,0,2,0,3,0,26,3,2,3,0,1,0,1,0,24,1,1,2,1,0,6] [0,1,2,3] (fun n d f=>aB [d+0,(f 0).2.2 0]) (hc:=aS (sE w _ _ _ _))
theorem FT (b:Bool) (w:Yc) (a d:Str) (g:a∈b1) (h:d∈b1) (p:af):aC (B0 (W b false w)) 2 (ff (m1 w) (p 1 0) (p 3 0) (p 4 0) (p 5 0)) [(p 1 0,am (.ref (p 2 0)) 0),(p 2 0,ab [.str a (p 2 2),.str d (p 2 3)] 2),(p 3 0,ab [] 0),(p 4 0,aw w [] (0))] (fun c=>(.next,[am .none 2,ab [.str a (p 2 2),.str d (p 2 3)] 2,ab [.str (ao a) (c 1),.str (ao d) (c 2)] 2,aw w [("name",c 0,.str d (p 2 3))] (1)],[])):=
 aA (orcs:=[ll a,ll d]) (aa (mZ a g (by decide)) (aa (mZ d h (by decide)) aq)) 99 2 [1,1,0,1,0,43,1,0,1,0,1,0,24,1,1,2,1,0,4,3,0,4,0,2,0,3,0,26,3,2,3,0,1,0,1,0,24,1,1,2,1,0,4,3,0,4,0,3,0,3,0,26,3,2,3,0,1,0,1,0,24,1,1,2,1,0,6] [0,1,2,3] (fun n e f=>aB [e+0,(f 0).2.2 0,(f 1).2.2 0]) (hc:=aS (sE w _ _ _ _))
theorem FU (b:Bool) (w:Yc) (a:Str) (e:a∈b1) (p:af):aC (B0 (W b true w)) 2 (ff (m1 w) (p 1 0) (p 3 0) (p 4 0) (p 5 0)) [(p 1 0,am (.ref (p 2 0)) 0),(p 2 0,ab [.str a (p 2 2)] 1),(p 3 0,ab [] 0),(p 4 0,aw w [] (0))] (fun c=>(.next,[am .none 1,ab [.str a (p 2 2)] 1,ab [.str (ao a) (c 1)] 1,aw w [("name",c 0,.str a (p 2 2))] (1)],[])):=
 aA (orcs:=[ll a]) (aa (mZ a e (by decide)) aq) 55 1 [0,1,0,1,0,24,1,1,2,1,0,4,3,0,4,0,2,0,3,0,26,3,2,3,0,1,0,1,0,24,1,1,2,1,0,6] [0,1,2,3] (fun n d f=>aB [d+0,(f 0).2.2 0]) (hc:=aS (sE w _ _ _ _))
theorem FV (b:Bool) (w:Yc) (a d:Str) (g:a∈b1) (h:d∈b1) (p:af):aC (B0 (W b true w)) 2 (ff (m1 w) (p 1 0) (p 3 0) (p 4 0) (p 5 0)) [(p 1 0,am (.ref (p 2 0)) 0),(p 2 0,ab [.str a (p 2 2),.str d (p 2 3)] 2),(p 3 0,ab [] 0),(p 4 0,aw w [] (0))] (fun c=>(.next,[am .none 2,ab [.str a (p 2 2),.str d (p 2 3)] 2,ab [.str (ao a) (c 1),.str (ao d) (c 2)] 2,aw w [("name",c 0,.str d (p 2 3))] (1)],[])):=
 aA (orcs:=[ll a,ll d]) (aa (mZ a g (by decide)) (aa (mZ d h (by decide)) aq)) 89 2 [0,1,0,1,0,24,1,1,2,1,0,4,3,0,4,0,2,0,3,0,26,3,2,3,0,1,0,1,0,24,1,1,2,1,0,4,3,0,4,0,3,0,3,0,26,3,2,3,0,1,0,1,0,24,1,1,2,1,0,6] [0,1,2,3] (fun n e f=>aB [e+0,(f 0).2.2 0,(f 1).2.2 0]) (hc:=aS (sE w _ _ _ _))
end
def b7 (r:Yg):Prop:=(∃a∈b1,r=[a])∨∃a∈b1,∃d∈b1,r=[a,d]
def FW (b:af→Code) (w:Yc) (c:Yh) (r:Yg) (g:Ye):aH:=bA b c
 (fun p=>[(p 1 0,am (.ref (p 2 0)) 0),(p 2 0,(aE r g).2),(p 3 0,ab [] 0),(p 4 0,aw w [] 0)])
 (fun p a=>(.next,[am .none r.length,(aE r g).2,ab (cR (r.map ao) (fun i=>a (i+1)) 0) (r.map ao).length,aw w [("name",a 0,pj (cR r (fun i=>g (i+1)) 0) .none)] 1],[]))
section
def ve (w:Yc) (a:Yh) (r:Yg) (g:Ye):aH:=FW (fun p=>ff (m1 w) (p 1 0) (p 3 0) (p 4 0) (p 0 3)) w a r g
theorem zC {b c:Bool} {w:Yc} {m:Nat} {h:Yh} {r:Yg} {g:Nat→Nat} (n:h.Nodup) (k:b7 r) (o:2≤m):(ve w h r g).Sure (B0 (W b c w)) m:=by
 refine (bS n fun p => ?_:aH.Sure (B0 (W b c w)) 2 _).le o
 rcases k with ⟨a,e,rfl⟩ | ⟨a,e,d,f,rfl⟩
 ·cases c
  ·exact FS b w a e (fun j i=>match j,i with | 2,2=>g 1 | 5,_=>p 0 3 | j,i=>p j i)
  ·exact FU b w a e (fun j i=>match j,i with | 2,2=>g 1 | 5,_=>p 0 3 | j,i=>p j i)
 ·cases c
  ·exact FT b w a d e f (fun j i=>match j,i with | 2,2=>g 1 | 2,3=>g 2 | 5,_=>p 0 3 | j,i=>p j i)
  ·exact FV b w a d e f (fun j i=>match j,i with | 2,2=>g 1 | 2,3=>g 2 | 5,_=>p 0 3 | j,i=>p j i)
end
section
theorem FX (b c:Bool) (w:Yc) (r:Yg) (i:Nat) (d a:Yb) (p:af) (k:d[i]? = some (.ref (p 5 0))) (h:a.length≤1000) (g:b7 r):aL (B0 (W b c w)) 3 (d0 (fN w) (p 1 0) (p 3 0) (p 4 0) (p 6 0)) [(p 1 0,am (.ref (p 2 0)) i),(p 2 0,ab d (p 2 1)),(p 3 0,ab a (p 3 1)),(p 4 0,aw w [] (0)),aE r (p 5)] (fun e=>(.error (d0 (fN w) (p 1 0) (p 3 0) (p 4 0) (p 6 0)),[am (.ref (p 2 0)) (i+1),ab d (p 2 1),ab (a++[.ref (e 2)]) (e 0),aw w [("row",e 1,.ref (p 5 0))] (1),(aE r (p 5)).2],[aE (r.map ao) fun i=>e (i+2)])):=
 aA (orcs:=[cD 0 1 d i (.ref (p 5 0)),ve w [5,4,6,7] r (p 5),lm 2 a]) (aa (cT (by decide) k) (aa (zC (by decide) g (by decide)) (aa (m0 h) aq))) 34 3 [1,2,4,3,4,5,5,0,5,0,23,6,3,8,8,7,4,1] [0,1,2,3,4,6] (fun n m f i=>match i with | 0=>(f 2).2.2 1 | 1=>(f 0).2.1+0 | 2=>(f 0).1+1 | j+3=>(f 1).2.2 (j+1)) (hc:=aS (va w _ _ _ _))
theorem FY (b c:Bool) (w:Yc) (h:Yd) (r:Yg) (i:Nat) (d a:Yb) (p:af) (m:d[i]? = some (.ref (p 5 0))) (k:a.length≤1000) (g:b7 r):aL (B0 (W b c w)) 3 (d0 (fN w) (p 1 0) (p 3 0) (p 4 0) (p 6 0)) [(p 1 0,am (.ref (p 2 0)) i),(p 2 0,ab d (p 2 1)),(p 3 0,ab a (p 3 1)),(p 4 0,aw w [("row",p 4 2,h)] (p 4 1)),aE r (p 5)] (fun e=>(.error (d0 (fN w) (p 1 0) (p 3 0) (p 4 0) (p 6 0)),[am (.ref (p 2 0)) (i+1),ab d (p 2 1),ab (a++[.ref (e 2)]) (e 0),aw w [("row",p 4 2,.ref (p 5 0))] (p 4 1),(aE r (p 5)).2],[aE (r.map ao) fun i=>e (i+2)])):=
 aA (orcs:=[cD 0 1 d i (.ref (p 5 0)),ve w [5,4,6,7] r (p 5),lm 2 a]) (aa (cT (by decide) m) (aa (zC (by decide) g (by decide)) (aa (m0 k) aq))) 34 3 [1,2,4,3,4,5,5,0,5,0,23,6,3,8,8,7,4,1] [0,1,2,3,4,6] (fun n o f i=>match i with | 0=>(f 2).2.2 1 | 1=>(f 0).2.1+0 | 2=>(f 0).1+1 | j+3=>(f 1).2.2 (j+1)) (hc:=aS (va w _ _ _ _))
theorem FZ (b c:Bool) (w:Yc) (e:Yd) (i:Nat) (a d:Yb) (f:a.length≤i) (p:af):aC (B0 (W b c w)) 3 (d0 (fN w) (p 1 0) (p 3 0) (p 4 0) (p 6 0)) [(p 1 0,am (.ref (p 2 0)) i),(p 2 0,ab a (p 2 1)),(p 3 0,ab d (p 3 1)),(p 4 0,aw w [("row",p 4 2,e)] (p 4 1))] (fun g=>(.next,[am .none i,ab a (p 2 1),ab d (p 3 1),aw w [("row",p 4 2,e)] (p 4 1)],[])):=
 aA (orcs:=[fK 0 1 a i]) (aa (iR (by decide) f) aq) 7 1 [1,2,5] [0,1,2,3] (fun _ _ _ _=>0) (hc:=aS (va w _ _ _ _))
theorem F0 (b:Bool) (w:Yc) (c a:Yb) (p:af):aL (B0 (W b false w)) 3 (ff (fN w) (p 1 0) (p 3 0) (p 4 0) (p 6 0)) [(p 1 0,am (.ref (p 2 0)) 0),(p 2 0,ab c (p 2 1)),(p 3 0,ab a (p 3 1)),(p 4 0,aw w [] (0))] (fun d=>(.error (d0 (fN w) (p 1 0) (p 3 0) (p 4 0) (p 6 0)),[am (.ref (p 2 0)) 0,ab c (p 2 1),ab a (p 3 1),aw w [] (0)],[])):=
 aA (orcs:=[]) aq 14 0 [1,1,0,1,0,43,1,1] [0,1,2,3] (fun _ _ _ _=>0) (hc:=aS (zz w _ _ _ _))
theorem F1 (b:Bool) (w:Yc) (c a:Yb) (p:af):aL (B0 (W b true w)) 3 (ff (fN w) (p 1 0) (p 3 0) (p 4 0) (p 6 0)) [(p 1 0,am (.ref (p 2 0)) 0),(p 2 0,ab c (p 2 1)),(p 3 0,ab a (p 3 1)),(p 4 0,aw w [] (0))] (fun d=>(.error (d0 (fN w) (p 1 0) (p 3 0) (p 4 0) (p 6 0)),[am (.ref (p 2 0)) 0,ab c (p 2 1),ab a (p 3 1),aw w [] (0)],[])):=
 aA (orcs:=[]) aq 4 0 [1] [0,1,2,3] (fun _ _ _ _=>0) (hc:=aS (zz w _ _ _ _))
end
def cA (d:Int×Nat):Yd:=.int d.1 d.2
def eQ {δ : Type} (_ : δ) (a:Ye):Yd:=.ref (a 2)
def sI (f : δ→Yg) (d : δ) (a:Ye):Ya:=[aE (f d) fun i=>a (i+2)]
theorem vf {δ : Type} (f : δ→Yg):∀(b:List δ) (a:Ye),c2 eQ b a=aT (b.map f) a
 | [],_=>rfl
 | d::r,a=>by
  show Value.ref (ev a 2)::c2 eQ r (od a)=Value.ref (ev a 2)::aT (r.map f) (od a)
  rw [vf f r]
theorem vg {δ : Type} (f : δ→Yg):∀(b:List δ) (a:Ye),fP (sI f) b a=be (b.map f) a
 | [],_=>rfl
 | d::r,a=>by
  show aE (f d) (fun i=>ev a (i+2))::fP (sI f) r (od a)=aE (f d) (fun i=>ev a (i+2))::be (r.map f) (od a)
  rw [vg f r]
abbrev RD:=Yg×(Nat→Nat)
def b9:Yi→Ye→List RD
 | [],_=>[]
 | r::l,g=>(r,fun i=>ev g (i+2))::b9 l (od g)
def f4 (d:RD):Yd:=.ref (d.2 0)
def m2 (d:RD):Ya:=[aE d.1 d.2]
theorem f5:∀(R:Yi) (g:Ye),(b9 R g).length=R.length
 | [],_=>rfl
 | _::l,g=>by show (b9 l (od g)).length+1=_;rw [f5 l];rfl
theorem sJ:∀(R:Yi) (g:Ye),(b9 R g).map f4=aT R g
 | [],_=>rfl
 | r::l,g=>by show Value.ref (ev g 2)::(b9 l (od g)).map f4=Value.ref (ev g 2)::aT l (od g);rw [sJ l]
theorem iV:∀(R:Yi) (g:Ye) (d:RD),d∈b9 R g→aE d.1 d.2∈be R g∧d.1∈R
 | [],_,_,h=>by cases h
 | r::l,g,d,h=>by
  rcases List.mem_cons.mp h with rfl | h
  ·exact ⟨.head _,.head _⟩
  ·exact ⟨.tail _ (iV l (od g) d h).1,.tail _ (iV l (od g) d h).2⟩
theorem zD (f:Yg→Yg):∀(R:Yi) (g:Ye),(b9 R g).map (fun d=>f d.1)=R.map f
 | [],_=>rfl
 | r::l,g=>by show f r::(b9 l (od g)).map _=f r::l.map f;rw [zD f l]
section
end
def sK (l:Yb):Obj:={cls:=.type "tuple",data:=.seq l.toArray}
def m3 (a:Str):Str:=⟨(List.replicate ((a.length+2:Nat):Int).toNat ("/" : Str).cps).foldl (· ++ ·) #[]⟩
theorem q1:∀a∈aD,Txt.rfind ("/" ++ a) "/" = 0∧d9 ("/" ++ a) (some 1) none=a∧a.length≤1000∧d9 ("/" ++ a) none (some 1)="/" := by decide +kernel
theorem q2:∀a∈aD,∀d∈aD,Txt.rfind ("/" ++ a++("/" ++ d)) "/" = ((a.length+1:Nat):Int)∧d9 ("/" ++ a++("/" ++ d)) (some (((a.length+1:Nat):Int)+1)) none=d∧d9 ("/" ++ a++("/" ++ d)) none (some (((a.length+1:Nat):Int)+1))="/" ++ a++"/" := by decide +kernel
theorem q3:∀a∈aD,(("/" ++ a++"/").length:Int)=((a.length+2:Nat):Int)∧("/" ++ a++"/").length≤1000∧1<((a.length+2:Nat):Int)∧((a.length+2:Nat):Int)≤100∧(m3 a).length≤1000∧(("/" ++ a++"/").cps.toList != (m3 a).cps.toList)=true∧Txt.rstripChars ("/" ++ a++"/") "/" = "/" ++ a:=by decide +kernel
theorem F2 (b c:Bool) (w:Yc) (a:Str) (e:a∈aD) (p:af):aC (B0 (W b c w)) 2 (.call (.ref 250) ⟨[.str ("/" ++ a) (p 0 0)],[]⟩) [] (fun d=>(.ret (.str a (d 0)),[],[])):=
 aA (orcs:=[ec [] ("/" ++ a),js [] ("/" ++ a),o2 "str.rfind" ("/" ++ a) "/" fun d=>.int 0 (d 0),eg 1 ("/" ++ a) (some 1) none a]) (aa (eO [] (by decide) ("/" ++ a) (by decide)) (aa (kh [] (by decide) ("/" ++ a) (by decide)) (aa (lR ((q1 a e).1)) (aa (fZ (q1 a e).2.1 (q1 a e).2.2.1) aq)))) 76 4 [0,0,1,0,0,0,0,1,0,2,1,0,0,1,0,3,1,0,1,1,4,0,0,16,1,0,1,1,5] [] (fun n g f=>aB [(f 3).2.2 0])
theorem F3 (b c:Bool) (w:Yc) (a d:Str) (h:a∈aD) (g:d∈aD) (p:af):aC (B0 (W b c w)) 2 (.call (.ref 250) ⟨[.str ("/" ++ a++("/" ++ d)) (p 0 0)],[]⟩) [] (fun e=>(.ret (.str d (e 0)),[],[])):=
 aA (orcs:=[ec [] ("/" ++ a++("/" ++ d)),js [] ("/" ++ a++("/" ++ d)),o2 "str.rfind" ("/" ++ a++("/" ++ d)) "/" fun e=>.int ((a.length+1:Nat):Int) (e 0),eg 1 ("/" ++ a++("/" ++ d)) (some (((a.length+1:Nat):Int)+1)) none d]) (aa (eO [] (by decide) ("/" ++ a++("/" ++ d)) (by decide)) (aa (kh [] (by decide) ("/" ++ a++("/" ++ d)) (by decide)) (aa (lR ((q2 a h d g).1)) (aa (fZ (q2 a h d g).2.1 (q1 d g).2.2.1) aq)))) 76 4 [0,0,1,0,0,0,0,1,0,2,1,0,0,1,0,3,1,0,1,1,4,0,0,16,1,0,1,1,5] [] (fun n i f=>aB [(f 3).2.2 0])
theorem F4 (b c:Bool) (w:Yc) (a:Str) (e:a∈aD) (p:af):aC (B0 (W b c w)) 2 (.call (.ref 257) ⟨[.str ("/" ++ a) (p 0 0)],[]⟩) [] (fun d=>(.ret (.str "/" (d 0)),[],[])):=
 aA (orcs:=[ec [] ("/" ++ a),js [] ("/" ++ a),o2 "str.rfind" ("/" ++ a) "/" fun d=>.int 0 (d 0),eg 1 ("/" ++ a) none (some 1) "/"]) (aa (eO [] (by decide) ("/" ++ a) (by decide)) (aa (kh [] (by decide) ("/" ++ a) (by decide)) (aa (lR ((q1 a e).1)) (aa (fZ (q1 a e).2.2.2 (by decide +kernel)) aq)))) 133 4 [0,0,1,0,0,0,0,1,0,2,1,0,0,1,0,3,1,0,1,1,4,0,0,16,1,0,1,1,5,1,0,1,0,11,0,0,12,1,1,0,0,1,0,0,11,0,0,12,0,0,18,0,0,19,0,0,20,1] [] (fun n g f=>aB [(f 3).2.2 0])
theorem F5 (b c:Bool) (w:Yc) (a d:Str) (e:a∈aD) (h:d∈aD) (p:af):aC (B0 (W b c w)) 2 (.call (.ref 257) ⟨[.str ("/" ++ a++("/" ++ d)) (p 0 0)],[]⟩) [] (fun g=>(.ret (.str ("/" ++ a) (g 0)),[],[])):=
 aA (orcs:=[ec [] ("/" ++ a++("/" ++ d)),js [] ("/" ++ a++("/" ++ d)),o2 "str.rfind" ("/" ++ a++("/" ++ d)) "/" fun g=>.int ((a.length+1:Nat):Int) (g 0),eg 1 ("/" ++ a++("/" ++ d)) none (some (((a.length+1:Nat):Int)+1)) ("/" ++ a++"/"),a9 ("/" ++ a++"/") ((a.length+2:Nat):Int),tR ("/" ++ a++"/") ((a.length+2:Nat):Int),tU "/" ((a.length+2:Nat):Int) (m3 a),o2 "str.__ne__" ("/" ++ a++"/") (m3 a) fun _=>.bool true,o2 "str.rstrip" ("/" ++ a++"/") "/" fun g=>.str ("/" ++ a) (g 0)]) (aa (eO [] (by decide) ("/" ++ a++("/" ++ d)) (by decide)) (aa (kh [] (by decide) ("/" ++ a++("/" ++ d)) (by decide)) (aa (lR ((q2 a e d h).1)) (aa (fZ (q2 a e d h).2.2 (q3 a e).2.1) (aa (bb (q3 a e).1 (q3 a e).2.1) (aa (w3 (q3 a e).1 (q3 a e).2.1) (aa (w7 (q3 a e).2.2.1 (q3 a e).2.2.2.1 rfl (q3 a e).2.2.2.2.1) (aa (aQ ((q3 a e).2.2.2.2.2.1)) (aa (w2 (q3 a e).2.2.2.2.2.2 (q3 a e).2.1) aq))))))))) 130 9 [0,0,1,0,0,0,0,1,0,2,1,0,0,1,0,3,1,0,1,1,4,0,0,16,1,0,1,1,5,1,0,1,6,1,1,0,0,1,7,0,0,18,8,9,1,1,10,1,0,1] [] (fun n i f=>aB [(f 8).2.2 0])
theorem F6 (b c:Bool) (w:Yc) (a:Str) (e:a∈aD) (p:af):aC (B0 (W b c w)) 2 (.call (.ref 236) ⟨[.str ("/" ++ a) (p 0 0)],[]⟩) [] (fun d=>(.ret (.ref (d 0)),[],[(d 0,sK [.str "/" (d 1),.str a (d 2)])])):=
 aA (orcs:=[ec [] ("/" ++ a),js [] ("/" ++ a),o2 "str.rfind" ("/" ++ a) "/" fun d=>.int 0 (d 0),eg 1 ("/" ++ a) none (some 1) "/",eg 2 ("/" ++ a) (some 1) none a]) (aa (eO [] (by decide) ("/" ++ a) (by decide)) (aa (kh [] (by decide) ("/" ++ a) (by decide)) (aa (lR ((q1 a e).1)) (aa (fZ (q1 a e).2.2.2 (by decide +kernel)) (aa (fZ (q1 a e).2.1 (q1 a e).2.2.1) aq))))) 197 5 [0,0,1,0,0,0,0,1,0,2,1,0,0,1,0,3,1,0,1,1,4,0,0,16,1,0,1,1,5,1,1,6,4,4,4,0,4,0,8,5,5,0,5,0,9,5,5,4,5,4,5,0,5,0,9,5,5,4,5,4,5,0,5,0,9,5,5,4,5,4,7,1,0,1,0,1,0,11,0,0,12,1,1,0,0,1,0,0,11,0,0,12,0,0,18,0,0,19,0,0,20,1,1] [7] (fun n g f=>aB [(f 4).1+4,(f 3).2.2 0,(f 4).2.2 0])
theorem F8 (b c:Bool) (w:Yc) (a d:Str) (e:a∈aD) (h:d∈aD) (p:af):aC (B0 (W b c w)) 2 (.call (.ref 236) ⟨[.str ("/" ++ a++("/" ++ d)) (p 0 0)],[]⟩) [] (fun g=>(.ret (.ref (g 0)),[],[(g 0,sK [.str ("/" ++ a) (g 1),.str d (g 2)])])):=
 aA (orcs:=[ec [] ("/" ++ a++("/" ++ d)),js [] ("/" ++ a++("/" ++ d)),o2 "str.rfind" ("/" ++ a++("/" ++ d)) "/" fun g=>.int ((a.length+1:Nat):Int) (g 0),eg 1 ("/" ++ a++("/" ++ d)) none (some (((a.length+1:Nat):Int)+1)) ("/" ++ a++"/"),eg 2 ("/" ++ a++("/" ++ d)) (some (((a.length+1:Nat):Int)+1)) none d,a9 ("/" ++ a++"/") ((a.length+2:Nat):Int),tR ("/" ++ a++"/") ((a.length+2:Nat):Int),tU "/" ((a.length+2:Nat):Int) (m3 a),o2 "str.__ne__" ("/" ++ a++"/") (m3 a) fun _=>.bool true,o2 "str.rstrip" ("/" ++ a++"/") "/" fun g=>.str ("/" ++ a) (g 0)]) (aa (eO [] (by decide) ("/" ++ a++("/" ++ d)) (by decide)) (aa (kh [] (by decide) ("/" ++ a++("/" ++ d)) (by decide)) (aa (lR ((q2 a e d h).1)) (aa (fZ (q2 a e d h).2.2 (q3 a e).2.1) (aa (fZ (q2 a e d h).2.1 (q1 d h).2.2.1) (aa (bb (q3 a e).1 (q3 a e).2.1) (aa (w3 (q3 a e).1 (q3 a e).2.1) (aa (w7 (q3 a e).2.2.1 (q3 a e).2.2.2.1 rfl (q3 a e).2.2.2.2.1) (aa (aQ ((q3 a e).2.2.2.2.2.1)) (aa (w2 (q3 a e).2.2.2.2.2.2 (q3 a e).2.1) aq)))))))))) 194 10 [0,0,1,0,0,0,0,1,0,2,1,0,0,1,0,3,1,0,1,1,4,0,0,16,1,0,1,1,5,1,1,6,4,4,4,0,4,0,8,5,5,0,5,0,9,5,5,4,5,4,5,0,5,0,9,5,5,4,5,4,5,0,5,0,9,5,5,4,5,4,7,1,0,1,0,1,7,1,1,0,0,1,8,0,0,18,9,10,1,1,11,1,0,1,1] [7] (fun n i f=>aB [(f 9).1+0,(f 9).2.2 0,(f 4).2.2 0])
section
open PySem PySem.W PySem.W.X PyProof.Rows PySem.Builtin PySem.Builtin.Str
theorem n1:∀a∈aD,d9 ("/" ++ a) (some 1) (some 2)=d9 ("/" ++ a) (some 1) (some 2)∧(d9 ("/" ++ a) (some 1) (some 2)).length≤1000∧((d9 ("/" ++ a) (some 1) (some 2)).cps.toList != ("/" : Str).cps.toList)=true:=by decide +kernel
theorem n2:∀a∈aD,∀d∈aD,d9 ("/" ++ a++("/" ++ d)) none (some 1)="/"∧(d9 ("/" ++ a++("/" ++ d)) (some 1) (some 2)).length≤1000∧((d9 ("/" ++ a++("/" ++ d)) (some 1) (some 2)).cps.toList != ("/" : Str).cps.toList)=true∧d9 ("/" ++ a++("/" ++ d)) (some 1) none=a++("/" ++ d)∧(a++("/" ++ d)).length≤1000:=by decide +kernel
theorem n3:∀a∈aD,(a.length:Int)=((a.length-1+1:Nat):Int)∧(a.cps.toList==("." : Str).cps.toList)=false∧(a.cps.toList != (".." : Str).cps.toList)=true∧Txt.split a "/" = [a]∧(partsBetween a (occurrences a "/" 0 a.length (a.length+1)) ("/" : Str).length).length≤1000∧Txt.join "/" [a]=a∧JoinOk "/" [a]=true:=by decide +kernel
theorem n4:∀a∈aD,∀d∈aD,Txt.split (a++("/" ++ d)) "/" = [a,d]∧(partsBetween (a++("/" ++ d)) (occurrences (a++("/" ++ d)) "/" 0 (a++("/" ++ d)).length ((a++("/" ++ d)).length+1)) ("/" : Str).length).length≤1000∧Txt.join "/" [a,d]=a++("/" ++ d)∧JoinOk "/" [a,d]=true∧(("/" ++ a++("/" ++ d)).length:Int)=((a.length+d.length+1+1:Nat):Int):=by decide +kernel
theorem n5:∀a∈aD,∀d∈aD,"/" ++ (a++("/" ++ d))="/" ++ a++("/" ++ d)∧((a++("/" ++ d)).length==0)=false:=fun a x d y=>⟨congrArg Str.mk Array.append_assoc.symm,(by decide +kernel:∀a∈aD,∀d∈aD,((a++("/" ++ d)).length==0)=false) a x d y⟩
end
def zE (a:Str) (p:af):Code:=.call (.ref 243) ⟨[.str ("/" ++ a) (p 0 0)],[]⟩
def zF (a:Str) (p:af):Ya:=[]
def zG (a:Str) (p:af) (b:Ye):Flow×Yf×Ya:=(.ret (.ref (b 0)),[],[(b 0,sK [.str "" (b 1),.str "/" (b 2),.str a (b 3)])])
theorem F9 (b c:Bool) (w:Yc) (a:Str) (d:a∈aD) (p:af):aC (B0 (W b c w)) 2 (zE a p) (zF a p) (zG a p):=
 aA (orcs:=[ec [] ("/" ++ a),eg 1 ("/" ++ a) none (some 1) "/",eg 2 ("/" ++ a) (some 1) (some 2) (d9 ("/" ++ a) (some 1) (some 2)),o2 "str.__ne__" (d9 ("/" ++ a) (some 1) (some 2)) "/" fun _=>.bool true,eg 3 ("/" ++ a) (some 1) none a]) (aa (eO [] (by decide) ("/" ++ a) (by decide)) (aa (fZ (q1 a d).2.2.2 (by decide +kernel)) (aa (fZ rfl (n1 a d).2.1) (aa (aQ ((n1 a d).2.2)) (aa (fZ (q1 a d).2.1 (q1 a d).2.2.1) aq))))) 113 5 [0,0,1,0,0,0,0,1,0,2,1,0,0,0,1,0,0,0,0,3,0,4,0,0,5,0,0,6,0,7,1,0,1,0,1,3,1,0,0,20,1,4,1,5,1,1,1,6] [4] (fun n e f=>aB [(f 4).1+0,(f 0).2.1+4,(f 0).2.1+2,(f 4).2.2 0])
def zH (b:Yh) (a:Str):aH:=bA (zE a) b (zF a) (zG a)
theorem Ga {b c:Bool} {w:Yc} {m:Nat} (d:Yh) (e:d.Nodup) (a:Str) (g:a∈aD) (f:2≤m):(zH d a).Sure (B0 (W b c w)) m:=
 (bS e fun p=>F9 b c w a g p).le f
def zI (a d:Str) (p:af):Code:=.call (.ref 243) ⟨[.str ("/" ++ a++("/" ++ d)) (p 0 0)],[]⟩
def zJ (a d:Str) (p:af):Ya:=[]
def zK (a d:Str) (p:af) (b:Ye):Flow×Yf×Ya:=(.ret (.ref (b 0)),[],[(b 0,sK [.str "" (b 1),.str "/" (b 2),.str (a++("/" ++ d)) (b 3)])])
theorem Gb (b c:Bool) (w:Yc) (a d:Str) (e:a∈aD) (g:d∈aD) (p:af):aC (B0 (W b c w)) 2 (zI a d p) (zJ a d p) (zK a d p):=
 aA (orcs:=[ec [] ("/" ++ a++("/" ++ d)),eg 1 ("/" ++ a++("/" ++ d)) none (some 1) "/",eg 2 ("/" ++ a++("/" ++ d)) (some 1) (some 2) (d9 ("/" ++ a++("/" ++ d)) (some 1) (some 2)),o2 "str.__ne__" (d9 ("/" ++ a++("/" ++ d)) (some 1) (some 2)) "/" fun _=>.bool true,eg 3 ("/" ++ a++("/" ++ d)) (some 1) none (a++("/" ++ d))]) (aa (eO [] (by decide) ("/" ++ a++("/" ++ d)) (by decide)) (aa (fZ (n2 a e d g).1 (by decide +kernel)) (aa (fZ rfl (n2 a e d g).2.1) (aa (aQ ((n2 a e d g).2.2.1)) (aa (fZ (n2 a e d g).2.2.2.1 (n2 a e d g).2.2.2.2) aq))))) 113 5 [0,0,1,0,0,0,0,1,0,2,1,0,0,0,1,0,0,0,0,3,0,4,0,0,5,0,0,6,0,7,1,0,1,0,1,3,1,0,0,20,1,4,1,5,1,1,1,6] [4] (fun n h f=>aB [(f 4).1+0,(f 0).2.1+4,(f 0).2.1+2,(f 4).2.2 0])
def zL (b:Yh) (a d:Str):aH:=bA (zI a d) b (zJ a d) (zK a d)
theorem Gc {b c:Bool} {w:Yc} {m:Nat} (e:Yh) (f:e.Nodup) (a d:Str) (h:a∈aD) (i:d∈aD) (g:2≤m):(zL e a d).Sure (B0 (W b c w)) m:=
 (bS f fun p=>Gb b c w a d h i p).le g
theorem Gd (b c:Bool) (w:Yc) (a:Str) (d:a∈aD) (p:af):aC (B0 (W b c w)) 3 (.call (.ref 264) ⟨[.str ("/" ++ a) (p 0 0)],[]⟩) [] (fun e=>(.ret (.str ("/" ++ a) (e 0)),[],[])):=
 aA (orcs:=[ec [] ("/" ++ a),a9 ("/" ++ a) ((a.length+1:Nat):Int),zH [] a,cb a "/" [a],a9 a ((a.length-1+1:Nat):Int),o2 "str.__eq__" a "." fun _=>.bool false,o2 "str.__ne__" a ".." fun _=>.bool true,bx 6 "/" [a] a,o2 "str.__add__" "/" a fun e=>.str ("/" ++ a) (e 0)]) (aa (eO [] (by decide) ("/" ++ a) (by decide)) (aa (bb (zn a d) (dc a d).2.2) (aa (Ga [] (by decide) a d (by decide)) (aa (tT (n3 a d).2.2.2.1 (by decide +kernel) (q1 a d).2.2.1 (n3 a d).2.2.2.2.1) (aa (bb (n3 a d).1 (q1 a d).2.2.1) (aa (cy ((n3 a d).2.1)) (aa (aQ ((n3 a d).2.2.1)) (aa (bB (n3 a d).2.2.2.2.2.1 (n3 a d).2.2.2.2.2.2) (aa (fY rfl (by decide +kernel) (dc a d).2.1 (dc a d).2.2) aq))))))))) 328 10 [0,0,1,0,0,0,0,1,0,2,1,0,0,0,1,0,0,0,0,3,0,4,0,0,5,0,0,6,0,7,1,0,1,0,1,0,1,3,0,1,0,4,2,2,2,0,2,0,8,3,3,0,3,0,9,3,3,2,3,2,3,0,3,0,9,3,3,2,3,2,3,0,3,0,9,3,3,2,3,2,3,0,3,0,9,3,3,2,3,2,5,1,0,1,0,1,0,1,1,5,1,0,1,0,1,6,6,0,6,0,23,8,0,8,0,8,0,24,8,8,6,8,7,1,0,1,6,1,1,7,1,1,8,1,7,7,7,7,1,0,7,0,26,7,6,7,0,8,0,8,0,24,8,8,6,8,7,10,0,1,1,0,1,1,1,9,10,1,0,1,3] [] (fun n g f=>aB [(f 8).2.2 0])
theorem Ge (b c:Bool) (w:Yc) (a d:Str) (e:a∈aD) (g:d∈aD) (p:af):aC (B0 (W b c w)) 3 (.call (.ref 264) ⟨[.str ("/" ++ a++("/" ++ d)) (p 0 0)],[]⟩) [] (fun h=>(.ret (.str ("/" ++ a++("/" ++ d)) (h 0)),[],[])):=
 aA (orcs:=[ec [] ("/" ++ a++("/" ++ d)),a9 ("/" ++ a++("/" ++ d)) ((a.length+d.length+1+1:Nat):Int),zL [] a d,cb (a++("/" ++ d)) "/" [a,d],a9 a ((a.length-1+1:Nat):Int),o2 "str.__eq__" a "." fun _=>.bool false,o2 "str.__ne__" a ".." fun _=>.bool true,a9 d ((d.length-1+1:Nat):Int),o2 "str.__eq__" d "." fun _=>.bool false,o2 "str.__ne__" d ".." fun _=>.bool true,bx 6 "/" [a,d] (a++("/" ++ d)),o2 "str.__add__" "/" (a++("/" ++ d)) fun h=>.str ("/" ++ a++("/" ++ d)) (h 0)]) (aa (eO [] (by decide) ("/" ++ a++("/" ++ d)) (by decide)) (aa (bb (n4 a e d g).2.2.2.2 (pf a e d g)) (aa (Gc [] (by decide) a d e g (by decide)) (aa (tT (n4 a e d g).1 (by decide +kernel) (n2 a e d g).2.2.2.2 (n4 a e d g).2.1) (aa (bb (n3 a e).1 (q1 a e).2.2.1) (aa (cy ((n3 a e).2.1)) (aa (aQ ((n3 a e).2.2.1)) (aa (bb (n3 d g).1 (q1 d g).2.2.1) (aa (cy ((n3 d g).2.1)) (aa (aQ ((n3 d g).2.2.1)) (aa (bB (n4 a e d g).2.2.1 (n4 a e d g).2.2.2.1) (aa (fY (n5 a e d g).1 (by decide +kernel) (n5 a e d g).2 (pf a e d g)) aq)))))))))))) 387 13 [0,0,1,0,0,0,0,1,0,2,1,0,0,0,1,0,0,0,0,3,0,4,0,0,5,0,0,6,0,7,1,0,1,0,1,0,1,3,0,1,0,4,2,2,2,0,2,0,8,3,3,0,3,0,9,3,3,2,3,2,3,0,3,0,9,3,3,2,3,2,3,0,3,0,9,3,3,2,3,2,3,0,3,0,9,3,3,2,3,2,5,1,0,1,0,1,0,1,1,5,1,0,1,0,1,6,6,0,6,0,23,8,0,8,0,8,0,24,8,8,6,8,7,1,0,1,6,1,1,7,1,1,8,1,7,7,7,7,1,0,7,0,26,7,6,7,0,8,0,8,0,24,8,8,6,8,7,1,0,1,9,1,1,10,1,1,11,1,7,7,7,7,1,0,7,0,26,7,6,7,0,8,0,8,0,24,8,8,6,8,7,10,0,1,1,0,1,1,1,12,13,1,0,1,3] [] (fun n i f=>aB [(f 11).2.2 0])
section
variable {B:bf} {m:Nat}
def zM (l:Yb):Obj:=Obj.mapSeq (· ++ l.toArray) {cls:=.type "list",data:=.seq #[] 0}
def kl (j:Nat) (a:Yg):aH:=
 {code:=fun p=>.builtin "proto.collect" ⟨[.ref (p 1 0)],[]⟩,pl:=[j],objs:=fun p=>[(p 1 0,ab (du p a 2) (p 1 1))],strm:=true,out:=fun p b=>(.ret (.ref (b 0)),[ab (du p a 2) (p 1 1)],[(b 0,zM (du p a 2))])}
theorem zN (p:af):∀(l:Yg) (i:Nat),(du p l i).length=l.length
 | [],_=>rfl
 | _::r,i=>by show (du p r (i+1)).length+1=_;rw [zN p r];rfl
theorem vh {j:Nat} {a:Yg} (hx:a.length≤1000):(kl j a).Sure B m:=by
 refine ⟨by simp [kl],fun p A _ h i C d z g I k Q E _ D _ G => ?_⟩
 have u:=(D _ (.head _)).1
 refine x_call (hd:=none) ?_ (by intro e;cases e)
 refine codeAny_builtin F.entry_proto_collect ?_
 rw [Around.under_plainId F.plain_proto_collect _]
 show wpAny _ A.in1 (newList [] >>= fun l=>again (.builtin "list.__iadd__" ⟨[l,.ref (p 1 0)],[]⟩)) _ _ _
 refine wpAny_bind (wpAny_newObj_type ?_)
 refine wpAny_pure ⟨plainId_quiet F.plain_list_iadd _,codeAny_builtin F.entry_list_iadd ?_⟩
 rw [Around.under_plainId F.plain_list_iadd _]
 show wpAny _ A.in1 (Builtin.List.listExtendWith (.ref h.objs.size) (.ref (p 1 0)) (.ref h.objs.size)) _ _ _
 have hS:(h.push {cls:=.type "list",data:=.seq ([]:Yb).toArray}).get? h.objs.size=some {cls:=.type "list",data:=.seq #[] 0}:=Heap.get?_push_size _ rfl
 have c:=Heap.get?_update_self (Obj.mapSeq (· ++ (du p a 2).toArray)) hS rfl
 have hsz:(du p a 2).toArray.size≤sizeLine:=by rw [List.size_toArray,zN];exact Nat.le_trans hx (by decide)
 refine wpAny_extend_seq (hsz:=hsz) (A:=A) (R:=fun r w=>wpAny B.M A (k r) Q E w) (s:=⟨h.push {cls:=.type "list",data:=.seq ([]:Yb).toArray},C,d,i,z⟩) _ (p 1 0) _ 0 (.inl rfl) hS (o:=ab (du p a 2) (p 1 1)) (n:=p 1 1) (Heap.get?_push_of_some _ u) rfl rfl ?_
 have t:∀b f,h.get? b=some f→((h.push {cls:=.type "list",data:=.seq ([]:Yb).toArray}).update h.objs.size (Obj.mapSeq (· ++ (du p a 2).toArray))).get? b=some f:=fun b f q=>
  (Heap.get?_update_other _ _ (Nat.ne_of_gt (Heap.lt_size q))).trans (Heap.get?_push_of_some _ q)
 refine G _ i (fun _=>h.objs.size) (fun e=>by cases e) ?_ (fun b y e _=>t b y e) (fun x hx => ?_) (fun x hx => ?_) (by simp [kl])
 ·have H:=(Heap.SameBut.update (h.push {cls:=.type "list",data:=.seq ([]:Yb).toArray}) h.objs.size (Obj.mapSeq (· ++ (du p a 2).toArray))).1
  rw [H,Heap.size_push];exact Nat.le_succ _
 ·have:x=(p 1 0,ab (du p a 2) (p 1 1)):=by simpa [kl] using hx
  subst this
  exact t _ _ u
 ·have:x=(h.objs.size,zM (du p a 2)):=by simpa [kl] using hx
  subst this
  exact ⟨c,Nat.le_refl _⟩
end

def zO (a:Str) (p:af):Code:=.call (.ref 286) ⟨[.ref (p 1 0)],[]⟩
def zP (a:Str) (p:af):Ya:=[(p 1 0,ab (du p [a] 2) (p 1 1))]
def zQ (a:Str) (p:af) (b:Ye):Flow×Yf×Ya:=(.ret (.str ("/" ++ a) (b 0)),[ab (du p [a] 2) (p 1 1)],[])
theorem zR (b c:Bool) (w:Yc) (a:Str) (d:a∈aD) (p:af):aC (B0 (W b c w)) 3 (zO a p) (zP a p) (zQ a p):=
 aA (orcs:=[kl 0 [a],zr [] a]) (aa (vh (by show 1≤1000;decide)) (aa (EI [] (by decide) a d (by decide)) aq)) 27 2 [0,0,2,1,0,0,0,2,1,2,3,0,3] [0] (fun n e f=>aB [(f 1).2.2 0])
def dz (b:Yh) (a:Str):aH:=bA (zO a) b (zP a) (zQ a)
theorem dJ {b c:Bool} {w:Yc} {m:Nat} (d:Yh) (e:d.Nodup) (a:Str) (g:a∈aD) (f:3≤m):(dz d a).Sure (B0 (W b c w)) m:=
 (bS e fun p=>zR b c w a g p).le f
def zS (a d:Str) (p:af):Code:=.call (.ref 286) ⟨[.ref (p 1 0)],[]⟩
def zT (a d:Str) (p:af):Ya:=[(p 1 0,ab (du p [a,d] 2) (p 1 1))]
def zU (a d:Str) (p:af) (b:Ye):Flow×Yf×Ya:=(.ret (.str ("/" ++ a++("/" ++ d)) (b 0)),[ab (du p [a,d] 2) (p 1 1)],[])
theorem zV (b c:Bool) (w:Yc) (a d:Str) (e:a∈aD) (g:d∈aD) (p:af):aC (B0 (W b c w)) 3 (zS a d p) (zT a d p) (zU a d p):=
 aA (orcs:=[kl 0 [a,d],zv [] a d]) (aa (vh (by show 2≤1000;decide)) (aa (EK [] (by decide) a d e g (by decide)) aq)) 27 2 [0,0,2,1,0,0,0,2,1,2,3,0,3] [0] (fun n h f=>aB [(f 1).2.2 0])
def dA (b:Yh) (a d:Str):aH:=bA (zS a d) b (zT a d) (zU a d)
theorem dK {b c:Bool} {w:Yc} {m:Nat} (e:Yh) (f:e.Nodup) (a d:Str) (h:a∈aD) (i:d∈aD) (g:3≤m):(dA e a d).Sure (B0 (W b c w)) m:=
 (bS f fun p=>zV b c w a d h i p).le g
def cE (r:Yg):Prop:=(∃a∈aD,r=[a])∨∃a∈aD,∃d∈aD,r=[a,d]
theorem km:∀a∈b1,ao a∈aD:=by decide +kernel
theorem gG {r:Yg} (h:b7 r):cE (r.map ao):=by
 rcases h with ⟨a,b,rfl⟩ | ⟨a,b,d,c,rfl⟩
 ·exact .inl ⟨ao a,km a b,rfl⟩
 ·exact .inr ⟨ao a,km a b,ao d,km d c,rfl⟩
def aU:Yg→Str
 | []=>"/"
 | [a]=>"/" ++ a
 | a::d::_=>"/" ++ a++("/" ++ d)
def m4:Yg→Str
 | a::_::_=>"/" ++ a
 | _=>"/"
def m7:Yg→Str
 | []=>""
 | [a]=>a
 | _::d::_=>d
def po (r:Yg) (g:Ye) (j:Nat):aH:=bA (fun _=>.call (.ref 286) ⟨[.ref (g 0)],[]⟩) [j] (fun _=>[aE r g]) (fun _ a=>(.ret (.str (aU r) (a 0)),[(aE r g).2],[]))
theorem sM {b c:Bool} {w:Yc} {m:Nat} {r:Yg} {g:Nat→Nat} {j:Nat} (f:cE r) (h:3≤m):(po r g j).Sure (B0 (W b c w)) m:=by
 refine (bS (by simp) fun p => ?_:aH.Sure (B0 (W b c w)) 3 _).le h
 rcases f with ⟨a,e,rfl⟩ | ⟨a,e,d,k,rfl⟩
 ·exact zR b c w a e fun j i=>match j,i with | 1,0=>g 0 | 1,1=>1 | 1,i+2=>g (i+1) | j,i=>p j i
 ·exact zV b c w a d e k fun j i=>match j,i with | 1,0=>g 0 | 1,1=>2 | 1,i+2=>g (i+1) | j,i=>p j i
def zW (r:Yg):aH:=bA (fun p=>.call (.ref 264) ⟨[.str (aU r) (p 0 0)],[]⟩) [] (fun _=>[]) (fun _ a=>(.ret (.str (aU r) (a 0)),[],[]))
theorem Gf {b c:Bool} {w:Yc} {m:Nat} {r:Yg} (f:cE r) (g:3≤m):(zW r).Sure (B0 (W b c w)) m:=by
 refine (bS (by simp) fun p => ?_:aH.Sure (B0 (W b c w)) 3 _).le g
 rcases f with ⟨a,e,rfl⟩ | ⟨a,e,d,h,rfl⟩
 ·exact Gd b c w a e p
 ·exact Ge b c w a d e h p
def vj (r:Yg):aH:=bA (fun p=>.call (.ref 257) ⟨[.str (aU r) (p 0 0)],[]⟩) [] (fun _=>[]) (fun _ a=>(.ret (.str (m4 r) (a 0)),[],[]))
theorem zX {b c:Bool} {w:Yc} {m:Nat} {r:Yg} (f:cE r) (g:2≤m):(vj r).Sure (B0 (W b c w)) m:=by
 refine (bS (by simp) fun p => ?_:aH.Sure (B0 (W b c w)) 2 _).le g
 rcases f with ⟨a,e,rfl⟩ | ⟨a,e,d,h,rfl⟩
 ·exact F4 b c w a e p
 ·exact F5 b c w a d e h p
def vk (r:Yg):aH:=bA (fun p=>.call (.ref 250) ⟨[.str (aU r) (p 0 0)],[]⟩) [] (fun _=>[]) (fun _ a=>(.ret (.str (m7 r) (a 0)),[],[]))
theorem zY {b c:Bool} {w:Yc} {m:Nat} {r:Yg} (f:cE r) (g:2≤m):(vk r).Sure (B0 (W b c w)) m:=by
 refine (bS (by simp) fun p => ?_:aH.Sure (B0 (W b c w)) 2 _).le g
 rcases f with ⟨a,e,rfl⟩ | ⟨a,e,d,h,rfl⟩
 ·exact F2 b c w a e p
 ·exact F3 b c w a d e h p
def zZ (r:Yg):aH:=bA (fun p=>.call (.ref 236) ⟨[.str (aU r) (p 0 0)],[]⟩) [] (fun _=>[]) (fun _ a=>(.ret (.ref (a 0)),[],[(a 0,az [.str (m4 r) (a 1),.str (m7 r) (a 2)] 0)]))
theorem Gg {b c:Bool} {w:Yc} {m:Nat} {r:Yg} (f:cE r) (g:2≤m):(zZ r).Sure (B0 (W b c w)) m:=by
 refine (bS (by simp) fun p => ?_:aH.Sure (B0 (W b c w)) 2 _).le g
 rcases f with ⟨a,e,rfl⟩ | ⟨a,e,d,h,rfl⟩
 ·exact F6 b c w a e p
 ·exact F8 b c w a d e h p
theorem Gh (b c:Bool) (w:Yc) (p:af):aC (B0 (W b c w)) 1 (.call (.ref 100) ⟨[.str "a" (p 0 0)],[]⟩) [] (fun d=>(.ret (.str "a" (d 0)),[],[])):=
 aA (orcs:=[]) aq 72 0 [0,0,1,0,0,0,1,0,0,70,1,0,0,0,0,0,0,0,1,0,0,0,71,0,0,0,0,72,0,0,2,1,2,2,0,0,27,2,2] [] (fun n a f=>aB [a+4])
theorem Gi (b c:Bool) (w:Yc) (p:af):aC (B0 (W b c w)) 1 (.call (.ref 100) ⟨[.str "=2F" (p 0 0)],[]⟩) [] (fun d=>(.ret (.str "/" (d 0)),[],[])):=
 aA (orcs:=[]) aq 181 0 [0,0,1,0,0,0,1,0,0,70,1,0,0,0,0,0,0,0,1,0,0,0,71,0,0,0,0,72,0,0,0,0,0,5,4,0,0,5,4,4,4,4,0,4,0,73,4,3,5,4,0,5,0,0,0,0,6,5,0,0,0,0,0,0,6,0,0,17,7,7,7,7,0,0,0,0,0,67,0,0,29,0,0,68,2,1,2,0,72,0,0,2,0,0,27,2,2] [] (fun n a f=>aB [a+14])
theorem Gj (b c:Bool) (w:Yc) (p:af):aC (B0 (W b c w)) 1 (.call (.ref 100) ⟨[.str "=2E" (p 0 0)],[]⟩) [] (fun d=>(.ret (.str "." (d 0)),[],[])):=
 aA (orcs:=[]) aq 181 0 [0,0,1,0,0,0,1,0,0,70,1,0,0,0,0,0,0,0,1,0,0,0,71,0,0,0,0,72,0,0,0,0,0,5,4,0,0,5,4,4,4,4,0,4,0,73,4,3,5,4,0,5,0,0,0,0,6,5,0,0,0,0,0,0,6,0,0,17,7,7,7,7,0,0,0,0,0,67,0,0,29,0,0,68,2,1,2,0,72,0,0,2,0,0,27,2,2] [] (fun n a f=>aB [a+14])
theorem Gk (b c:Bool) (w:Yc) (p:af):aC (B0 (W b c w)) 1 (.call (.ref 100) ⟨[.str "=3D" (p 0 0)],[]⟩) [] (fun d=>(.ret (.str "=" (d 0)),[],[])):=
 aA (orcs:=[]) aq 181 0 [0,0,1,0,0,0,1,0,0,70,1,0,0,0,0,0,0,0,1,0,0,0,71,0,0,0,0,72,0,0,0,0,0,5,4,0,0,5,4,4,4,4,0,4,0,73,4,3,5,4,0,5,0,0,0,0,6,5,0,0,0,0,0,0,6,0,0,17,7,7,7,7,0,0,0,0,0,67,0,0,29,0,0,68,2,1,2,0,72,0,0,2,0,0,27,2,2] [] (fun n a f=>aB [a+14])
theorem Gl (b c:Bool) (w:Yc) (p:af):aC (B0 (W b c w)) 1 (.call (.ref 100) ⟨[.str "=20" (p 0 0)],[]⟩) [] (fun d=>(.ret (.str " " (d 0)),[],[])):=
 aA (orcs:=[]) aq 181 0 [0,0,1,0,0,0,1,0,0,70,1,0,0,0,0,0,0,0,1,0,0,0,71,0,0,0,0,72,0,0,0,0,0,5,4,0,0,5,4,4,4,4,0,4,0,73,4,3,5,4,0,5,0,0,0,0,6,5,0,0,0,0,0,0,6,0,0,17,7,7,7,7,0,0,0,0,0,67,0,0,29,0,0,68,2,1,2,0,72,0,0,2,0,0,27,2,2] [] (fun n a f=>aB [a+14])
theorem Gm (b c:Bool) (w:Yc) (p:af):aC (B0 (W b c w)) 1 (.call (.ref 100) ⟨[.str "=E9" (p 0 0)],[]⟩) [] (fun d=>(.ret (.str "é" (d 0)),[],[])):=
 aA (orcs:=[]) aq 181 0 [0,0,1,0,0,0,1,0,0,70,1,0,0,0,0,0,0,0,1,0,0,0,71,0,0,0,0,72,0,0,0,0,0,5,4,0,0,5,4,4,4,4,0,4,0,73,4,3,5,4,0,5,0,0,0,0,6,5,0,0,0,0,0,0,6,0,0,17,7,7,7,7,0,0,0,0,0,67,0,0,29,0,0,68,2,1,2,0,72,0,0,2,0,0,27,2,2] [] (fun n a f=>aB [a+14])
theorem Gn (b c:Bool) (w:Yc) (p:af):aC (B0 (W b c w)) 1 (.call (.ref 100) ⟨[.str "a=2F" (p 0 0)],[]⟩) [] (fun d=>(.ret (.str "a/" (d 0)),[],[])):=
 aA (orcs:=[]) aq 185 0 [0,0,1,0,0,0,1,0,0,70,1,0,0,0,0,0,0,0,1,0,0,0,71,0,0,0,0,72,0,0,2,1,2,0,0,0,5,4,0,0,5,4,4,4,4,0,4,0,73,4,3,5,4,0,5,0,0,0,0,6,5,0,0,0,0,0,0,6,0,0,17,7,7,7,7,0,0,0,0,0,67,0,0,29,0,0,68,2,1,2,0,72,0,0,2,0,0,27,2,2] [] (fun n a f=>aB [a+17])
theorem Go (b c:Bool) (w:Yc) (p:af):aC (B0 (W b c w)) 1 (.call (.ref 100) ⟨[.str "=2F=2E" (p 0 0)],[]⟩) [] (fun d=>(.ret (.str "/." (d 0)),[],[])):=
 aA (orcs:=[]) aq 294 0 [0,0,1,0,0,0,1,0,0,70,1,0,0,0,0,0,0,0,1,0,0,0,71,0,0,0,0,72,0,0,0,0,0,5,4,0,0,5,4,4,4,4,0,4,0,73,4,3,5,4,0,5,0,0,0,0,6,5,0,0,0,0,0,0,6,0,0,17,7,7,7,7,0,0,0,0,0,67,0,0,29,0,0,68,2,1,2,0,72,0,0,0,0,0,10,9,0,0,10,9,9,9,9,0,9,0,73,9,8,10,9,0,10,0,0,0,0,11,10,0,0,0,0,0,0,11,0,0,17,12,12,12,12,0,0,0,0,0,67,0,0,29,0,0,68,2,1,2,0,72,0,0,2,0,0,27,2,2] [] (fun n a f=>aB [a+27])
theorem Gp (b c:Bool) (w:Yc) (p:af):aC (B0 (W b c w)) 1 (.call (.ref 100) ⟨[.str "=2E=3D" (p 0 0)],[]⟩) [] (fun d=>(.ret (.str ".=" (d 0)),[],[])):=
 aA (orcs:=[]) aq 294 0 [0,0,1,0,0,0,1,0,0,70,1,0,0,0,0,0,0,0,1,0,0,0,71,0,0,0,0,72,0,0,0,0,0,5,4,0,0,5,4,4,4,4,0,4,0,73,4,3,5,4,0,5,0,0,0,0,6,5,0,0,0,0,0,0,6,0,0,17,7,7,7,7,0,0,0,0,0,67,0,0,29,0,0,68,2,1,2,0,72,0,0,0,0,0,10,9,0,0,10,9,9,9,9,0,9,0,73,9,8,10,9,0,10,0,0,0,0,11,10,0,0,0,0,0,0,11,0,0,17,12,12,12,12,0,0,0,0,0,67,0,0,29,0,0,68,2,1,2,0,72,0,0,2,0,0,27,2,2] [] (fun n a f=>aB [a+27])
theorem Gq (b c:Bool) (w:Yc) (p:af):aC (B0 (W b c w)) 1 (.call (.ref 100) ⟨[.str "=3D=20" (p 0 0)],[]⟩) [] (fun d=>(.ret (.str "= " (d 0)),[],[])):=
 aA (orcs:=[]) aq 294 0 [0,0,1,0,0,0,1,0,0,70,1,0,0,0,0,0,0,0,1,0,0,0,71,0,0,0,0,72,0,0,0,0,0,5,4,0,0,5,4,4,4,4,0,4,0,73,4,3,5,4,0,5,0,0,0,0,6,5,0,0,0,0,0,0,6,0,0,17,7,7,7,7,0,0,0,0,0,67,0,0,29,0,0,68,2,1,2,0,72,0,0,0,0,0,10,9,0,0,10,9,9,9,9,0,9,0,73,9,8,10,9,0,10,0,0,0,0,11,10,0,0,0,0,0,0,11,0,0,17,12,12,12,12,0,0,0,0,0,67,0,0,29,0,0,68,2,1,2,0,72,0,0,2,0,0,27,2,2] [] (fun n a f=>aB [a+27])
theorem Gr (b c:Bool) (w:Yc) (p:af):aC (B0 (W b c w)) 1 (.call (.ref 100) ⟨[.str "=20=E9" (p 0 0)],[]⟩) [] (fun d=>(.ret (.str " é" (d 0)),[],[])):=
 aA (orcs:=[]) aq 294 0 [0,0,1,0,0,0,1,0,0,70,1,0,0,0,0,0,0,0,1,0,0,0,71,0,0,0,0,72,0,0,0,0,0,5,4,0,0,5,4,4,4,4,0,4,0,73,4,3,5,4,0,5,0,0,0,0,6,5,0,0,0,0,0,0,6,0,0,17,7,7,7,7,0,0,0,0,0,67,0,0,29,0,0,68,2,1,2,0,72,0,0,0,0,0,10,9,0,0,10,9,9,9,9,0,9,0,73,9,8,10,9,0,10,0,0,0,0,11,10,0,0,0,0,0,0,11,0,0,17,12,12,12,12,0,0,0,0,0,67,0,0,29,0,0,68,2,1,2,0,72,0,0,2,0,0,27,2,2] [] (fun n a f=>aB [a+27])
theorem Gs (b c:Bool) (w:Yc) (p:af):aC (B0 (W b c w)) 1 (.call (.ref 100) ⟨[.str "=E9a" (p 0 0)],[]⟩) [] (fun d=>(.ret (.str "éa" (d 0)),[],[])):=
 aA (orcs:=[]) aq 185 0 [0,0,1,0,0,0,1,0,0,70,1,0,0,0,0,0,0,0,1,0,0,0,71,0,0,0,0,72,0,0,0,0,0,5,4,0,0,5,4,4,4,4,0,4,0,73,4,3,5,4,0,5,0,0,0,0,6,5,0,0,0,0,0,0,6,0,0,17,7,7,7,7,0,0,0,0,0,67,0,0,29,0,0,68,2,1,2,0,72,0,0,2,1,2,2,0,0,27,2,2] [] (fun n a f=>aB [a+17])
def sN (a:Str) (p:af):Code:=.call (.ref 100) ⟨[.str a (p 0 0)],[]⟩
theorem g6 {B:bf} {x y:Str} {p:af} (e:b4 x=y) (D:aC B 1 (sN x p) [] (gC y)):aC B 1 (sN x p) [] (gC (b4 x)):=by
 rw [e];exact D
theorem Gu (b c:Bool) (w:Yc) (p:af):∀a∈aD.tail,aC (B0 (W b c w)) 1 (sN a p) [] (gC (b4 a)):=by
 unfold aD
 rw [List.tail_cons]
 refine fc (g6 (y:="a") (by decide +kernel) (Gh b c w p)) ?_
 refine fc (g6 (y:="/") (by decide +kernel) (Gi b c w p)) ?_
 refine fc (g6 (y:=".") (by decide +kernel) (Gj b c w p)) ?_
 refine fc (g6 (y:="=") (by decide +kernel) (Gk b c w p)) ?_
 refine fc (g6 (y:=" ") (by decide +kernel) (Gl b c w p)) ?_
 refine fc (g6 (y:="é") (by decide +kernel) (Gm b c w p)) ?_
 refine fc (g6 (y:="a/") (by decide +kernel) (Gn b c w p)) ?_
 refine fc (g6 (y:="/.") (by decide +kernel) (Go b c w p)) ?_
 refine fc (g6 (y:=".=") (by decide +kernel) (Gp b c w p)) ?_
 refine fc (g6 (y:="= ") (by decide +kernel) (Gq b c w p)) ?_
 refine fc (g6 (y:=" é") (by decide +kernel) (Gr b c w p)) ?_
 refine fc (g6 (y:="éa") (by decide +kernel) (Gs b c w p)) ?_
 exact fn
def ik (a:Str):aH:=bA (sN a) [] (fun _=>[]) fun _ b=>gC (b4 a) b
theorem iW {b c:Bool} {w:Yc} {m:Nat} (a:Str) (e:a∈aD.tail) (d:1≤m):(ik a).Sure (B0 (W b c w)) m:=
 (bS (by decide) fun p=>Gu b c w p a e).le d
noncomputable def aJ (v:Yd):Obj:={cls:=.type "cell",data:=.cell (some v)}
noncomputable def ba (a b:Nat):Obj:={cls:=.type "zip",data:=.fields #[.none,.bool false,.bool false,.ref a,.ref b]}
def bj (c:Code) (i f b g:Nat) (h:Yh):Code:=match c with
 | .compStart e d _ _ a=>.compStart e d (.ref i) (.ref f) {a with locals:=b,frame:=some g,cells:=pi a.cells h}
 | _=>.call .none ⟨[],[]⟩
def bI (c:Code) (i f b g:Nat) (h:Yh):Code:=match c with
 | .compStart e d _ _ a=>.compLoop e d (.ref i) (.ref f) {a with locals:=b,frame:=some g,cells:=pi a.cells h}
 | _=>.call .none ⟨[],[]⟩
def jz (c:Code) (f d:Nat) (e:Yh):Code:=match c with
 | .forLoop t _ b o a=>.forLoop t (.ref f) b o {a with locals:=d,frame:=some d,cells:=pi a.cells e}
 | _=>.call .none ⟨[],[]⟩
theorem bv (c:Code) (f b a d:Nat) (e:Yh):ie (bj c f b a d e)=false:=by cases c <;> rfl
theorem dL (c:Code) (f b a d:Nat) (e:Yh):ie (bI c f b a d e)=false:=by cases c <;> rfl
theorem sO (c:Code) (b a:Nat) (d:Yh):ie (jz c b a d)=false:=by cases c <;> rfl
def jA:Pos:=⟨0,0,0,0⟩
def fT:Code→Expr
 | .forLoop t _ _ _ _=>t
 | _=>.Tuple [] 0 jA
def fB:Code→List Stmt
 | .forLoop _ _ b _ _=>b
 | _=>[]
def fO:Code→List Stmt
 | .forLoop _ _ _ o _=>o
 | _=>[]
def fE:Code→Env
 | .forLoop _ _ _ _ e=>e
 | _=>default
def sQ:Code→Bool
 | .forLoop _ _ _ _ _=>true
 | _=>false
def m9 (c:Code) (a:Nat) (b:Yh):Env:={fE c with locals:=a,frame:=some a,cells:=pi (fE c).cells b}
theorem vl {c:Code} (h:sQ c=true) (d a:Nat) (b:Yh):jz c d a b = .forLoop (fT c) (.ref d) (fB c) (fO c) (m9 c a b):=by
 cases c <;> first | rfl | cases h
def gH:List Stmt→Nat→Stmt
 | [],_=>.Pass jA
 | s::l,i=>match i with
  | 0=>s
  | j+1=>gH l j
def cY:List Expr→Nat→Expr
 | [],_=>.Tuple [] 0 jA
 | s::l,i=>match i with
  | 0=>s
  | j+1=>cY l j
def bN:Stmt→Expr
 | .If t _ _ _=>t
 | _=>.Tuple [] 0 jA
def pp:Stmt→List Stmt
 | .If _ b _ _=>b
 | _=>[]
def pq:Stmt→Pos
 | .If _ _ _ p=>p
 | _=>jA
def c3:Expr→List Expr
 | .BoolOp _ l _=>l
 | _=>[]
def vm:Expr→Pos
 | .BoolOp _ _ p=>p
 | _=>jA
def d3:Expr→Expr
 | .Compare l _ _ _=>l
 | e=>e
def dd:Expr→Expr
 | .Compare _ _ [r] _=>r
 | e=>e
def na:Expr→Pos
 | .Compare _ _ _ p=>p
 | _=>jA
def nb:Expr→List Expr
 | .Tuple l _ _=>l
 | _=>[]
def z1:Option c1→Code
 | some o=>match o.r with
  | .again c=>c
  | _=>.call .none ⟨[],[]⟩
 | none=>.call .none ⟨[],[]⟩
def iX:Code→List Stmt
 | .func b _=>b
 | _=>[]
def vn:Code→Env
 | .func _ e=>e
 | _=>default
def vo (s:Stmt) (e:Env):Code:=match s with
 | .For t _ b o _=>.forLoop t .none b o e
 | _=>.call .none ⟨[],[]⟩
def Gv:Stmt→Expr
 | .Assign _ v _=>v
 | _=>.Tuple [] 0 jA
def vp:Expr→Expr
 | .ListComp e _ _ _=>e
 | e=>e
def Gw:Expr→Expr
 | .IfExp _ _ o _=>o
 | e=>e
def Gx:Expr→Expr
 | .Call _ (a::_) _ _=>a
 | e=>e
def z2:Yg→List (Str×Addr)
 | []=>[]
 | n::l=>(n,0)::z2 l
def z3 (n:Str):Yg→Bool
 | []=>false
 | m::l=>n==m||z3 n l
def z4 (a:Yg):List (Str×NameKind)→List (Str×NameKind)
 | []=>[]
 | (n,k)::l=>(match k==NameKind.free&&z3 n a with | true=>(n,.cell) | false=>(n,k))::z4 a l
def Gy (b:Yg):Expr→Scope
 | .ListComp _ _ s _=>{s with names:=z4 b s.names}
 | _=>default
def Gz:Code→Env
 | .compStart _ _ _ _ e=>e
 | _=>default
section
def im (w:Yc):Code:=z1 (gw false false w [] 14 [0,0,2,1,0,1] 0 (fun _=>(0,0,id)) u7 u8 1000 0)
def kn (w:Yc) (e:Expr) (b:Yg):Code:=.compStart e 0 .none .none {Gz (fM w) with scope:=Gy b e,cells:=z2 b}
def vq (w:Yc):Expr:=dd (bN (gH (iX (im w)) 3))
def dg (w:Yc):Code:=vo (gH (iX (im w)) 5) (vn (im w))
def g7 (w:Yc):Code:=kn w (vq w) ["signs"]
def cF (w:Yc):Code:=kn w (vp (vq w)) ["signs"]
def c4 (w:Yc):Code:=kn w (Gx (Gw (vp (vp (vq w))))) ["signs"]
def pu (w:Yc):Code:=kn w (d3 (cY (c3 (bN (gH (fB (dg w)) 1))) 1)) []
def gI (w:Yc):Code:=kn w (d3 (bN (gH (fB (dg w)) 3))) []
def gJ (w:Yc):Code:=kn w (dd (bN (gH (fB (dg w)) 3))) []
def g8 (w:Yc):Code:=kn w (Gv (gH (iX (im w)) 6)) []
def gK (w:Yc):Code:=kn w (d3 (cY (c3 (bN (gH (iX (im w)) 7))) 1)) ["heap"]
def cp (w:Yc):Code:=vo (gH (iX (im w)) 8) (vn (im w))
end
section
theorem GA (b:Bool) (w:Yc) (a:Str) (e:a∈aD) (p:af):aC (B0 (W b false w)) 2 (bj (pu w) (p 1 0) (p 3 0) (p 4 0) (p 5 0) []) [(p 1 0,am (.ref (p 2 0)) 0),(p 2 0,ab [.str a (p 2 2)] (p 2 1)),(p 3 0,ab [] 0),(p 4 0,aw w [] (0))] (fun c=>(.next,[am .none 1,ab [.str a (p 2 2)] (p 2 1),ab [.str (b4 a) (c 1)] 1,aw w [("part",c 0,.str a (p 2 2))] (1)],[])):=
 aA (orcs:=[ju a]) (aa (ki a e (by decide)) aq) 65 1 [1,1,0,1,0,43,1,0,1,0,1,0,24,1,1,2,1,0,4,3,0,4,0,2,0,3,0,26,3,2,3,0,1,0,1,0,24,1,1,2,1,0,6] [0,1,2,3] (fun n d f=>aB [d+0,(f 0).2.2 0]) (hc:=aS (bv _ _ _ _ _ _))
theorem GB (b:Bool) (w:Yc) (a d:Str) (g:a∈aD) (h:d∈aD) (p:af):aC (B0 (W b false w)) 2 (bj (pu w) (p 1 0) (p 3 0) (p 4 0) (p 5 0) []) [(p 1 0,am (.ref (p 2 0)) 0),(p 2 0,ab [.str a (p 2 2),.str d (p 2 3)] (p 2 1)),(p 3 0,ab [] 0),(p 4 0,aw w [] (0))] (fun c=>(.next,[am .none 2,ab [.str a (p 2 2),.str d (p 2 3)] (p 2 1),ab [.str (b4 a) (c 1),.str (b4 d) (c 2)] 2,aw w [("part",c 0,.str d (p 2 3))] (1)],[])):=
 aA (orcs:=[ju a,ju d]) (aa (ki a g (by decide)) (aa (ki d h (by decide)) aq)) 99 2 [1,1,0,1,0,43,1,0,1,0,1,0,24,1,1,2,1,0,4,3,0,4,0,2,0,3,0,26,3,2,3,0,1,0,1,0,24,1,1,2,1,0,4,3,0,4,0,3,0,3,0,26,3,2,3,0,1,0,1,0,24,1,1,2,1,0,6] [0,1,2,3] (fun n e f=>aB [e+0,(f 0).2.2 0,(f 1).2.2 0]) (hc:=aS (bv _ _ _ _ _ _))
theorem GC (b:Bool) (w:Yc) (a:Str) (d:(a.cps.toList != ("=" : Str).cps.toList)=false) (p:af):aC (B0 (W b false w)) 2 (bj (gI w) (p 1 0) (p 3 0) (p 4 0) (p 5 0) []) [(p 1 0,am (.ref (p 2 0)) 0),(p 2 0,ab [.str a (p 2 2)] (p 2 1)),(p 3 0,ab [] 0),(p 4 0,aw w [] (0))] (fun e=>(.next,[am .none 1,ab [.str a (p 2 2)] (p 2 1),ab [] 0,aw w [("part",e 0,.str a (p 2 2))] (1)],[])):=
 aA (orcs:=[o2 "str.__ne__" a "=" fun _=>.bool false]) (aa (aQ d) aq) 56 1 [1,1,0,1,0,43,1,0,1,0,1,0,24,1,1,2,1,0,4,3,4,2,0,1,0,1,0,24,1,1,2,1,0,6] [0,1,2,3] (fun n c f=>aB [c+0]) (hc:=aS (bv _ _ _ _ _ _))
theorem GD (b:Bool) (w:Yc) (a:Str) (d:(a.cps.toList != ("" : Str).cps.toList)=false) (p:af):aC (B0 (W b false w)) 2 (bj (gJ w) (p 1 0) (p 3 0) (p 4 0) (p 5 0) []) [(p 1 0,am (.ref (p 2 0)) 0),(p 2 0,ab [.str a (p 2 2)] (p 2 1)),(p 3 0,ab [] 0),(p 4 0,aw w [] (0))] (fun e=>(.next,[am .none 1,ab [.str a (p 2 2)] (p 2 1),ab [] 0,aw w [("name",e 0,.str a (p 2 2))] (1)],[])):=
 aA (orcs:=[o2 "str.__ne__" a "" fun _=>.bool false]) (aa (aQ d) aq) 56 1 [1,1,0,1,0,43,1,0,1,0,1,0,24,1,1,2,1,0,4,3,4,2,0,1,0,1,0,24,1,1,2,1,0,6] [0,1,2,3] (fun n c f=>aB [c+0]) (hc:=aS (bv _ _ _ _ _ _))
theorem GE (b:Bool) (w:Yc) (a d:Str) (e:(a.cps.toList != ("=" : Str).cps.toList)=false) (nd:(d.cps.toList != ("=" : Str).cps.toList)=false) (p:af):aC (B0 (W b false w)) 2 (bj (gI w) (p 1 0) (p 3 0) (p 4 0) (p 5 0) []) [(p 1 0,am (.ref (p 2 0)) 0),(p 2 0,ab [.str a (p 2 2),.str d (p 2 3)] (p 2 1)),(p 3 0,ab [] 0),(p 4 0,aw w [] (0))] (fun g=>(.next,[am .none 2,ab [.str a (p 2 2),.str d (p 2 3)] (p 2 1),ab [] 0,aw w [("part",g 0,.str d (p 2 3))] (1)],[])):=
 aA (orcs:=[o2 "str.__ne__" a "=" fun _=>.bool false,o2 "str.__ne__" d "=" fun _=>.bool false]) (aa (aQ e) (aa (aQ nd) aq)) 81 2 [1,1,0,1,0,43,1,0,1,0,1,0,24,1,1,2,1,0,4,3,4,2,0,1,0,1,0,24,1,1,2,1,0,4,3,4,3,0,1,0,1,0,24,1,1,2,1,0,6] [0,1,2,3] (fun n c f=>aB [c+0]) (hc:=aS (bv _ _ _ _ _ _))
theorem GF (b:Bool) (w:Yc) (a d:Str) (e:(a.cps.toList != ("" : Str).cps.toList)=false) (nd:(d.cps.toList != ("" : Str).cps.toList)=false) (p:af):aC (B0 (W b false w)) 2 (bj (gJ w) (p 1 0) (p 3 0) (p 4 0) (p 5 0) []) [(p 1 0,am (.ref (p 2 0)) 0),(p 2 0,ab [.str a (p 2 2),.str d (p 2 3)] (p 2 1)),(p 3 0,ab [] 0),(p 4 0,aw w [] (0))] (fun g=>(.next,[am .none 2,ab [.str a (p 2 2),.str d (p 2 3)] (p 2 1),ab [] 0,aw w [("name",g 0,.str d (p 2 3))] (1)],[])):=
 aA (orcs:=[o2 "str.__ne__" a "" fun _=>.bool false,o2 "str.__ne__" d "" fun _=>.bool false]) (aa (aQ e) (aa (aQ nd) aq)) 81 2 [1,1,0,1,0,43,1,0,1,0,1,0,24,1,1,2,1,0,4,3,4,2,0,1,0,1,0,24,1,1,2,1,0,4,3,4,3,0,1,0,1,0,24,1,1,2,1,0,6] [0,1,2,3] (fun n c f=>aB [c+0]) (hc:=aS (bv _ _ _ _ _ _))
theorem GG (b:Bool) (w:Yc) (a d:Str) (g:(a.cps.toList != ("=" : Str).cps.toList)=false) (nd:(d.cps.toList != ("=" : Str).cps.toList)=true) (h:d∈aD.tail) (p:af):aC (B0 (W b false w)) 2 (bj (gI w) (p 1 0) (p 3 0) (p 4 0) (p 5 0) []) [(p 1 0,am (.ref (p 2 0)) 0),(p 2 0,ab [.str a (p 2 2),.str d (p 2 3)] (p 2 1)),(p 3 0,ab [] 0),(p 4 0,aw w [] (0))] (fun c=>(.next,[am .none 2,ab [.str a (p 2 2),.str d (p 2 3)] (p 2 1),ab [.str (b4 d) (c 1)] 1,aw w [("part",c 0,.str d (p 2 3))] (1)],[])):=
 aA (orcs:=[o2 "str.__ne__" a "=" fun _=>.bool false,o2 "str.__ne__" d "=" fun _=>.bool true,ik d]) (aa (aQ g) (aa (aQ nd) (aa (iW d h (by decide)) aq))) 96 3 [1,1,0,1,0,43,1,0,1,0,1,0,24,1,1,2,1,0,4,3,4,2,0,1,0,1,0,24,1,1,2,1,0,4,3,4,3,0,4,0,4,0,3,0,26,3,2,3,0,1,0,1,0,24,1,1,2,1,0,6] [0,1,2,3] (fun n e f=>aB [e+0,(f 2).2.2 0]) (hc:=aS (bv _ _ _ _ _ _))
theorem GH (b:Bool) (w:Yc) (a d:Str) (e:(a.cps.toList != ("" : Str).cps.toList)=false) (nd:(d.cps.toList != ("" : Str).cps.toList)=true) (p:af):aC (B0 (W b false w)) 2 (bj (gJ w) (p 1 0) (p 3 0) (p 4 0) (p 5 0) []) [(p 1 0,am (.ref (p 2 0)) 0),(p 2 0,ab [.str a (p 2 2),.str d (p 2 3)] (p 2 1)),(p 3 0,ab [] 0),(p 4 0,aw w [] (0))] (fun g=>(.next,[am .none 2,ab [.str a (p 2 2),.str d (p 2 3)] (p 2 1),ab [.str d (p 2 3)] 1,aw w [("name",g 0,.str d (p 2 3))] (1)],[])):=
 aA (orcs:=[o2 "str.__ne__" a "" fun _=>.bool false,o2 "str.__ne__" d "" fun _=>.bool true]) (aa (aQ e) (aa (aQ nd) aq)) 90 2 [1,1,0,1,0,43,1,0,1,0,1,0,24,1,1,2,1,0,4,3,4,2,0,1,0,1,0,24,1,1,2,1,0,4,3,4,3,4,0,3,0,26,3,2,3,0,1,0,1,0,24,1,1,2,1,0,6] [0,1,2,3] (fun n c f=>aB [c+0]) (hc:=aS (bv _ _ _ _ _ _))
theorem GI (b:Bool) (w:Yc) (a:Str) (e:(a.cps.toList != ("=" : Str).cps.toList)=true) (g:a∈aD.tail) (p:af):aC (B0 (W b false w)) 2 (bj (gI w) (p 1 0) (p 3 0) (p 4 0) (p 5 0) []) [(p 1 0,am (.ref (p 2 0)) 0),(p 2 0,ab [.str a (p 2 2)] (p 2 1)),(p 3 0,ab [] 0),(p 4 0,aw w [] (0))] (fun c=>(.next,[am .none 1,ab [.str a (p 2 2)] (p 2 1),ab [.str (b4 a) (c 1)] 1,aw w [("part",c 0,.str a (p 2 2))] (1)],[])):=
 aA (orcs:=[o2 "str.__ne__" a "=" fun _=>.bool true,ik a]) (aa (aQ e) (aa (iW a g (by decide)) aq)) 71 2 [1,1,0,1,0,43,1,0,1,0,1,0,24,1,1,2,1,0,4,3,4,2,0,4,0,3,0,3,0,26,3,2,3,0,1,0,1,0,24,1,1,2,1,0,6] [0,1,2,3] (fun n d f=>aB [d+0,(f 1).2.2 0]) (hc:=aS (bv _ _ _ _ _ _))
theorem GJ (b:Bool) (w:Yc) (a:Str) (d:(a.cps.toList != ("" : Str).cps.toList)=true) (p:af):aC (B0 (W b false w)) 2 (bj (gJ w) (p 1 0) (p 3 0) (p 4 0) (p 5 0) []) [(p 1 0,am (.ref (p 2 0)) 0),(p 2 0,ab [.str a (p 2 2)] (p 2 1)),(p 3 0,ab [] 0),(p 4 0,aw w [] (0))] (fun e=>(.next,[am .none 1,ab [.str a (p 2 2)] (p 2 1),ab [.str a (p 2 2)] 1,aw w [("name",e 0,.str a (p 2 2))] (1)],[])):=
 aA (orcs:=[o2 "str.__ne__" a "" fun _=>.bool true]) (aa (aQ d) aq) 65 1 [1,1,0,1,0,43,1,0,1,0,1,0,24,1,1,2,1,0,4,3,4,2,4,0,3,0,26,3,2,3,0,1,0,1,0,24,1,1,2,1,0,6] [0,1,2,3] (fun n c f=>aB [c+0]) (hc:=aS (bv _ _ _ _ _ _))
theorem GK (b:Bool) (w:Yc) (a d:Str) (g:(a.cps.toList != ("=" : Str).cps.toList)=true) (h:a∈aD.tail) (nd:(d.cps.toList != ("=" : Str).cps.toList)=false) (p:af):aC (B0 (W b false w)) 2 (bj (gI w) (p 1 0) (p 3 0) (p 4 0) (p 5 0) []) [(p 1 0,am (.ref (p 2 0)) 0),(p 2 0,ab [.str a (p 2 2),.str d (p 2 3)] (p 2 1)),(p 3 0,ab [] 0),(p 4 0,aw w [] (0))] (fun c=>(.next,[am .none 2,ab [.str a (p 2 2),.str d (p 2 3)] (p 2 1),ab [.str (b4 a) (c 1)] 1,aw w [("part",c 0,.str d (p 2 3))] (1)],[])):=
 aA (orcs:=[o2 "str.__ne__" a "=" fun _=>.bool true,ik a,o2 "str.__ne__" d "=" fun _=>.bool false]) (aa (aQ g) (aa (iW a h (by decide)) (aa (aQ nd) aq))) 96 3 [1,1,0,1,0,43,1,0,1,0,1,0,24,1,1,2,1,0,4,3,4,2,0,4,0,3,0,3,0,26,3,2,3,0,1,0,1,0,24,1,1,2,1,0,4,3,4,4,0,1,0,1,0,24,1,1,2,1,0,6] [0,1,2,3] (fun n e f=>aB [e+0,(f 1).2.2 0]) (hc:=aS (bv _ _ _ _ _ _))
theorem GL (b:Bool) (w:Yc) (a d:Str) (e:(a.cps.toList != ("" : Str).cps.toList)=true) (nd:(d.cps.toList != ("" : Str).cps.toList)=false) (p:af):aC (B0 (W b false w)) 2 (bj (gJ w) (p 1 0) (p 3 0) (p 4 0) (p 5 0) []) [(p 1 0,am (.ref (p 2 0)) 0),(p 2 0,ab [.str a (p 2 2),.str d (p 2 3)] (p 2 1)),(p 3 0,ab [] 0),(p 4 0,aw w [] (0))] (fun g=>(.next,[am .none 2,ab [.str a (p 2 2),.str d (p 2 3)] (p 2 1),ab [.str a (p 2 2)] 1,aw w [("name",g 0,.str d (p 2 3))] (1)],[])):=
 aA (orcs:=[o2 "str.__ne__" a "" fun _=>.bool true,o2 "str.__ne__" d "" fun _=>.bool false]) (aa (aQ e) (aa (aQ nd) aq)) 90 2 [1,1,0,1,0,43,1,0,1,0,1,0,24,1,1,2,1,0,4,3,4,2,4,0,3,0,26,3,2,3,0,1,0,1,0,24,1,1,2,1,0,4,3,4,3,0,1,0,1,0,24,1,1,2,1,0,6] [0,1,2,3] (fun n c f=>aB [c+0]) (hc:=aS (bv _ _ _ _ _ _))
theorem GM (b:Bool) (w:Yc) (a d:Str) (g:(a.cps.toList != ("=" : Str).cps.toList)=true) (h:a∈aD.tail) (nd:(d.cps.toList != ("=" : Str).cps.toList)=true) (i:d∈aD.tail) (p:af):aC (B0 (W b false w)) 2 (bj (gI w) (p 1 0) (p 3 0) (p 4 0) (p 5 0) []) [(p 1 0,am (.ref (p 2 0)) 0),(p 2 0,ab [.str a (p 2 2),.str d (p 2 3)] (p 2 1)),(p 3 0,ab [] 0),(p 4 0,aw w [] (0))] (fun c=>(.next,[am .none 2,ab [.str a (p 2 2),.str d (p 2 3)] (p 2 1),ab [.str (b4 a) (c 1),.str (b4 d) (c 2)] 2,aw w [("part",c 0,.str d (p 2 3))] (1)],[])):=
 aA (orcs:=[o2 "str.__ne__" a "=" fun _=>.bool true,ik a,o2 "str.__ne__" d "=" fun _=>.bool true,ik d]) (aa (aQ g) (aa (iW a h (by decide)) (aa (aQ nd) (aa (iW d i (by decide)) aq)))) 111 4 [1,1,0,1,0,43,1,0,1,0,1,0,24,1,1,2,1,0,4,3,4,2,0,4,0,3,0,3,0,26,3,2,3,0,1,0,1,0,24,1,1,2,1,0,4,3,4,4,0,4,0,5,0,3,0,26,3,2,3,0,1,0,1,0,24,1,1,2,1,0,6] [0,1,2,3] (fun n e f=>aB [e+0,(f 1).2.2 0,(f 3).2.2 0]) (hc:=aS (bv _ _ _ _ _ _))
theorem GN (b:Bool) (w:Yc) (a d:Str) (e:(a.cps.toList != ("" : Str).cps.toList)=true) (nd:(d.cps.toList != ("" : Str).cps.toList)=true) (p:af):aC (B0 (W b false w)) 2 (bj (gJ w) (p 1 0) (p 3 0) (p 4 0) (p 5 0) []) [(p 1 0,am (.ref (p 2 0)) 0),(p 2 0,ab [.str a (p 2 2),.str d (p 2 3)] (p 2 1)),(p 3 0,ab [] 0),(p 4 0,aw w [] (0))] (fun g=>(.next,[am .none 2,ab [.str a (p 2 2),.str d (p 2 3)] (p 2 1),ab [.str a (p 2 2),.str d (p 2 3)] 2,aw w [("name",g 0,.str d (p 2 3))] (1)],[])):=
 aA (orcs:=[o2 "str.__ne__" a "" fun _=>.bool true,o2 "str.__ne__" d "" fun _=>.bool true]) (aa (aQ e) (aa (aQ nd) aq)) 99 2 [1,1,0,1,0,43,1,0,1,0,1,0,24,1,1,2,1,0,4,3,4,2,4,0,3,0,26,3,2,3,0,1,0,1,0,24,1,1,2,1,0,4,3,4,3,4,0,3,0,26,3,2,3,0,1,0,1,0,24,1,1,2,1,0,6] [0,1,2,3] (fun n c f=>aB [c+0]) (hc:=aS (bv _ _ _ _ _ _))
theorem GO (b:Bool) (w:Yc) (a:Str) (e:a∈aD) (p:af):aC (B0 (W b true w)) 2 (bj (pu w) (p 1 0) (p 3 0) (p 4 0) (p 5 0) []) [(p 1 0,am (.ref (p 2 0)) 0),(p 2 0,ab [.str a (p 2 2)] (p 2 1)),(p 3 0,ab [] 0),(p 4 0,aw w [] (0))] (fun c=>(.next,[am .none 1,ab [.str a (p 2 2)] (p 2 1),ab [.str (b4 a) (c 1)] 1,aw w [("part",c 0,.str a (p 2 2))] (1)],[])):=
 aA (orcs:=[ju a]) (aa (ki a e (by decide)) aq) 55 1 [0,1,0,1,0,24,1,1,2,1,0,4,3,0,4,0,2,0,3,0,26,3,2,3,0,1,0,1,0,24,1,1,2,1,0,6] [0,1,2,3] (fun n d f=>aB [d+0,(f 0).2.2 0]) (hc:=aS (bv _ _ _ _ _ _))
theorem GP (b:Bool) (w:Yc) (a d:Str) (g:a∈aD) (h:d∈aD) (p:af):aC (B0 (W b true w)) 2 (bj (pu w) (p 1 0) (p 3 0) (p 4 0) (p 5 0) []) [(p 1 0,am (.ref (p 2 0)) 0),(p 2 0,ab [.str a (p 2 2),.str d (p 2 3)] (p 2 1)),(p 3 0,ab [] 0),(p 4 0,aw w [] (0))] (fun c=>(.next,[am .none 2,ab [.str a (p 2 2),.str d (p 2 3)] (p 2 1),ab [.str (b4 a) (c 1),.str (b4 d) (c 2)] 2,aw w [("part",c 0,.str d (p 2 3))] (1)],[])):=
 aA (orcs:=[ju a,ju d]) (aa (ki a g (by decide)) (aa (ki d h (by decide)) aq)) 89 2 [0,1,0,1,0,24,1,1,2,1,0,4,3,0,4,0,2,0,3,0,26,3,2,3,0,1,0,1,0,24,1,1,2,1,0,4,3,0,4,0,3,0,3,0,26,3,2,3,0,1,0,1,0,24,1,1,2,1,0,6] [0,1,2,3] (fun n e f=>aB [e+0,(f 0).2.2 0,(f 1).2.2 0]) (hc:=aS (bv _ _ _ _ _ _))
theorem GQ (b:Bool) (w:Yc) (a:Str) (d:(a.cps.toList != ("=" : Str).cps.toList)=false) (p:af):aC (B0 (W b true w)) 2 (bj (gI w) (p 1 0) (p 3 0) (p 4 0) (p 5 0) []) [(p 1 0,am (.ref (p 2 0)) 0),(p 2 0,ab [.str a (p 2 2)] (p 2 1)),(p 3 0,ab [] 0),(p 4 0,aw w [] (0))] (fun e=>(.next,[am .none 1,ab [.str a (p 2 2)] (p 2 1),ab [] 0,aw w [("part",e 0,.str a (p 2 2))] (1)],[])):=
 aA (orcs:=[o2 "str.__ne__" a "=" fun _=>.bool false]) (aa (aQ d) aq) 46 1 [0,1,0,1,0,24,1,1,2,1,0,4,3,4,2,0,1,0,1,0,24,1,1,2,1,0,6] [0,1,2,3] (fun n c f=>aB [c+0]) (hc:=aS (bv _ _ _ _ _ _))
theorem GR (b:Bool) (w:Yc) (a:Str) (d:(a.cps.toList != ("" : Str).cps.toList)=false) (p:af):aC (B0 (W b true w)) 2 (bj (gJ w) (p 1 0) (p 3 0) (p 4 0) (p 5 0) []) [(p 1 0,am (.ref (p 2 0)) 0),(p 2 0,ab [.str a (p 2 2)] (p 2 1)),(p 3 0,ab [] 0),(p 4 0,aw w [] (0))] (fun e=>(.next,[am .none 1,ab [.str a (p 2 2)] (p 2 1),ab [] 0,aw w [("name",e 0,.str a (p 2 2))] (1)],[])):=
 aA (orcs:=[o2 "str.__ne__" a "" fun _=>.bool false]) (aa (aQ d) aq) 46 1 [0,1,0,1,0,24,1,1,2,1,0,4,3,4,2,0,1,0,1,0,24,1,1,2,1,0,6] [0,1,2,3] (fun n c f=>aB [c+0]) (hc:=aS (bv _ _ _ _ _ _))
theorem GS (b:Bool) (w:Yc) (a d:Str) (e:(a.cps.toList != ("=" : Str).cps.toList)=false) (nd:(d.cps.toList != ("=" : Str).cps.toList)=false) (p:af):aC (B0 (W b true w)) 2 (bj (gI w) (p 1 0) (p 3 0) (p 4 0) (p 5 0) []) [(p 1 0,am (.ref (p 2 0)) 0),(p 2 0,ab [.str a (p 2 2),.str d (p 2 3)] (p 2 1)),(p 3 0,ab [] 0),(p 4 0,aw w [] (0))] (fun g=>(.next,[am .none 2,ab [.str a (p 2 2),.str d (p 2 3)] (p 2 1),ab [] 0,aw w [("part",g 0,.str d (p 2 3))] (1)],[])):=
 aA (orcs:=[o2 "str.__ne__" a "=" fun _=>.bool false,o2 "str.__ne__" d "=" fun _=>.bool false]) (aa (aQ e) (aa (aQ nd) aq)) 71 2 [0,1,0,1,0,24,1,1,2,1,0,4,3,4,2,0,1,0,1,0,24,1,1,2,1,0,4,3,4,3,0,1,0,1,0,24,1,1,2,1,0,6] [0,1,2,3] (fun n c f=>aB [c+0]) (hc:=aS (bv _ _ _ _ _ _))
theorem GT (b:Bool) (w:Yc) (a d:Str) (e:(a.cps.toList != ("" : Str).cps.toList)=false) (nd:(d.cps.toList != ("" : Str).cps.toList)=false) (p:af):aC (B0 (W b true w)) 2 (bj (gJ w) (p 1 0) (p 3 0) (p 4 0) (p 5 0) []) [(p 1 0,am (.ref (p 2 0)) 0),(p 2 0,ab [.str a (p 2 2),.str d (p 2 3)] (p 2 1)),(p 3 0,ab [] 0),(p 4 0,aw w [] (0))] (fun g=>(.next,[am .none 2,ab [.str a (p 2 2),.str d (p 2 3)] (p 2 1),ab [] 0,aw w [("name",g 0,.str d (p 2 3))] (1)],[])):=
 aA (orcs:=[o2 "str.__ne__" a "" fun _=>.bool false,o2 "str.__ne__" d "" fun _=>.bool false]) (aa (aQ e) (aa (aQ nd) aq)) 71 2 [0,1,0,1,0,24,1,1,2,1,0,4,3,4,2,0,1,0,1,0,24,1,1,2,1,0,4,3,4,3,0,1,0,1,0,24,1,1,2,1,0,6] [0,1,2,3] (fun n c f=>aB [c+0]) (hc:=aS (bv _ _ _ _ _ _))
theorem GU (b:Bool) (w:Yc) (a d:Str) (g:(a.cps.toList != ("=" : Str).cps.toList)=false) (nd:(d.cps.toList != ("=" : Str).cps.toList)=true) (h:d∈aD.tail) (p:af):aC (B0 (W b true w)) 2 (bj (gI w) (p 1 0) (p 3 0) (p 4 0) (p 5 0) []) [(p 1 0,am (.ref (p 2 0)) 0),(p 2 0,ab [.str a (p 2 2),.str d (p 2 3)] (p 2 1)),(p 3 0,ab [] 0),(p 4 0,aw w [] (0))] (fun c=>(.next,[am .none 2,ab [.str a (p 2 2),.str d (p 2 3)] (p 2 1),ab [.str (b4 d) (c 1)] 1,aw w [("part",c 0,.str d (p 2 3))] (1)],[])):=
 aA (orcs:=[o2 "str.__ne__" a "=" fun _=>.bool false,o2 "str.__ne__" d "=" fun _=>.bool true,ik d]) (aa (aQ g) (aa (aQ nd) (aa (iW d h (by decide)) aq))) 86 3 [0,1,0,1,0,24,1,1,2,1,0,4,3,4,2,0,1,0,1,0,24,1,1,2,1,0,4,3,4,3,0,4,0,4,0,3,0,26,3,2,3,0,1,0,1,0,24,1,1,2,1,0,6] [0,1,2,3] (fun n e f=>aB [e+0,(f 2).2.2 0]) (hc:=aS (bv _ _ _ _ _ _))
theorem GV (b:Bool) (w:Yc) (a d:Str) (e:(a.cps.toList != ("" : Str).cps.toList)=false) (nd:(d.cps.toList != ("" : Str).cps.toList)=true) (p:af):aC (B0 (W b true w)) 2 (bj (gJ w) (p 1 0) (p 3 0) (p 4 0) (p 5 0) []) [(p 1 0,am (.ref (p 2 0)) 0),(p 2 0,ab [.str a (p 2 2),.str d (p 2 3)] (p 2 1)),(p 3 0,ab [] 0),(p 4 0,aw w [] (0))] (fun g=>(.next,[am .none 2,ab [.str a (p 2 2),.str d (p 2 3)] (p 2 1),ab [.str d (p 2 3)] 1,aw w [("name",g 0,.str d (p 2 3))] (1)],[])):=
 aA (orcs:=[o2 "str.__ne__" a "" fun _=>.bool false,o2 "str.__ne__" d "" fun _=>.bool true]) (aa (aQ e) (aa (aQ nd) aq)) 80 2 [0,1,0,1,0,24,1,1,2,1,0,4,3,4,2,0,1,0,1,0,24,1,1,2,1,0,4,3,4,3,4,0,3,0,26,3,2,3,0,1,0,1,0,24,1,1,2,1,0,6] [0,1,2,3] (fun n c f=>aB [c+0]) (hc:=aS (bv _ _ _ _ _ _))
theorem GW (b:Bool) (w:Yc) (a:Str) (e:(a.cps.toList != ("=" : Str).cps.toList)=true) (g:a∈aD.tail) (p:af):aC (B0 (W b true w)) 2 (bj (gI w) (p 1 0) (p 3 0) (p 4 0) (p 5 0) []) [(p 1 0,am (.ref (p 2 0)) 0),(p 2 0,ab [.str a (p 2 2)] (p 2 1)),(p 3 0,ab [] 0),(p 4 0,aw w [] (0))] (fun c=>(.next,[am .none 1,ab [.str a (p 2 2)] (p 2 1),ab [.str (b4 a) (c 1)] 1,aw w [("part",c 0,.str a (p 2 2))] (1)],[])):=
 aA (orcs:=[o2 "str.__ne__" a "=" fun _=>.bool true,ik a]) (aa (aQ e) (aa (iW a g (by decide)) aq)) 61 2 [0,1,0,1,0,24,1,1,2,1,0,4,3,4,2,0,4,0,3,0,3,0,26,3,2,3,0,1,0,1,0,24,1,1,2,1,0,6] [0,1,2,3] (fun n d f=>aB [d+0,(f 1).2.2 0]) (hc:=aS (bv _ _ _ _ _ _))
theorem GX (b:Bool) (w:Yc) (a:Str) (d:(a.cps.toList != ("" : Str).cps.toList)=true) (p:af):aC (B0 (W b true w)) 2 (bj (gJ w) (p 1 0) (p 3 0) (p 4 0) (p 5 0) []) [(p 1 0,am (.ref (p 2 0)) 0),(p 2 0,ab [.str a (p 2 2)] (p 2 1)),(p 3 0,ab [] 0),(p 4 0,aw w [] (0))] (fun e=>(.next,[am .none 1,ab [.str a (p 2 2)] (p 2 1),ab [.str a (p 2 2)] 1,aw w [("name",e 0,.str a (p 2 2))] (1)],[])):=
 aA (orcs:=[o2 "str.__ne__" a "" fun _=>.bool true]) (aa (aQ d) aq) 55 1 [0,1,0,1,0,24,1,1,2,1,0,4,3,4,2,4,0,3,0,26,3,2,3,0,1,0,1,0,24,1,1,2,1,0,6] [0,1,2,3] (fun n c f=>aB [c+0]) (hc:=aS (bv _ _ _ _ _ _))
theorem GY (b:Bool) (w:Yc) (a d:Str) (g:(a.cps.toList != ("=" : Str).cps.toList)=true) (h:a∈aD.tail) (nd:(d.cps.toList != ("=" : Str).cps.toList)=false) (p:af):aC (B0 (W b true w)) 2 (bj (gI w) (p 1 0) (p 3 0) (p 4 0) (p 5 0) []) [(p 1 0,am (.ref (p 2 0)) 0),(p 2 0,ab [.str a (p 2 2),.str d (p 2 3)] (p 2 1)),(p 3 0,ab [] 0),(p 4 0,aw w [] (0))] (fun c=>(.next,[am .none 2,ab [.str a (p 2 2),.str d (p 2 3)] (p 2 1),ab [.str (b4 a) (c 1)] 1,aw w [("part",c 0,.str d (p 2 3))] (1)],[])):=
 aA (orcs:=[o2 "str.__ne__" a "=" fun _=>.bool true,ik a,o2 "str.__ne__" d "=" fun _=>.bool false]) (aa (aQ g) (aa (iW a h (by decide)) (aa (aQ nd) aq))) 86 3 [0,1,0,1,0,24,1,1,2,1,0,4,3,4,2,0,4,0,3,0,3,0,26,3,2,3,0,1,0,1,0,24,1,1,2,1,0,4,3,4,4,0,1,0,1,0,24,1,1,2,1,0,6] [0,1,2,3] (fun n e f=>aB [e+0,(f 1).2.2 0]) (hc:=aS (bv _ _ _ _ _ _))
theorem GZ (b:Bool) (w:Yc) (a d:Str) (e:(a.cps.toList != ("" : Str).cps.toList)=true) (nd:(d.cps.toList != ("" : Str).cps.toList)=false) (p:af):aC (B0 (W b true w)) 2 (bj (gJ w) (p 1 0) (p 3 0) (p 4 0) (p 5 0) []) [(p 1 0,am (.ref (p 2 0)) 0),(p 2 0,ab [.str a (p 2 2),.str d (p 2 3)] (p 2 1)),(p 3 0,ab [] 0),(p 4 0,aw w [] (0))] (fun g=>(.next,[am .none 2,ab [.str a (p 2 2),.str d (p 2 3)] (p 2 1),ab [.str a (p 2 2)] 1,aw w [("name",g 0,.str d (p 2 3))] (1)],[])):=
 aA (orcs:=[o2 "str.__ne__" a "" fun _=>.bool true,o2 "str.__ne__" d "" fun _=>.bool false]) (aa (aQ e) (aa (aQ nd) aq)) 80 2 [0,1,0,1,0,24,1,1,2,1,0,4,3,4,2,4,0,3,0,26,3,2,3,0,1,0,1,0,24,1,1,2,1,0,4,3,4,3,0,1,0,1,0,24,1,1,2,1,0,6] [0,1,2,3] (fun n c f=>aB [c+0]) (hc:=aS (bv _ _ _ _ _ _))
theorem G0 (b:Bool) (w:Yc) (a d:Str) (g:(a.cps.toList != ("=" : Str).cps.toList)=true) (h:a∈aD.tail) (nd:(d.cps.toList != ("=" : Str).cps.toList)=true) (i:d∈aD.tail) (p:af):aC (B0 (W b true w)) 2 (bj (gI w) (p 1 0) (p 3 0) (p 4 0) (p 5 0) []) [(p 1 0,am (.ref (p 2 0)) 0),(p 2 0,ab [.str a (p 2 2),.str d (p 2 3)] (p 2 1)),(p 3 0,ab [] 0),(p 4 0,aw w [] (0))] (fun c=>(.next,[am .none 2,ab [.str a (p 2 2),.str d (p 2 3)] (p 2 1),ab [.str (b4 a) (c 1),.str (b4 d) (c 2)] 2,aw w [("part",c 0,.str d (p 2 3))] (1)],[])):=
 aA (orcs:=[o2 "str.__ne__" a "=" fun _=>.bool true,ik a,o2 "str.__ne__" d "=" fun _=>.bool true,ik d]) (aa (aQ g) (aa (iW a h (by decide)) (aa (aQ nd) (aa (iW d i (by decide)) aq)))) 101 4 [0,1,0,1,0,24,1,1,2,1,0,4,3,4,2,0,4,0,3,0,3,0,26,3,2,3,0,1,0,1,0,24,1,1,2,1,0,4,3,4,4,0,4,0,5,0,3,0,26,3,2,3,0,1,0,1,0,24,1,1,2,1,0,6] [0,1,2,3] (fun n e f=>aB [e+0,(f 1).2.2 0,(f 3).2.2 0]) (hc:=aS (bv _ _ _ _ _ _))
theorem G1 (b:Bool) (w:Yc) (a d:Str) (e:(a.cps.toList != ("" : Str).cps.toList)=true) (nd:(d.cps.toList != ("" : Str).cps.toList)=true) (p:af):aC (B0 (W b true w)) 2 (bj (gJ w) (p 1 0) (p 3 0) (p 4 0) (p 5 0) []) [(p 1 0,am (.ref (p 2 0)) 0),(p 2 0,ab [.str a (p 2 2),.str d (p 2 3)] (p 2 1)),(p 3 0,ab [] 0),(p 4 0,aw w [] (0))] (fun g=>(.next,[am .none 2,ab [.str a (p 2 2),.str d (p 2 3)] (p 2 1),ab [.str a (p 2 2),.str d (p 2 3)] 2,aw w [("name",g 0,.str d (p 2 3))] (1)],[])):=
 aA (orcs:=[o2 "str.__ne__" a "" fun _=>.bool true,o2 "str.__ne__" d "" fun _=>.bool true]) (aa (aQ e) (aa (aQ nd) aq)) 89 2 [0,1,0,1,0,24,1,1,2,1,0,4,3,4,2,4,0,3,0,26,3,2,3,0,1,0,1,0,24,1,1,2,1,0,4,3,4,3,4,0,3,0,26,3,2,3,0,1,0,1,0,24,1,1,2,1,0,6] [0,1,2,3] (fun n c f=>aB [c+0]) (hc:=aS (bv _ _ _ _ _ _))
end
section
open SeqAt MeetsSeq3
def sR (l u:Option Int) (a b:Nat):Obj:={cls:=.type "slice",data:=.fields #[jZ l a,jZ u b,.none]}
theorem z5 (i:Option Int) (t:Nat):IsPart (jZ i t) i:=by
 cases i with
 | none=>exact .none
 | some i=>exact .int i t
section
variable {B:bf} {m:Nat}
def c7 (c b:Nat) (vs:af→Yb) (l u:Option Int) (d:af→Yb):aH:=
 {code:=fun p=>.call (.builtin "list.__getitem__") ⟨[.ref (p 1 0),.ref (p 2 0)],[]⟩,pl:=[c,b],objs:=fun p=>[(p 1 0,ab (vs p) (p 1 1)),(p 2 0,sR l u (p 2 1) (p 2 2))],strm:=true,
  out:=fun p a=>(.ret (.ref (a 0)),[ab (vs p) (p 1 1),sR l u (p 2 1) (p 2 2)],[(a 0,ab (d p) 0)])}
theorem dB {t C:Nat} {vs f:af→Yb} {l u:Option Int} (D:t≠C) (F:∀p,(vs p).length≤1000) (e:∀p,slicePick (vs p).toArray l u none=(f p).toArray):(c7 t C vs l u f).Sure B m:=by
 refine ⟨by simp [c7,D],fun p A J h c n d j g K k Q E nd w _ H=>d8 ?_⟩
 have i:h.get? (p 1 0)=some (ab (vs p) (p 1 1)):=(w _ (.head _)).1
 have a:h.get? (p 2 0)=some (sR l u (p 2 1) (p 2 2)):=(w _ (.tail _ (.head _))).1
 have hT:Shared.TypeIs ⟨h,n,d,c,j⟩ (.ref (p 2 0)) "slice" := ⟨_,a,rfl⟩
 refine wpAny_call_entry slot_list_getitem (show Shared.TypeIs ⟨h,n,d,c,j⟩ (.ref (p 1 0)) "list" from ⟨_,i,rfl⟩) entry_list_getitem ?_ (args_list_getitem _ _)
 show wpAny _ _ (Builtin.List.listSubscript? (.ref (p 2 0)) >>= _) _ _ _
 refine wpAny_bind ?_
 unfold Builtin.List.listSubscript?
 refine wpAny_bind (wpAny_specialOf hT slice_no_index ?_)
 simp only [Option.isNone_none,if_true]
 refine wpAny_pure ?_
 show wpAny _ _ (typeOf (.ref (p 2 0)) >>= _) _ _ _
 refine wpAny_bind (wpAny_typeOf hT ?_)
 rw [if_neg (by decide),listSliceParts_eq]
 refine wpAny_bind (wpAny_bind (wpAny_field a rfl (x:=.none) rfl (wpAny_bind (wpAny_listPart .none ?_))))
 rw [if_neg (show ¬((rawPart none==rawInt 0)=true) from Bool.false_ne_true)]
 refine wpAny_bind (wpAny_field a rfl (x:=jZ l (p 2 1)) rfl (wpAny_bind (wpAny_listPart (z5 l _) ?_)))
 refine wpAny_bind (wpAny_field a rfl (x:=jZ u (p 2 2)) rfl (wpAny_bind (wpAny_listPart (z5 u _) (wpAny_pure ?_))))
 refine wpAny_bind (m:=Builtin.List.listItems (.ref (p 1 0))) ?_
 unfold Builtin.List.listItems
 refine wpAny_bind (wpAny_seqItems i rfl (wpAny_pure ?_))
 refine wpAny_bind (wpAny_of_eq (sliceIndices_raw l u none (vs p).toArray.size (by simp)) ?_)
 refine wpAny_bind (wpAny_newObj_type (wpAny_pure ⟨_,rfl,?_⟩) (Nat.le_trans (slicePick_size_le (vs p).toArray l u none) (by rw [List.size_toArray];exact Nat.le_trans (F p) (by decide))))
 have o:∀(z:Array Yd),z=(f p).toArray→wpAny B.M A (k (.ok (.ret (.ref h.objs.size)))) Q E ⟨h.push {cls:=.type "list",data:=.seq z},n,d,c,j⟩:=fun z G=>by
  subst G
  refine H _ c (fun _=>h.objs.size) (fun e=>by cases e) (by rw [Heap.size_push];exact Nat.le_succ _) (fun b I q _=>Heap.get?_push_of_some _ q) (fun y s => ?_) (fun y s => ?_) (by simp [c7])
  ·have:y=(p 1 0,ab (vs p) (p 1 1))∨y=(p 2 0,sR l u (p 2 1) (p 2 2)):=by simpa [c7] using s
   rcases this with rfl | rfl
   ·exact Heap.get?_push_of_some _ i
   ·exact Heap.get?_push_of_some _ a
  ·have:y=(h.objs.size,ab (f p) 0):=by simpa [c7] using s
   subst this
   exact ⟨Heap.get?_push_size _ rfl,Nat.le_refl _⟩
 exact o _ (e p)
end
end
section
variable {B:bf} {m:Nat}
theorem nc {x y:Int} {b:Bool} (e:decide (x > y)=b):(i2 "int.__gt__" x y fun _=>.bool b).Sure B m:=
 lk F.slot_int_gt F.entry_int_gt (fun _=>F.args_int_gt_2 _ _) (fun _=>gives_int_gt _ _ _ _) fun _ s _ h=>by rw [e];exact h id s.toks
theorem f6 {x y:Int} {b:Bool} (e:decide (x<y)=b):(i2 "int.__lt__" x y fun _=>.bool b).Sure B m:=
 lk F.slot_int_lt F.entry_int_lt (fun _=>F.args_int_lt_2 _ _) (fun _=>gives_int_lt _ _ _ _) fun _ s _ h=>by rw [e];exact h id s.toks
def ko (a k:Int):Prop:=((1:Int)≥((Builtin.Int.intBits a:Nat):Int)∧(if a<0 then (-1:Int) else 0)=k)∨(¬(1:Int)≥((Builtin.Int.intBits a:Nat):Int)∧a.fdiv (2 ^ (1:Int).toNat)=k)
theorem sT {a k:Int} (h:ko a k):(i2 "int.__rshift__" a 1 fun b=>.int k (b 0)).Sure B m:=by
 rcases h with ⟨h,e⟩ | ⟨h,e⟩
 ·exact lk F.slot_int_rshift F.entry_int_rshift (fun _=>F.args_int_rshift_2 _ _) (fun _=>AutoIntG9.int___rshift___int_int_1 _ _ _ _ (by decide) h) fun _ s _ h=>by rw [e];exact h (fun _=>s.toks) (s.toks+1)
 ·exact lk F.slot_int_rshift F.entry_int_rshift (fun _=>F.args_int_rshift_2 _ _) (fun _=>AutoIntG0.int___rshift___int_int_2 _ _ _ _ (by decide) h) fun _ s _ h=>by rw [e];exact h (fun _=>s.toks) (s.toks+1)
end

section
def vr (w:Yc) (i k:Int) (x y:Str) (b:Nat) (a:Yb) (p:af):Ya:=[(p 1 0,ab a (p 1 1)),(p 2 0,aG w [("heap",p 2 2,.ref (p 1 0)),("startpos",p 2 4,.int 0 (p 2 5)),("pos",p 2 6,.int i (p 2 7)),("newitem",p 2 8,.str x (p 2 9))] (p 2 1))]
theorem G2 (b c:Bool) (w:Yc) (i k:Int) (x y:Str) (e:Nat) (d:Yb) (h:decide (i > 0)=true) (o:ko (i-1) k) (q:0≤k) (m:k<2 ^ 63) (j:d[k.toNat]? = some (.str y e)) (g:decide (x.cps.toList<y.cps.toList)=true) (s:0≤i) (u:i<2 ^ 63) (t:i<d.length) (p:af):aL (B0 (W b c w)) 1 (gB w (p 2 0)) (vr w i k x y e d p) (fun a=>(.error (gB w (p 2 0)),[ab (d.set i.toNat (.str y e)) (a 0),aG w [("heap",p 2 2,.ref (p 1 0)),("startpos",p 2 4,.int 0 (p 2 5)),("pos",p 2 6,.int k (a 1)),("newitem",p 2 8,.str x (p 2 9)),("parentpos",a 2,.int k (a 1)),("parent",a 3,.str y e)] (p 2 1+1+1)],[])):=
 aA (orcs:=[i2 "int.__gt__" i 0 fun _=>.bool true,i2 "int.__rshift__" (i-1) 1 fun a=>.int k (a 0),cN 0 d k (.str y e),o2 "str.__lt__" x y fun _=>.bool true,fd 0 d i y]) (aa (nc h) (aa (sT o) (aa (cU q m j) (aa (jY g) (aa (gz s u t) aq))))) 76 5 [2,2,2,2,0,0,56,3,2,1,2,2,1,1,1,4,2,1,2,2,5,2,2,2,1,1,6,2,2,1,1] [0,1] (fun n z f=>aB [(f 4).2.2 1,(f 1).2.2 0,(f 1).2.1+0,(f 2).2.1+0]) (hc:=aS (mS w _))
def z6 (w:Yc) (k0:Int) (a:Str) (i k:Int) (x y:Str) (c:Nat) (b:Yb) (p:af):Ya:=[(p 1 0,ab b (p 1 1)),(p 2 0,aG w [("heap",p 2 2,.ref (p 1 0)),("startpos",p 2 4,.int 0 (p 2 5)),("pos",p 2 6,.int i (p 2 7)),("newitem",p 2 8,.str x (p 2 9)),("parentpos",p 2 10,.int k0 (p 2 11)),("parent",p 2 12,.str a (p 2 13))] (p 2 1))]
theorem G3 (b c:Bool) (w:Yc) (k0:Int) (o:Str) (i k:Int) (x y:Str) (e:Nat) (a:Yb) (h:decide (i > 0)=true) (q:ko (i-1) k) (s:0≤k) (m:k<2 ^ 63) (j:a[k.toNat]? = some (.str y e)) (g:decide (x.cps.toList<y.cps.toList)=true) (t:0≤i) (z:i<2 ^ 63) (u:i<a.length) (p:af):aL (B0 (W b c w)) 1 (gB w (p 2 0)) (z6 w k0 o i k x y e a p) (fun d=>(.error (gB w (p 2 0)),[ab (a.set i.toNat (.str y e)) (d 0),aG w [("heap",p 2 2,.ref (p 1 0)),("startpos",p 2 4,.int 0 (p 2 5)),("pos",p 2 6,.int k (d 1)),("newitem",p 2 8,.str x (p 2 9)),("parentpos",p 2 10,.int k (d 1)),("parent",p 2 12,.str y e)] (p 2 1)],[])):=
 aA (orcs:=[i2 "int.__gt__" i 0 fun _=>.bool true,i2 "int.__rshift__" (i-1) 1 fun d=>.int k (d 0),cN 0 a k (.str y e),o2 "str.__lt__" x y fun _=>.bool true,fd 0 a i y]) (aa (nc h) (aa (sT q) (aa (cU s m j) (aa (jY g) (aa (gz t z u) aq))))) 76 5 [2,2,2,2,0,0,56,3,2,1,2,2,1,1,1,4,2,1,2,2,5,2,2,2,1,1,6,2,2,1,1] [0,1] (fun n A f=>aB [(f 4).2.2 1,(f 1).2.2 0]) (hc:=aS (mS w _))
theorem G4 (b c:Bool) (w:Yc) (i k:Int) (x y:Str) (e:Nat) (d:Yb) (h:decide (i > 0)=true) (q:ko (i-1) k) (o:0≤k) (m:k<2 ^ 63) (j:d[k.toNat]? = some (.str y e)) (g:decide (x.cps.toList<y.cps.toList)=false) (p:af):aC (B0 (W b c w)) 1 (gB w (p 2 0)) [(p 1 0,ab d (p 1 1)),(p 2 0,aG w [("heap",p 2 2,.ref (p 1 0)),("startpos",p 2 4,.int 0 (p 2 5)),("pos",p 2 6,.int i (p 2 7)),("newitem",p 2 8,.str x (p 2 9))] (p 2 1))] (fun a=>(.next,[ab d (a 0),aG w [("heap",p 2 2,.ref (p 1 0)),("startpos",p 2 4,.int 0 (p 2 5)),("pos",p 2 6,.int i (p 2 7)),("newitem",p 2 8,.str x (p 2 9)),("parentpos",a 2,.int k (a 1)),("parent",a 3,.str y e)] (p 2 1+1+1)],[])):=
 aA (orcs:=[i2 "int.__gt__" i 0 fun _=>.bool true,i2 "int.__rshift__" (i-1) 1 fun a=>.int k (a 0),cN 0 d k (.str y e),o2 "str.__lt__" x y fun _=>.bool false]) (aa (nc h) (aa (sT q) (aa (cU o m j) (aa (jY g) aq)))) 55 4 [2,2,2,2,0,0,56,3,2,1,2,2,1,1,1,4,2,1,2,2,5] [0,1] (fun n s f=>aB [(f 2).2.2 1,(f 1).2.2 0,(f 1).2.1+0,(f 2).2.1+0]) (hc:=aS (mS w _))
theorem G5 (b c:Bool) (w:Yc) (k0:Int) (q:Str) (i k:Int) (x y:Str) (e:Nat) (d:Yb) (h:decide (i > 0)=true) (o:ko (i-1) k) (s:0≤k) (m:k<2 ^ 63) (j:d[k.toNat]? = some (.str y e)) (g:decide (x.cps.toList<y.cps.toList)=false) (p:af):aC (B0 (W b c w)) 1 (gB w (p 2 0)) [(p 1 0,ab d (p 1 1)),(p 2 0,aG w [("heap",p 2 2,.ref (p 1 0)),("startpos",p 2 4,.int 0 (p 2 5)),("pos",p 2 6,.int i (p 2 7)),("newitem",p 2 8,.str x (p 2 9)),("parentpos",p 2 10,.int k0 (p 2 11)),("parent",p 2 12,.str q (p 2 13))] (p 2 1))] (fun a=>(.next,[ab d (a 0),aG w [("heap",p 2 2,.ref (p 1 0)),("startpos",p 2 4,.int 0 (p 2 5)),("pos",p 2 6,.int i (p 2 7)),("newitem",p 2 8,.str x (p 2 9)),("parentpos",p 2 10,.int k (a 1)),("parent",p 2 12,.str y e)] (p 2 1)],[])):=
 aA (orcs:=[i2 "int.__gt__" i 0 fun _=>.bool true,i2 "int.__rshift__" (i-1) 1 fun a=>.int k (a 0),cN 0 d k (.str y e),o2 "str.__lt__" x y fun _=>.bool false]) (aa (nc h) (aa (sT o) (aa (cU s m j) (aa (jY g) aq)))) 55 4 [2,2,2,2,0,0,56,3,2,1,2,2,1,1,1,4,2,1,2,2,5] [0,1] (fun n t f=>aB [(f 2).2.2 1,(f 1).2.2 0]) (hc:=aS (mS w _))
def z7 (w:Yc) (i:Int) (x:Str) (a:Yb) (p:af):Ya:=[(p 1 0,ab a (p 1 1)),(p 2 0,aG w [("heap",p 2 2,.ref (p 1 0)),("startpos",p 2 4,.int 0 (p 2 5)),("pos",p 2 6,.int i (p 2 7)),("newitem",p 2 8,.str x (p 2 9))] (p 2 1))]
def z8 (w:Yc) (i:Int) (x:Str) (a:Yb) (p:af) (b:Ye):Flow×Yf×Ya:=(.next,[ab a (p 1 1),aG w [("heap",p 2 2,.ref (p 1 0)),("startpos",p 2 4,.int 0 (p 2 5)),("pos",p 2 6,.int i (p 2 7)),("newitem",p 2 8,.str x (p 2 9))] (p 2 1)],[])
theorem G6 (b c:Bool) (w:Yc) (i:Int) (x:Str) (a:Yb) (d:decide (i > 0)=false) (p:af):aC (B0 (W b c w)) 1 (gB w (p 2 0)) (z7 w i x a p) (z8 w i x a p):=
 aA (orcs:=[i2 "int.__gt__" i 0 fun _=>.bool false]) (aa (nc d) aq) 10 1 [2,2,2] [0,1] (fun _ _ _ _=>0) (hc:=aS (mS w _))
theorem z9 (b c:Bool) (w:Yc) (k0:Int) (a:Str) (i:Int) (x:Str) (d:Yb) (e:decide (i > 0)=false) (p:af):aC (B0 (W b c w)) 1 (gB w (p 2 0)) [(p 1 0,ab d (p 1 1)),(p 2 0,aG w [("heap",p 2 2,.ref (p 1 0)),("startpos",p 2 4,.int 0 (p 2 5)),("pos",p 2 6,.int i (p 2 7)),("newitem",p 2 8,.str x (p 2 9)),("parentpos",p 2 10,.int k0 (p 2 11)),("parent",p 2 12,.str a (p 2 13))] (p 2 1))] (fun f=>(.next,[ab d (p 1 1),aG w [("heap",p 2 2,.ref (p 1 0)),("startpos",p 2 4,.int 0 (p 2 5)),("pos",p 2 6,.int i (p 2 7)),("newitem",p 2 8,.str x (p 2 9)),("parentpos",p 2 10,.int k0 (p 2 11)),("parent",p 2 12,.str a (p 2 13))] (p 2 1)],[])):=
 aA (orcs:=[i2 "int.__gt__" i 0 fun _=>.bool false]) (aa (nc e) aq) 10 1 [2,2,2] [0,1] (fun _ _ _ _=>0) (hc:=aS (mS w _))
end
def dM:Nat→Yb→Nat→Str→Int→Str→Yb×Nat×Int×Str
 | 0,a,i,_,k,y=>(a,i,k,y)
 | n+1,a,i,x,k,y=>match i with
  | 0=>(a,0,k,y)
  | j+1=>match a[j / 2]? with
   | some (.str b t)=>if x.cps.toList<b.cps.toList then dM n (a.set (j+1) (.str b t)) (j / 2) x ((j / 2:Nat):Int) b else (a,j+1,((j / 2:Nat):Int),b)
   | _=>(a,j+1,k,y)
def vt (w:Yc) (x:Str) (r:Yb×Nat×Int×Str) (p:af) (a:Ye):Flow×Yf×Ya:=
 (.next,[ab r.1 (a 0),aG w [("heap",p 2 2,.ref (p 1 0)),("startpos",p 2 4,.int 0 (p 2 5)),("pos",p 2 6,.int (r.2.1:Int) (a 1)),("newitem",p 2 8,.str x (p 2 9)),("parentpos",a 2,.int r.2.2.1 (a 3)),("parent",a 4,.str r.2.2.2 (a 5))] (a 6)],[])
theorem sU:∀j:Nat,j<100→ko (((j+1:Nat):Int)-1) ((j / 2:Nat):Int):=by
 intro j a
 have:∀j∈List.range 100,ko (((j+1:Nat):Int)-1) ((j / 2:Nat):Int):=by
  unfold ko
  decide +kernel
 exact this j (List.mem_range.mpr a)
theorem G7 (b c:Bool) (w:Yc):∀(n i:Nat),i≤n→∀(d:Yb) (x:Str) (k0:Int) (g:Str) (p:af),i<d.length→d.length≤100→(∀v∈d,∃y t,v=Value.str y t)→
  aC (B0 (W b c w)) 1 (gB w (p 2 0)) (z6 w k0 g (i:Int) 0 x "" 0 d p) (vt w x (dM n d i x k0 g) p):=by
 intro n
 induction n with
 | zero=>
  intro i C d x k0 g p A _ _
  have:i=0:=by lia
  subst this
  refine aL.re (z9 b c w k0 g 0 x d (by decide) p) fun f=>⟨fun j=>match j with | 0=>p 1 1 | 1=>p 2 7 | 2=>p 2 10 | 3=>p 2 11 | 4=>p 2 12 | 5=>p 2 13 | _=>p 2 1,rfl⟩
 | succ n B=>
  intro i C d x k0 g p A z s
  cases i with
  | zero=>
   refine aL.re (z9 b c w k0 g 0 x d (by decide) p) fun f=>⟨fun j=>match j with | 0=>p 1 1 | 1=>p 2 7 | 2=>p 2 10 | 3=>p 2 11 | 4=>p 2 12 | 5=>p 2 13 | _=>p 2 1,rfl⟩
  | succ j=>
   have m:j / 2<d.length:=by lia
   obtain ⟨y,t,e⟩:=s d[j / 2] (List.getElem_mem m)
   have o:d[j / 2]? = some (.str y t):=by rw [List.getElem?_eq_getElem m,e]
   have u:d[((j / 2:Nat):Int).toNat]? = some (.str y t):=o
   unfold dM
   simp only [o]
   by_cases hx:x.cps.toList<y.cps.toList
   ·rw [if_pos hx]
    refine aL.trans (bG _) (G3 b c w k0 g ((j+1:Nat):Int) ((j / 2:Nat):Int) x y t d (decide_eq_true (by lia)) (sU j (by lia)) (by lia) (by lia) u (decide_eq_true hx) (by lia) (by lia) (by lia) p) (fun _=>rfl) (fun _=>rfl) fun f => ?_
    have q:=B (j / 2) (by lia) (d.set (j+1) (.str y t)) x ((j / 2:Nat):Int) y (fun a i=>match a,i with | 1,1=>f 0 | 2,7=>f 1 | 2,11=>f 1 | 2,13=>t | a,i=>p a i) (by rw [List.length_set];lia) (by rw [List.length_set];exact z) (fun v k=>by
     rcases List.mem_or_eq_of_mem_set k with h | h
     ·exact s v h
     ·exact ⟨y,t,h⟩)
    exact q
   ·rw [if_neg hx]
    exact aL.re (G5 b c w k0 g ((j+1:Nat):Int) ((j / 2:Nat):Int) x y t d (decide_eq_true (by lia)) (sU j (by lia)) (by lia) (by lia) u (decide_eq_false hx) p) fun f=>⟨fun i=>match i with | 0=>f 0 | 1=>p 2 7 | 2=>p 2 10 | 3=>f 1 | 4=>p 2 12 | 5=>t | _=>p 2 1,rfl⟩
theorem G8 (b c:Bool) (w:Yc) (n j:Nat) (A:j≤n) (d:Yb) (x:Str) (p:af) (z:j+1<d.length) (u:d.length≤100) (o:∀v∈d,∃y t,v=Value.str y t) :
  aC (B0 (W b c w)) 1 (gB w (p 2 0)) (vr w ((j+1:Nat):Int) 0 x "" 0 d p) (vt w x (dM (n+1) d (j+1) x 0 "") p):=by
 have k:j / 2<d.length:=by lia
 obtain ⟨y,t,e⟩:=o d[j / 2] (List.getElem_mem k)
 have m:d[j / 2]? = some (.str y t):=by rw [List.getElem?_eq_getElem k,e]
 have s:d[((j / 2:Nat):Int).toNat]? = some (.str y t):=m
 unfold dM
 simp only [m]
 by_cases hx:x.cps.toList<y.cps.toList
 ·rw [if_pos hx]
  refine aL.trans (bG _) (G2 b c w ((j+1:Nat):Int) ((j / 2:Nat):Int) x y t d (decide_eq_true (by lia)) (sU j (by lia)) (by lia) (by lia) s (decide_eq_true hx) (by lia) (by lia) (by lia) p) (fun _=>rfl) (fun _=>rfl) fun f => ?_
  have q:=G7 b c w n (j / 2) (by lia) (d.set (j+1) (.str y t)) x ((j / 2:Nat):Int) y (fun a i=>match a,i with | 1,1=>f 0 | 2,1=>p 2 1+1+1 | 2,7=>f 1 | 2,10=>f 2 | 2,11=>f 1 | 2,12=>f 3 | 2,13=>t | a,i=>p a i) (by rw [List.length_set];lia) (by rw [List.length_set];exact u) (fun v g=>by
   rcases List.mem_or_eq_of_mem_set g with h | h
   ·exact o v h
   ·exact ⟨y,t,h⟩)
  exact q
 ·rw [if_neg hx]
  exact aL.re (G4 b c w ((j+1:Nat):Int) ((j / 2:Nat):Int) x y t d (decide_eq_true (by lia)) (sU j (by lia)) (by lia) (by lia) s (decide_eq_false hx) p) fun f=>⟨fun i=>match i with | 0=>f 0 | 1=>p 2 7 | 2=>f 2 | 3=>f 1 | 4=>f 3 | 5=>t | _=>p 2 1+1+1,rfl⟩
theorem Aa (x:Str):∀(n:Nat) (a:Yb) (i:Nat) (k:Int) (y:Str),(dM n a i x k y).1.length=a.length∧(dM n a i x k y).2.1≤i
 | 0,a,i,k,y=>⟨rfl,Nat.le_refl _⟩
 | n+1,a,0,k,y=>⟨rfl,Nat.le_refl _⟩
 | n+1,a,j+1,k,y=>by
  unfold dM
  dsimp only
  split
  ·split
   ·rename_i b t _ _
    have h:=Aa x n (a.set (j+1) (.str b t)) (j / 2) ((j / 2:Nat):Int) b
    rw [List.length_set] at h
    exact ⟨h.1,by have:=h.2;lia⟩
   ·exact ⟨rfl,Nat.le_refl _⟩
  ·exact ⟨rfl,Nat.le_refl _⟩
def Ab (w:Yc) (n j:Nat) (x:Str) (a:Yb) (c b:Nat):aH:=bA (fun p=>gB w (p 2 0)) [c,b] (fun p=>vr w ((j+1:Nat):Int) 0 x "" 0 a p) (vt w x (dM (n+1) a (j+1) x 0 ""))
theorem G9 {b c:Bool} {w:Yc} {m n j:Nat} {x:Str} {a:Yb} {e d:Nat} (g:[e,d].Nodup) (i:j≤n) (h:j+1<a.length) (f:a.length≤100) (k:∀v∈a,∃y t,v=Value.str y t) (o:1≤m):(Ab w n j x a e d).Sure (B0 (W b c w)) m:=
 (bS g fun p=>G8 b c w n j i a x p h f k).le o
def Ac (w:Yc) (x:Str) (a:Yb) (c b:Nat):aH:=bA (fun p=>gB w (p 2 0)) [c,b] (fun p=>z7 w 0 x a p) (z8 w 0 x a)
theorem Ha {b c:Bool} {w:Yc} {m:Nat} {x:Str} {a:Yb} {e d:Nat} (f:[e,d].Nodup) (g:1≤m):(Ac w x a e d).Sure (B0 (W b c w)) m:=
 (bS f fun p=>G6 b c w 0 x a (by decide) p).le g
def jB (n:Nat) (a:Yb) (i:Nat) (x:Str) (t:Nat):Yb:=(dM n a i x 0 "").1.set (dM n a i x 0 "").2.1 (.str x t)
theorem Hb {b c:Bool} {w:Yc} {m n j:Nat} {x:Str} {a:Yb} (e:j+1<a.length) (d:a.length≤100):(fd 0 (dM (n+1) a (j+1) x 0 "").1 (((dM (n+1) a (j+1) x 0 "").2.1:Nat):Int) x).Sure (B0 (W b c w)) m:=
 have h:=Aa x (n+1) a (j+1) 0 ""
 gz (by lia) (by have:=h.2;lia) (by rw [h.1];have:=h.2;lia)
section
theorem Hc (b c:Bool) (w:Yc) (j d:Nat) (x:Str) (e:Nat) (a:Yb) (k:j≤d) (h:j+1<a.length) (g:a.length≤100) (m:∀v∈a,∃y t,v=Value.str y t) (hx:a[j+1]? = some (.str x e)) (p:af):aC (B0 (W b c w)) 2 (.call (.ref 128) ⟨[.ref (p 1 0),.int 0 (p 0 1),.int ((j+1:Nat):Int) (p 0 2)],[]⟩) [(p 1 0,ab a (p 1 1))] (fun i=>(.ret .none,[ab (jB (d+1) a (j+1) x e) (i 0)],[])):=
 aA (orcs:=[cN 0 a ((j+1:Nat):Int) (.str x e),Ab w d j x a 0 1,fd 0 (dM (d+1) a (j+1) x 0 "").1 (((dM (d+1) a (j+1) x 0 "").2.1:Nat):Int) x]) (aa (cU (by lia) (by lia) hx) (aa (G9 (by decide) k h g m (by decide)) (aa (Hb (n:=d) h g) aq))) 51 3 [0,0,2,1,2,1,2,1,0,0,2,2,1,1,1,2,2,1,3,2,2,2,1,1,4] [0] (fun n o f=>aB [(f 2).2.2 1])
theorem Hd (b c:Bool) (w:Yc) (x:Str) (d:Nat) (a:Yb) (h:0<a.length) (hx:a[0]? = some (.str x d)) (p:af):aC (B0 (W b c w)) 2 (.call (.ref 128) ⟨[.ref (p 1 0),.int 0 (p 0 1),.int 0 (p 0 2)],[]⟩) [(p 1 0,ab a (p 1 1))] (fun e=>(.ret .none,[ab (a.set 0 (.str x d)) (e 0)],[])):=
 aA (orcs:=[cN 0 a 0 (.str x d),Ac w x a 0 1,fd 0 a 0 x]) (aa (cU (by lia) (by lia) hx) (aa (Ha (by decide) (by decide)) (aa (gz (by lia) (by lia) (by lia)) aq))) 51 3 [0,0,2,1,2,1,2,1,0,0,2,2,1,1,1,2,2,1,3,2,2,2,1,1,4] [0] (fun n g f=>aB [(f 2).2.2 1])
end
def dN (w:Yc) (a:Nat):Code:=o9 (gw false false w [] 100 [0,0,2,1,2,1,0,0,0,0,2,0,0,11,1,0,1,0,60,1,2,1,2,2,1,2,2,1,1,1,0,1,0,54,1,2,1,2,0,0,62,0,0,16,2,1,1] 0 (fun _=>(0,0,id)) (.call (.ref 135) ⟨[.ref 2001,.int 0 81],[]⟩) [(2001,ab [.str "" 77] 4)] a 0)
theorem kq (w:Yc) (a:Nat):ie (dN w a)=false:=by kernel_rfl
section
theorem He (b c:Bool) (w:Yc) (i e:Nat) (x y z:Str) (g h:Nat) (a:Yb) (s:2*i+2<e) (t:e=a.length) (q:a.length≤100) (j:a[2*i+1]? = some (.str y g)) (m:a[2*i+2]? = some (.str z h)) (k:decide (y.cps.toList<z.cps.toList)=true) (p:af):aL (B0 (W b c w)) 1 (dN w (p 2 0)) [(p 1 0,ab a (p 1 1)),(p 2 0,aG w [("heap",p 2 2,.ref (p 1 0)),("pos",p 2 4,.int ((i:Nat):Int) (p 2 5)),("endpos",p 2 6,.int ((e:Nat):Int) (p 2 7)),("startpos",p 2 8,.int 0 (p 2 9)),("newitem",p 2 10,.str x (p 2 11)),("childpos",p 2 12,.int ((2*i+1:Nat):Int) (p 2 13))] (p 2 1))] (fun d=>(.error (dN w (p 2 0)),[ab (a.set i (.str y g)) (d 0),aG w [("heap",p 2 2,.ref (p 1 0)),("pos",p 2 4,.int ((2*i+1:Nat):Int) (d 1)),("endpos",p 2 6,.int ((e:Nat):Int) (p 2 7)),("startpos",p 2 8,.int 0 (p 2 9)),("newitem",p 2 10,.str x (p 2 11)),("childpos",p 2 12,.int ((2*(2*i+1)+1:Nat):Int) (d 2)),("rightpos",d 4,.int ((2*i+2:Nat):Int) (d 3))] (p 2 1+1)],[])):=
 aA (orcs:=[i2 "int.__lt__" ((2*i+1:Nat):Int) ((e:Nat):Int) fun _=>.bool true,i2 "int.__lt__" ((2*i+2:Nat):Int) ((e:Nat):Int) fun _=>.bool true,cN 0 a ((2*i+1:Nat):Int) (.str y g),cN 0 a ((2*i+2:Nat):Int) (.str z h),o2 "str.__lt__" y z fun _=>.bool true,cN 0 a ((2*i+1:Nat):Int) (.str y g),fd 0 a ((i:Nat):Int) y]) (aa (f6 (decide_eq_true (by omega))) (aa (f6 (decide_eq_true (by omega))) (aa (cU (by omega) (by omega) j) (aa (cU (by omega) (by omega) m) (aa (jY k) (aa (cU (by omega) (by omega) j) (aa (gz (by omega) (by omega) (by omega)) aq))))))) 105 7 [2,2,2,2,0,0,16,2,1,2,2,3,2,2,1,1,1,4,2,2,1,1,1,5,6,2,2,1,1,1,7,2,2,1,1,8,2,2,1,2,0,0,62,0,0,16,2,1,1] [0,1] (fun n o f=>aB [(f 6).2.2 1,p 2 13,(f 6).2.1+4,(f 0).2.1+1,(f 0).2.1+2]) (hc:=aS (kq w _))
theorem Hf (b c:Bool) (w:Yc) (i e:Nat) (x y z:Str) (h g:Nat) (a:Yb) (s:2*i+2<e) (t:e=a.length) (q:a.length≤100) (m:a[2*i+1]? = some (.str y h)) (j:a[2*i+2]? = some (.str z g)) (k:decide (y.cps.toList<z.cps.toList)=false) (p:af):aL (B0 (W b c w)) 1 (dN w (p 2 0)) [(p 1 0,ab a (p 1 1)),(p 2 0,aG w [("heap",p 2 2,.ref (p 1 0)),("pos",p 2 4,.int ((i:Nat):Int) (p 2 5)),("endpos",p 2 6,.int ((e:Nat):Int) (p 2 7)),("startpos",p 2 8,.int 0 (p 2 9)),("newitem",p 2 10,.str x (p 2 11)),("childpos",p 2 12,.int ((2*i+1:Nat):Int) (p 2 13))] (p 2 1))] (fun d=>(.error (dN w (p 2 0)),[ab (a.set i (.str z g)) (d 0),aG w [("heap",p 2 2,.ref (p 1 0)),("pos",p 2 4,.int ((2*i+2:Nat):Int) (d 1)),("endpos",p 2 6,.int ((e:Nat):Int) (p 2 7)),("startpos",p 2 8,.int 0 (p 2 9)),("newitem",p 2 10,.str x (p 2 11)),("childpos",p 2 12,.int ((2*(2*i+2)+1:Nat):Int) (d 2)),("rightpos",d 4,.int ((2*i+2:Nat):Int) (d 3))] (p 2 1+1)],[])):=
 aA (orcs:=[i2 "int.__lt__" ((2*i+1:Nat):Int) ((e:Nat):Int) fun _=>.bool true,i2 "int.__lt__" ((2*i+2:Nat):Int) ((e:Nat):Int) fun _=>.bool true,cN 0 a ((2*i+1:Nat):Int) (.str y h),cN 0 a ((2*i+2:Nat):Int) (.str z g),o2 "str.__lt__" y z fun _=>.bool false,cN 0 a ((2*i+2:Nat):Int) (.str z g),fd 0 a ((i:Nat):Int) z]) (aa (f6 (decide_eq_true (by omega))) (aa (f6 (decide_eq_true (by omega))) (aa (cU (by omega) (by omega) m) (aa (cU (by omega) (by omega) j) (aa (jY k) (aa (cU (by omega) (by omega) j) (aa (gz (by omega) (by omega) (by omega)) aq))))))) 115 7 [2,2,2,2,0,0,16,2,1,2,2,3,2,2,1,1,1,4,2,2,1,1,1,5,6,2,2,1,2,2,1,1,1,7,2,2,1,1,8,2,2,1,2,0,0,62,0,0,16,2,1,1] [0,1] (fun n o f=>aB [(f 6).2.2 1,(f 0).2.1+1,(f 6).2.1+4,(f 0).2.1+1,(f 0).2.1+2]) (hc:=aS (kq w _))
theorem Hg (b c:Bool) (w:Yc) (i e:Nat) (x y:Str) (g:Nat) (a:Yb) (m:2*i+1<e) (o:e≤2*i+2) (q:e=a.length) (k:a.length≤100) (h:a[2*i+1]? = some (.str y g)) (p:af):aL (B0 (W b c w)) 1 (dN w (p 2 0)) [(p 1 0,ab a (p 1 1)),(p 2 0,aG w [("heap",p 2 2,.ref (p 1 0)),("pos",p 2 4,.int ((i:Nat):Int) (p 2 5)),("endpos",p 2 6,.int ((e:Nat):Int) (p 2 7)),("startpos",p 2 8,.int 0 (p 2 9)),("newitem",p 2 10,.str x (p 2 11)),("childpos",p 2 12,.int ((2*i+1:Nat):Int) (p 2 13))] (p 2 1))] (fun d=>(.error (dN w (p 2 0)),[ab (a.set i (.str y g)) (d 0),aG w [("heap",p 2 2,.ref (p 1 0)),("pos",p 2 4,.int ((2*i+1:Nat):Int) (d 1)),("endpos",p 2 6,.int ((e:Nat):Int) (p 2 7)),("startpos",p 2 8,.int 0 (p 2 9)),("newitem",p 2 10,.str x (p 2 11)),("childpos",p 2 12,.int ((2*(2*i+1)+1:Nat):Int) (d 2)),("rightpos",d 4,.int ((2*i+2:Nat):Int) (d 3))] (p 2 1+1)],[])):=
 aA (orcs:=[i2 "int.__lt__" ((2*i+1:Nat):Int) ((e:Nat):Int) fun _=>.bool true,i2 "int.__lt__" ((2*i+2:Nat):Int) ((e:Nat):Int) fun _=>.bool false,cN 0 a ((2*i+1:Nat):Int) (.str y g),fd 0 a ((i:Nat):Int) y]) (aa (f6 (decide_eq_true (by omega))) (aa (f6 (decide_eq_false (by omega))) (aa (cU (by omega) (by omega) h) (aa (gz (by omega) (by omega) (by omega)) aq)))) 84 4 [2,2,2,2,0,0,16,2,1,2,2,3,2,2,1,1,1,4,2,2,1,1,5,2,2,1,2,0,0,62,0,0,16,2,1,1] [0,1] (fun n j f=>aB [(f 3).2.2 1,p 2 13,(f 3).2.1+4,(f 0).2.1+1,(f 0).2.1+2]) (hc:=aS (kq w _))
def sV (w:Yc) (i e:Nat) (x:Str) (a:Yb) (p:af):Ya:=[(p 1 0,ab a (p 1 1)),(p 2 0,aG w [("heap",p 2 2,.ref (p 1 0)),("pos",p 2 4,.int ((i:Nat):Int) (p 2 5)),("endpos",p 2 6,.int ((e:Nat):Int) (p 2 7)),("startpos",p 2 8,.int 0 (p 2 9)),("newitem",p 2 10,.str x (p 2 11)),("childpos",p 2 12,.int ((2*i+1:Nat):Int) (p 2 13))] (p 2 1))]
def Ad (w:Yc) (i e:Nat) (x:Str) (a:Yb) (p:af) (b:Ye):Flow×Yf×Ya:=(.next,[ab a (p 1 1),aG w [("heap",p 2 2,.ref (p 1 0)),("pos",p 2 4,.int ((i:Nat):Int) (p 2 5)),("endpos",p 2 6,.int ((e:Nat):Int) (p 2 7)),("startpos",p 2 8,.int 0 (p 2 9)),("newitem",p 2 10,.str x (p 2 11)),("childpos",p 2 12,.int ((2*i+1:Nat):Int) (p 2 13))] (p 2 1)],[])
theorem Hh (b c:Bool) (w:Yc) (i e:Nat) (x:Str) (a:Yb) (d:e≤2*i+1) (p:af):aC (B0 (W b c w)) 1 (dN w (p 2 0)) (sV w i e x a p) (Ad w i e x a p):=
 aA (orcs:=[i2 "int.__lt__" ((2*i+1:Nat):Int) ((e:Nat):Int) fun _=>.bool false]) (aa (f6 (decide_eq_false (by omega))) aq) 10 1 [2,2,2] [0,1] (fun _ _ _ _=>0) (hc:=aS (kq w _))
theorem Hi (b c:Bool) (w:Yc) (r:Int) (i e:Nat) (x y z:Str) (g h:Nat) (a:Yb) (s:2*i+2<e) (t:e=a.length) (q:a.length≤100) (j:a[2*i+1]? = some (.str y g)) (m:a[2*i+2]? = some (.str z h)) (k:decide (y.cps.toList<z.cps.toList)=true) (p:af):aL (B0 (W b c w)) 1 (dN w (p 2 0)) [(p 1 0,ab a (p 1 1)),(p 2 0,aG w [("heap",p 2 2,.ref (p 1 0)),("pos",p 2 4,.int ((i:Nat):Int) (p 2 5)),("endpos",p 2 6,.int ((e:Nat):Int) (p 2 7)),("startpos",p 2 8,.int 0 (p 2 9)),("newitem",p 2 10,.str x (p 2 11)),("childpos",p 2 12,.int ((2*i+1:Nat):Int) (p 2 13)),("rightpos",p 2 14,.int r (p 2 15))] (p 2 1))] (fun d=>(.error (dN w (p 2 0)),[ab (a.set i (.str y g)) (d 0),aG w [("heap",p 2 2,.ref (p 1 0)),("pos",p 2 4,.int ((2*i+1:Nat):Int) (d 1)),("endpos",p 2 6,.int ((e:Nat):Int) (p 2 7)),("startpos",p 2 8,.int 0 (p 2 9)),("newitem",p 2 10,.str x (p 2 11)),("childpos",p 2 12,.int ((2*(2*i+1)+1:Nat):Int) (d 2)),("rightpos",p 2 14,.int ((2*i+2:Nat):Int) (d 3))] (p 2 1)],[])):=
 aA (orcs:=[i2 "int.__lt__" ((2*i+1:Nat):Int) ((e:Nat):Int) fun _=>.bool true,i2 "int.__lt__" ((2*i+2:Nat):Int) ((e:Nat):Int) fun _=>.bool true,cN 0 a ((2*i+1:Nat):Int) (.str y g),cN 0 a ((2*i+2:Nat):Int) (.str z h),o2 "str.__lt__" y z fun _=>.bool true,cN 0 a ((2*i+1:Nat):Int) (.str y g),fd 0 a ((i:Nat):Int) y]) (aa (f6 (decide_eq_true (by omega))) (aa (f6 (decide_eq_true (by omega))) (aa (cU (by omega) (by omega) j) (aa (cU (by omega) (by omega) m) (aa (jY k) (aa (cU (by omega) (by omega) j) (aa (gz (by omega) (by omega) (by omega)) aq))))))) 105 7 [2,2,2,2,0,0,16,2,1,2,2,3,2,2,1,1,1,4,2,2,1,1,1,5,6,2,2,1,1,1,7,2,2,1,1,8,2,2,1,2,0,0,62,0,0,16,2,1,1] [0,1] (fun n o f=>aB [(f 6).2.2 1,p 2 13,(f 6).2.1+4,(f 0).2.1+1,p 2 14]) (hc:=aS (kq w _))
theorem Hj (b c:Bool) (w:Yc) (r:Int) (i e:Nat) (x y z:Str) (h d:Nat) (a:Yb) (s:2*i+2<e) (t:e=a.length) (q:a.length≤100) (m:a[2*i+1]? = some (.str y h)) (j:a[2*i+2]? = some (.str z d)) (k:decide (y.cps.toList<z.cps.toList)=false) (p:af):aL (B0 (W b c w)) 1 (dN w (p 2 0)) [(p 1 0,ab a (p 1 1)),(p 2 0,aG w [("heap",p 2 2,.ref (p 1 0)),("pos",p 2 4,.int ((i:Nat):Int) (p 2 5)),("endpos",p 2 6,.int ((e:Nat):Int) (p 2 7)),("startpos",p 2 8,.int 0 (p 2 9)),("newitem",p 2 10,.str x (p 2 11)),("childpos",p 2 12,.int ((2*i+1:Nat):Int) (p 2 13)),("rightpos",p 2 14,.int r (p 2 15))] (p 2 1))] (fun g=>(.error (dN w (p 2 0)),[ab (a.set i (.str z d)) (g 0),aG w [("heap",p 2 2,.ref (p 1 0)),("pos",p 2 4,.int ((2*i+2:Nat):Int) (g 1)),("endpos",p 2 6,.int ((e:Nat):Int) (p 2 7)),("startpos",p 2 8,.int 0 (p 2 9)),("newitem",p 2 10,.str x (p 2 11)),("childpos",p 2 12,.int ((2*(2*i+2)+1:Nat):Int) (g 2)),("rightpos",p 2 14,.int ((2*i+2:Nat):Int) (g 3))] (p 2 1)],[])):=
 aA (orcs:=[i2 "int.__lt__" ((2*i+1:Nat):Int) ((e:Nat):Int) fun _=>.bool true,i2 "int.__lt__" ((2*i+2:Nat):Int) ((e:Nat):Int) fun _=>.bool true,cN 0 a ((2*i+1:Nat):Int) (.str y h),cN 0 a ((2*i+2:Nat):Int) (.str z d),o2 "str.__lt__" y z fun _=>.bool false,cN 0 a ((2*i+2:Nat):Int) (.str z d),fd 0 a ((i:Nat):Int) z]) (aa (f6 (decide_eq_true (by omega))) (aa (f6 (decide_eq_true (by omega))) (aa (cU (by omega) (by omega) m) (aa (cU (by omega) (by omega) j) (aa (jY k) (aa (cU (by omega) (by omega) j) (aa (gz (by omega) (by omega) (by omega)) aq))))))) 115 7 [2,2,2,2,0,0,16,2,1,2,2,3,2,2,1,1,1,4,2,2,1,1,1,5,6,2,2,1,2,2,1,1,1,7,2,2,1,1,8,2,2,1,2,0,0,62,0,0,16,2,1,1] [0,1] (fun n o f=>aB [(f 6).2.2 1,(f 0).2.1+1,(f 6).2.1+4,(f 0).2.1+1,p 2 14]) (hc:=aS (kq w _))
theorem Hk (b c:Bool) (w:Yc) (r:Int) (i e:Nat) (x y:Str) (g:Nat) (a:Yb) (m:2*i+1<e) (o:e≤2*i+2) (q:e=a.length) (k:a.length≤100) (h:a[2*i+1]? = some (.str y g)) (p:af):aL (B0 (W b c w)) 1 (dN w (p 2 0)) [(p 1 0,ab a (p 1 1)),(p 2 0,aG w [("heap",p 2 2,.ref (p 1 0)),("pos",p 2 4,.int ((i:Nat):Int) (p 2 5)),("endpos",p 2 6,.int ((e:Nat):Int) (p 2 7)),("startpos",p 2 8,.int 0 (p 2 9)),("newitem",p 2 10,.str x (p 2 11)),("childpos",p 2 12,.int ((2*i+1:Nat):Int) (p 2 13)),("rightpos",p 2 14,.int r (p 2 15))] (p 2 1))] (fun d=>(.error (dN w (p 2 0)),[ab (a.set i (.str y g)) (d 0),aG w [("heap",p 2 2,.ref (p 1 0)),("pos",p 2 4,.int ((2*i+1:Nat):Int) (d 1)),("endpos",p 2 6,.int ((e:Nat):Int) (p 2 7)),("startpos",p 2 8,.int 0 (p 2 9)),("newitem",p 2 10,.str x (p 2 11)),("childpos",p 2 12,.int ((2*(2*i+1)+1:Nat):Int) (d 2)),("rightpos",p 2 14,.int ((2*i+2:Nat):Int) (d 3))] (p 2 1)],[])):=
 aA (orcs:=[i2 "int.__lt__" ((2*i+1:Nat):Int) ((e:Nat):Int) fun _=>.bool true,i2 "int.__lt__" ((2*i+2:Nat):Int) ((e:Nat):Int) fun _=>.bool false,cN 0 a ((2*i+1:Nat):Int) (.str y g),fd 0 a ((i:Nat):Int) y]) (aa (f6 (decide_eq_true (by omega))) (aa (f6 (decide_eq_false (by omega))) (aa (cU (by omega) (by omega) h) (aa (gz (by omega) (by omega) (by omega)) aq)))) 84 4 [2,2,2,2,0,0,16,2,1,2,2,3,2,2,1,1,1,4,2,2,1,1,5,2,2,1,2,0,0,62,0,0,16,2,1,1] [0,1] (fun n j f=>aB [(f 3).2.2 1,p 2 13,(f 3).2.1+4,(f 0).2.1+1,p 2 14]) (hc:=aS (kq w _))
def Ae (w:Yc) (r:Int) (i e:Nat) (x:Str) (a:Yb) (p:af):Ya:=[(p 1 0,ab a (p 1 1)),(p 2 0,aG w [("heap",p 2 2,.ref (p 1 0)),("pos",p 2 4,.int ((i:Nat):Int) (p 2 5)),("endpos",p 2 6,.int ((e:Nat):Int) (p 2 7)),("startpos",p 2 8,.int 0 (p 2 9)),("newitem",p 2 10,.str x (p 2 11)),("childpos",p 2 12,.int ((2*i+1:Nat):Int) (p 2 13)),("rightpos",p 2 14,.int r (p 2 15))] (p 2 1))]
theorem Hl (b c:Bool) (w:Yc) (r:Int) (i e:Nat) (x:Str) (a:Yb) (d:e≤2*i+1) (p:af):aC (B0 (W b c w)) 1 (dN w (p 2 0)) (Ae w r i e x a p) (fun f=>(.next,[ab a (p 1 1),aG w [("heap",p 2 2,.ref (p 1 0)),("pos",p 2 4,.int ((i:Nat):Int) (p 2 5)),("endpos",p 2 6,.int ((e:Nat):Int) (p 2 7)),("startpos",p 2 8,.int 0 (p 2 9)),("newitem",p 2 10,.str x (p 2 11)),("childpos",p 2 12,.int ((2*i+1:Nat):Int) (p 2 13)),("rightpos",p 2 14,.int r (p 2 15))] (p 2 1)],[])):=
 aA (orcs:=[i2 "int.__lt__" ((2*i+1:Nat):Int) ((e:Nat):Int) fun _=>.bool false]) (aa (f6 (decide_eq_false (by omega))) aq) 10 1 [2,2,2] [0,1] (fun _ _ _ _=>0) (hc:=aS (kq w _))
end
def bV:Nat→Yb→Nat→Int→Yb×Nat×Int
 | 0,a,i,r=>(a,i,r)
 | n+1,a,i,r=>if 2*i+1<a.length then match a[2*i+1]?,a[2*i+2]? with
   | some (.str y t),some (.str z u)=>if y.cps.toList<z.cps.toList then bV n (a.set i (.str y t)) (2*i+1) ((2*i+2:Nat):Int) else bV n (a.set i (.str z u)) (2*i+2) ((2*i+2:Nat):Int)
   | some (.str y t),_=>bV n (a.set i (.str y t)) (2*i+1) ((2*i+2:Nat):Int)
   | _,_=>(a,i,r)
  else (a,i,r)
def sW (w:Yc) (x:Str) (e:Nat) (r:Yb×Nat×Int) (p:af) (a:Ye):Flow×Yf×Ya:=
 (.next,[ab r.1 (a 0),aG w [("heap",p 2 2,.ref (p 1 0)),("pos",p 2 4,.int (r.2.1:Int) (a 1)),("endpos",p 2 6,.int (e:Int) (p 2 7)),("startpos",p 2 8,.int 0 (p 2 9)),("newitem",p 2 10,.str x (p 2 11)),("childpos",p 2 12,.int ((2*r.2.1+1:Nat):Int) (a 2)),("rightpos",a 4,.int r.2.2 (a 3))] (a 5)],[])
def bk (vs:Yb):Prop:=∀v∈vs,∃y t,v=Value.str y t
theorem bk.set {b:Yb} (h:bk b) (i:Nat) (y:Str) (t:Nat):bk (b.set i (.str y t)):=fun v a=>by
 rcases List.mem_or_eq_of_mem_set a with a | rfl
 ·exact h v a
 ·exact ⟨_,_,rfl⟩
theorem bk.get {a:Yb} (h:bk a) {i:Nat} (b:i<a.length):∃y t,a[i]? = some (.str y t):=by
 obtain ⟨y,t,e⟩:=h a[i] (List.getElem_mem b)
 exact ⟨y,t,by rw [List.getElem?_eq_getElem b,e]⟩
abbrev Af (w:Yc) (r:Int) (i e:Nat) (x:Str) (a:Yb) (p:af):Ya:=Ae w r i e x a p
theorem vu (b c:Bool) (w:Yc):∀(n i:Nat) (d:Yb) (r:Int) (e:Nat) (x:Str) (p:af),d.length≤i+n→e=d.length→d.length≤100→bk d→
  aC (B0 (W b c w)) 1 (dN w (p 2 0)) (Af w r i e x d p) (sW w x e (bV n d i r) p):=by
 intro n
 have g:∀(i:Nat) (d:Yb) (r:Int) (e:Nat) (x:Str) (p:af),e≤2*i+1→aC (B0 (W b c w)) 1 (dN w (p 2 0)) (Af w r i e x d p) (sW w x e (d,i,r) p):=fun i d r e x p h=>
  aL.re (Hl b c w r i e x d h p) fun f=>⟨fun j=>match j with | 0=>p 1 1 | 1=>p 2 5 | 2=>p 2 13 | 3=>p 2 15 | 4=>p 2 14 | _=>p 2 1,rfl⟩
 induction n with
 | zero=>intro i d r e x p D o m q;exact g i d r e x p (by lia)
 | succ n C=>
  intro i d r e x p D o m q
  unfold bV
  by_cases B:2*i+1<d.length
  ·rw [if_pos B]
   obtain ⟨y,t,A⟩:=q.get B
   by_cases E:2*i+2<d.length
   ·obtain ⟨z,u,s⟩:=q.get E
    simp only [A,s]
    by_cases hx:y.cps.toList<z.cps.toList
    ·rw [if_pos hx]
     refine aL.trans (bG _) (Hi b c w r i e x y z t u d (by lia) o m A s (decide_eq_true hx) p) (fun _=>rfl) (fun _=>rfl) fun f => ?_
     exact C (2*i+1) (d.set i (.str y t)) ((2*i+2:Nat):Int) e x (fun a k=>match a,k with | 1,1=>f 0 | 2,5=>f 1 | 2,13=>f 2 | 2,15=>f 3 | a,k=>p a k) (by rw [List.length_set];lia) (by rw [List.length_set];exact o) (by rw [List.length_set];exact m) (q.set _ _ _)
    ·rw [if_neg hx]
     refine aL.trans (bG _) (Hj b c w r i e x y z t u d (by lia) o m A s (decide_eq_false hx) p) (fun _=>rfl) (fun _=>rfl) fun f => ?_
     exact C (2*i+2) (d.set i (.str z u)) ((2*i+2:Nat):Int) e x (fun a k=>match a,k with | 1,1=>f 0 | 2,5=>f 1 | 2,13=>f 2 | 2,15=>f 3 | a,k=>p a k) (by rw [List.length_set];lia) (by rw [List.length_set];exact o) (by rw [List.length_set];exact m) (q.set _ _ _)
   ·have s:d[2*i+2]? = none:=List.getElem?_eq_none (by lia)
    simp only [A,s]
    refine aL.trans (bG _) (Hk b c w r i e x y t d (by lia) (by lia) o m A p) (fun _=>rfl) (fun _=>rfl) fun f => ?_
    exact C (2*i+1) (d.set i (.str y t)) ((2*i+2:Nat):Int) e x (fun a k=>match a,k with | 1,1=>f 0 | 2,5=>f 1 | 2,13=>f 2 | 2,15=>f 3 | a,k=>p a k) (by rw [List.length_set];lia) (by rw [List.length_set];exact o) (by rw [List.length_set];exact m) (q.set _ _ _)
  ·rw [if_neg B]
   exact g i d r e x p (by lia)
theorem Hm (b c:Bool) (w:Yc) (n i:Nat) (f:Yb) (e:Nat) (x:Str) (p:af) (A:f.length≤i+(n+1)) (h:e=f.length) (g:f.length≤100) (o:bk f) (q:2*i+1<f.length) :
  aC (B0 (W b c w)) 1 (dN w (p 2 0)) (sV w i e x f p) (sW w x e (bV (n+1) f i 0) p):=by
 unfold bV
 rw [if_pos q]
 obtain ⟨y,t,m⟩:=o.get q
 by_cases s:2*i+2<f.length
 ·obtain ⟨z,u,j⟩:=o.get s
  simp only [m,j]
  by_cases hx:y.cps.toList<z.cps.toList
  ·rw [if_pos hx]
   refine aL.trans (bG _) (He b c w i e x y z t u f (by lia) h g m j (decide_eq_true hx) p) (fun _=>rfl) (fun _=>rfl) fun d => ?_
   exact vu b c w n (2*i+1) (f.set i (.str y t)) ((2*i+2:Nat):Int) e x (fun a k=>match a,k with | 1,1=>d 0 | 2,1=>p 2 1+1 | 2,5=>d 1 | 2,13=>d 2 | 2,14=>d 4 | 2,15=>d 3 | a,k=>p a k) (by rw [List.length_set];lia) (by rw [List.length_set];exact h) (by rw [List.length_set];exact g) (o.set _ _ _)
  ·rw [if_neg hx]
   refine aL.trans (bG _) (Hf b c w i e x y z t u f (by lia) h g m j (decide_eq_false hx) p) (fun _=>rfl) (fun _=>rfl) fun d => ?_
   exact vu b c w n (2*i+2) (f.set i (.str z u)) ((2*i+2:Nat):Int) e x (fun a k=>match a,k with | 1,1=>d 0 | 2,1=>p 2 1+1 | 2,5=>d 1 | 2,13=>d 2 | 2,14=>d 4 | 2,15=>d 3 | a,k=>p a k) (by rw [List.length_set];lia) (by rw [List.length_set];exact h) (by rw [List.length_set];exact g) (o.set _ _ _)
 ·have j:f[2*i+2]? = none:=List.getElem?_eq_none (by lia)
  simp only [m,j]
  refine aL.trans (bG _) (Hg b c w i e x y t f (by lia) (by lia) h g m p) (fun _=>rfl) (fun _=>rfl) fun d => ?_
  exact vu b c w n (2*i+1) (f.set i (.str y t)) ((2*i+2:Nat):Int) e x (fun a k=>match a,k with | 1,1=>d 0 | 2,1=>p 2 1+1 | 2,5=>d 1 | 2,13=>d 2 | 2,14=>d 4 | 2,15=>d 3 | a,k=>p a k) (by rw [List.length_set];lia) (by rw [List.length_set];exact h) (by rw [List.length_set];exact g) (o.set _ _ _)
section
def px (e q:Nat) (x:Str) (c:Nat) (a:Yb) (d:Nat):aH:=bA (fun p=>.call (.ref 128) ⟨[.ref (p 1 0),.int 0 (p 0 1),.int (q:Int) (p 0 2)],[]⟩) [d] (fun p=>[(p 1 0,ab a (p 1 1))]) (fun p b=>(.ret .none,[ab (jB e a q x c) (b 0)],[]))
theorem vv {b c:Bool} {w:Yc} {m f q:Nat} {x:Str} {d:Nat} {a:Yb} {o:Nat} (s:q≤f) (g:q<a.length) (i:a.length≤100) (k:bk a) (hx:a[q]? = some (.str x d)) (h:2≤m):(px f q x d a o).Sure (B0 (W b c w)) m:=by
 cases q with
 | zero=>
  refine (bS (by simp) fun p => ?_:aH.Sure (B0 (W b c w)) 2 _).le h
  have e:jB f a 0 x d=a.set 0 (.str x d):=by unfold jB;cases f <;> rfl
  rw [e]
  exact Hd b c w x d a g hx p
 | succ j=>
  cases f with
  | zero=>lia
  | succ n=>exact (bS (by simp) fun p=>Hc b c w j n x d a (by lia) g i k hx p:aH.Sure (B0 (W b c w)) 2 _).le h
def Ag (w:Yc) (n:Nat) (x:Str) (a:Yb) (c b:Nat):aH:=bA (fun p=>dN w (p 2 0)) [c,b] (fun p=>sV w 0 a.length x a p) (sW w x a.length (bV (n+1) a 0 0))
theorem Hn {b c:Bool} {w:Yc} {m n:Nat} {x:Str} {a:Yb} {e d:Nat} (g:[e,d].Nodup) (k:a.length≤n+1) (f:a.length≤100) (i:bk a) (j:1<a.length) (h:1≤m):(Ag w n x a e d).Sure (B0 (W b c w)) m:=
 (bS g fun p=>Hm b c w n 0 a a.length x p (by lia) rfl f i (by lia)).le h
def Ah (w:Yc) (x:Str) (a:Yb) (c b:Nat):aH:=bA (fun p=>dN w (p 2 0)) [c,b] (fun p=>sV w 0 a.length x a p) (Ad w 0 a.length x a)
theorem Ho {b c:Bool} {w:Yc} {m:Nat} {x:Str} {a:Yb} {e d:Nat} (f:[e,d].Nodup) (h:a.length≤1) (g:1≤m):(Ah w x a e d).Sure (B0 (W b c w)) m:=
 (bS f fun p=>Hh b c w 0 a.length x a (by lia) p).le g
theorem vw:∀(n:Nat) (a:Yb) (i:Nat) (r:Int),i<a.length→(bV n a i r).1.length=a.length∧(bV n a i r).2.1<a.length
 | 0,a,i,r,h=>⟨rfl,h⟩
 | n+1,a,i,r,h=>by
  have b:∀(v:Yd) (c:Nat) (d:Int),c<a.length→(bV n (a.set i v) c d).1.length=a.length∧(bV n (a.set i v) c d).2.1<a.length:=fun v c d m=>by
   have q:=vw n (a.set i v) c d (by rw [List.length_set];exact m)
   rw [List.length_set] at q
   exact q
  have j:∀(k:Nat) (v:Yd),a[k]? = some v→k<a.length:=fun k v e=>by
   rcases Nat.lt_or_ge k a.length with q | q
   ·exact q
   ·rw [List.getElem?_eq_none q] at e;cases e
  unfold bV
  split
  ·rename_i f
   split
   ·rename_i g
    split
    ·exact b _ _ _ f
    ·exact b _ _ _ (j _ _ g)
   ·exact b _ _ _ f
   ·exact ⟨rfl,h⟩
  ·exact ⟨rfl,h⟩
theorem py:∀(n:Nat) (a:Yb) (i:Nat) (r:Int),bk a→bk (bV n a i r).1
 | 0,a,i,r,h=>h
 | n+1,a,i,r,h=>by
  unfold bV
  split
  ·split
   ·split
    ·exact py n _ _ _ (h.set _ _ _)
    ·exact py n _ _ _ (h.set _ _ _)
   ·exact py n _ _ _ (h.set _ _ _)
   ·exact h
  ·exact h
def fQ (n:Nat) (a:Yb) (x:Str) (t:Nat):Yb:=(bV (n+1) a 0 0).1.set (bV (n+1) a 0 0).2.1 (.str x t)
def fR (n:Nat) (vs:Yb) (x:Str) (t:Nat):Yb:=jB 100 (fQ n vs x t) (bV (n+1) vs 0 0).2.1 x t
end
namespace Srt
def Kp (ok:Nat→Prop) (lt:Nat→Nat→Bool) {α : Type}:KasT α→(α→Prop)→Prop
 | .ret a,G=>G a
 | .ask i j k,G=>ok i∧ok j∧Kp ok lt (k (lt i j)) G
def fg (lt:Nat→Nat→Bool) {α : Type}:KasT α→α
 | .ret a=>a
 | .ask i j k=>fg lt (k (lt i j))
section
variable {ok:Nat→Prop} {lt:Nat→Nat→Bool} {α β : Type}
theorem Kp.bind {f : α→KasT β} {G : β→Prop}:∀{t:KasT α},Kp ok lt t (fun a=>Kp ok lt (f a) G)→Kp ok lt (t.bind f) G
 | .ret _,h=>h
 | .ask _ _ _,h=>⟨h.1,h.2.1,Kp.bind h.2.2⟩
theorem Kp.mono {G b : α→Prop} (c:∀a,G a→b a):∀{t:KasT α},Kp ok lt t G→Kp ok lt t b
 | .ret _,h=>c _ h
 | .ask _ _ _,h=>⟨h.1,h.2.1,Kp.mono c h.2.2⟩
theorem Kp.ev {G : α→Prop}:∀{t:KasT α},Kp ok lt t G→G (fg lt t)
 | .ret _,h=>h
 | .ask i j k,h=>Kp.ev (t:=k (lt i j)) h.2.2
theorem Kp.wp {G : α→Prop} {a:Nat→Nat→(Bool→Shared→Prop)→Shared→Prop} {s:Shared} (c:∀i j,ok i→ok j→∀C:Bool→Shared→Prop,C (lt i j) s→a i j C s) {Q : α→Shared→Prop}:∀{t:KasT α},Kp ok lt t G→Q (fg lt t) s→t.kasWp a Q s
 | .ret _,_,b=>b
 | .ask i j k,h,b=>c i j h.1 h.2.1 _ (Kp.wp (t:=k (lt i j)) c h.2.2 b)
structure Wk (lt:Nat→Nat→Bool):Prop where
 asym:∀a b,lt a b=true→lt b a=false
 neg:∀a b c,lt b a=false→lt c b=false→lt c a=false
def Le (lt:Nat→Nat→Bool) (a b:Nat):Prop:=lt b a=false
def v (p:Array Nat) (k:Nat):Nat:=p.getD k 0
def Up (lt:Nat→Nat→Bool) (p:Array Nat) (m:Nat):Prop:=∀i j,i<j→j<m→Le lt (v p i) (v p j)
def Dn (lt:Nat→Nat→Bool) (p:Array Nat) (m:Nat):Prop:=∀i j,i<j→j<m→Le lt (v p j) (v p i)
def St (N:Nat) (p:Array Nat):Prop:=p.size=N∧p.Perm (List.toArray (List.range N))
theorem St.inR {N:Nat} {p:Array Nat} (h:St N p) {k:Nat} (b:k<N):v p k<N:=by
 have a:k<p.size:=by rw [h.1];exact b
 have e:v p k=p[k]:=by unfold v;simp [Array.getD,a]
 rw [e]
 have m:p[k]∈p.toList:=by simp
 have:=(Array.perm_iff_toList_perm.mp h.2).mem_iff.mp m
 simpa using this
theorem Ai {p:Array Nat} {a d:Nat} (b:a<p.size) (c:d≤a) (k:Nat):v (bubble p a d) k=if k=a-d then v p a else if a-d<k∧k≤a then v p (k-1) else v p k:=by
 have e:=getElem?_bubble b d c k
 have g:∀(q:Array Nat) (i:Nat),v q i=(q[i]?).getD 0:=fun q i=>by unfold v;simp [Array.getD,getElem?_def];split <;> simp_all
 rw [g,e]
 split
 ·rw [g]
 ·split
  ·rw [g]
  ·rw [g]
theorem vx {p:Array Nat} {i j:Nat} (a:j≤p.size) (k:Nat):v (kas_rev p i j) k=if i≤k∧k<j then v p (i+j-1-k) else v p k:=by
 have e:=getElem?_mirror_all (xs:=p) (i:=i) a k
 have g:∀(q:Array Nat) (i:Nat),v q i=(q[i]?).getD 0:=fun q i=>by unfold v;simp [Array.getD,getElem?_def];split <;> simp_all
 unfold kas_rev
 rw [g,e]
 split
 ·rw [g]
 ·rw [g]
theorem St.rev {N:Nat} {p:Array Nat} (h:St N p) (i j:Nat):St N (kas_rev p i j):=⟨(mirror_size _ _ _ _).trans h.1,(mirror_perm _ _ _ _).trans h.2⟩
theorem St.bub {N:Nat} {p:Array Nat} (h:St N p) (i d:Nat):St N (bubble p i d):=⟨(bubble_size _ _ _).trans h.1,(bubble_perm _ _ _).trans h.2⟩
variable (O:Wk lt) {N:Nat}
theorem Le.refl (O:Wk lt) (a:Nat):Le lt a a:=by
 unfold Le
 cases h:lt a a with
 | false=>rfl
 | true=>have:=O.asym _ _ h;rw [h] at this;exact this
theorem Le.trans (O:Wk lt) {a b c:Nat} (e:Le lt a b) (d:Le lt b c):Le lt a c:=O.neg a b c e d
theorem le_of_lt (O:Wk lt) {a b:Nat} (h:lt a b=true):Le lt a b:=O.asym _ _ h
theorem Hq (O:Wk lt) {a b c:Nat} (e:lt a b=true) (d:Le lt b c):lt a c=true:=by
 cases h:lt a c with
 | true=>rfl
 | false=>
  have:lt a b=false:=O.neg b c a d h
  rw [e] at this;cases this
abbrev ks (N:Nat):Nat→Prop:=fun x=>x<N
theorem vy (O:Wk lt) {p:Array Nat} (h:St N p):∀(f n:Nat),1≤n→n+f≤N→Up lt p n→Kp (ks N) lt (kas_asc p f n) fun m=>n≤m∧m≤n+f∧Up lt p m∧(m<n+f→lt (v p m) (v p (m-1))=true)
 | 0,n,_,_,u=>⟨Nat.le_refl _,Nat.le_refl _,u,fun h=>absurd h (Nat.lt_irrefl _)⟩
 | f+1,n,o,s,u=>by
  refine ⟨h.inR (k:=n) (by lia),h.inR (k:=n-1) (by lia),?_⟩
  show Kp _ _ (if lt (v p n) (v p (n-1))=true then _ else _) _
  split
  ·rename_i a
   exact ⟨Nat.le_refl _,by lia,u,fun _=>a⟩
  ·rename_i a
   have a:Le lt (v p (n-1)) (v p n):=by simpa [Le] using a
   refine Kp.mono (fun m c=>⟨by lia,by lia,c.2.2.1,fun q=>c.2.2.2 (by lia)⟩) (vy O h f (n+1) (by lia) (by lia) fun i j b g => ?_)
   by_cases e:j=n
   ·subst e
    by_cases d:i=j-1
    ·subst d;exact a
    ·exact Le.trans O (u i (j-1) (by lia) (by lia)) a
   ·exact u i j b (by lia)
def nf (lt:Nat→Nat→Bool) (p:Array Nat) (i j:Nat):Prop:=∀a b,i≤a→a<j→i≤b→b<j→Le lt (v p a) (v p b)
theorem Aj (O:Wk lt) {p:Array Nat} {i j:Nat} (a:j≤p.size) (e:nf lt p i j) (k:Nat):Le lt (v (kas_rev p i j) k) (v p k)∧Le lt (v p k) (v (kas_rev p i j) k):=by
 rw [vx a]
 split
 ·rename_i h
  exact ⟨e _ _ (by lia) (by lia) h.1 h.2,e _ _ h.1 h.2 (by lia) (by lia)⟩
 ·exact ⟨Le.refl O _,Le.refl O _⟩
theorem vz (O:Wk lt) {p:Array Nat} {i j m:Nat} (f:j≤p.size) (e:nf lt p i j) (d:Dn lt p m):Dn lt (kas_rev p i j) m:=fun a b c g=>
 Le.trans O (Aj O f e b).1 (Le.trans O (d a b c g) (Aj O f e a).2)
theorem sX (O:Wk lt) {p:Array Nat} {n:Nat} (f:1≤n) (d:Dn lt p n) (b:Le lt (v p n) (v p (n-1))):Dn lt p (n+1):=fun i j a g=>by
 by_cases e:j=n
 ·subst e
  by_cases c:i=j-1
  ·subst c;exact b
  ·exact Le.trans O b (d i (j-1) (by lia) (by lia))
 ·exact d i j a (by lia)
theorem sY (O:Wk lt):∀(f:Nat) (p:Array Nat) (n q:Nat),St N p→n+f≤N→q+1≤n→Dn lt p n→nf lt p (n-(q+1)) n→
  Kp (ks N) lt (kas_desc f p n q) fun r=>St N r.1∧n≤r.2.1∧r.2.1≤n+f∧r.2.2+1≤r.2.1∧Dn lt r.1 r.2.1∧nf lt r.1 (r.2.1-(r.2.2+1)) r.2.1
 | 0,p,n,q,h,_,s,d,e=>⟨h,Nat.le_refl _,Nat.le_refl _,s,d,e⟩
 | f+1,p,n,q,h,A,s,d,e=>by
  have x:p.size=N:=h.1
  refine ⟨h.inR (k:=n) (by lia),h.inR (k:=n-1) (by lia),?_⟩
  show Kp _ _ (if lt (v p n) (v p (n-1))=true then _ else _) _
  have i:∀(t:Array Nat),nf lt t (n+1-(0+1)) (n+1):=fun t a b j u o y=>by
   have:a=b:=by lia
   subst this;exact Le.refl O _
  split
  ·rename_i g
   have g:=le_of_lt O g
   have w:=sX O (by lia) d g
   split
   ·refine Kp.mono (fun r c=>⟨c.1,by lia,by lia,c.2.2.2⟩) (sY O f _ (n+1) 0 (h.rev _ _) (by lia) (by lia) (vz O (by lia) e w) (i _))
   ·refine Kp.mono (fun r c=>⟨c.1,by lia,by lia,c.2.2.2⟩) (sY O f _ (n+1) 0 h (by lia) (by lia) w (i _))
  ·rename_i g
   have g:Le lt (v p (n-1)) (v p n):=by simpa [Le] using g
   refine ⟨h.inR (k:=n-1) (by lia),h.inR (k:=n) (by lia),?_⟩
   show Kp _ _ (if lt (v p (n-1)) (v p n)=true then _ else _) _
   split
   ·exact ⟨h,Nat.le_refl _,Nat.le_add_right _ _,s,d,e⟩
   ·rename_i c
    have c:Le lt (v p n) (v p (n-1)):=by simpa [Le] using c
    refine Kp.mono (fun r c=>⟨c.1,by lia,by lia,c.2.2.2⟩) (sY O f p (n+1) (q+1) h (by lia) (by lia) (sX O (by lia) d c) ?_)
    have lo:∀a,n+1-(q+1+1)≤a→a<n→Le lt (v p a) (v p (n-1))∧Le lt (v p (n-1)) (v p a):=fun a j u=>⟨e a (n-1) (by lia) (by lia) (by lia) (by lia),e (n-1) a (by lia) (by lia) (by lia) (by lia)⟩
    intro a b j u o y
    by_cases z:a=n
    ·subst z
     by_cases m:b=a
     ·subst m;exact Le.refl O _
     ·exact Le.trans O c (lo b o (by lia)).2
    ·by_cases m:b=n
     ·subst m;exact Le.trans O (lo a j (by lia)).1 g
     ·exact Le.trans O (lo a j (by lia)).1 (lo b o (by lia)).2
theorem Hr (O:Wk lt) {p:Array Nat} {n:Nat} (a:n≤p.size) (d:Dn lt p n):Up lt (kas_rev p 0 n) n:=fun i j c b=>by
 rw [vx a,vx a,if_pos ⟨Nat.zero_le _,by lia⟩,if_pos ⟨Nat.zero_le _,b⟩]
 exact d (0+n-1-j) (0+n-1-i) (by lia) (by lia)
abbrev vA (lt:Nat→Nat→Bool) (N n:Nat) (r:Nat×Array Nat):Prop:=n≤r.1∧r.1≤N∧St N r.2∧Up lt r.2 r.1
theorem Ak (O:Wk lt) {p:Array Nat} {n:Nat} (h:St N p) (c:1≤n) (e:n≤N) (d:Dn lt p n):Kp (ks N) lt (kas_tail3 n N p) (vA lt N 1):=by
 have a:p.size=N:=h.1
 refine Kp.bind (Kp.mono (fun m b => ?_) (vy O (h.rev 0 n) (N-n) n c (by lia) (Hr O (by lia) d)))
 exact ⟨by show 1≤m;lia,by show m≤N;lia,h.rev 0 n,b.2.2.1⟩
theorem Al (O:Wk lt) {p:Array Nat} {n:Nat} (h:St N p) (i:1≤n) (s:n+1≤N) (d:Dn lt p (n+1)):Kp (ks N) lt (kas_descPart n N p) (vA lt N 1):=by
 refine Kp.bind (Kp.mono (fun r f => ?_) (sY O (N-(n+1)) p (n+1) 0 h (by lia) (by lia) d fun a b i q o m => ?_))
 ·obtain ⟨c,t,k,u,e,j⟩:=f
  have g:r.1.size=N:=c.1
  split
  ·exact Ak O (c.rev _ _) (by lia) (by lia) (vz O (by lia) j e)
  ·exact Ak O c (by lia) (by lia) e
 ·have:a=b:=by lia
  subst this;exact Le.refl O _
theorem Hs (O:Wk lt) {p:Array Nat} (h:St N p) (A:1≤N):Kp (ks N) lt (kas_count N p) (vA lt N 1):=by
 have w:p.size=N:=h.1
 refine Kp.bind (Kp.mono (fun n y => ?_) (vy O h (N-1) 1 (Nat.le_refl _) (by lia) fun i j g m=>by lia))
 obtain ⟨c,B,o,z⟩:=y
 split
 ·exact ⟨c,by lia,h,o⟩
 ·rename_i f
  have f:n≠N:=by simpa using f
  have t:=z (by lia)
  split
  ·rename_i C
   refine ⟨h.inR (k:=0) (by lia),h.inR (k:=n-1) (by lia),?_⟩
   show Kp _ _ (if lt (v p 0) (v p (n-1))=true then _ else _) _
   split
   ·exact ⟨c,by lia,h,o⟩
   ·rename_i s
    have s:Le lt (v p (n-1)) (v p 0):=by simpa [Le] using s
    have u:∀a b,a≤b→b<n→Le lt (v p a) (v p b):=fun a b x q=>by
     by_cases e:a=b
     ·subst e;exact Le.refl O _
     ·exact o a b (by lia) q
    have e:nf lt p 0 n:=fun a b _ D _ q=>Le.trans O (u a (n-1) (by lia) (by lia)) (Le.trans O s (u 0 b (Nat.zero_le _) q))
    have d:Dn lt p (n+1):=sX O c (fun i j g m=>e j i (Nat.zero_le _) m (Nat.zero_le _) (by lia)) (le_of_lt O t)
    exact Al O (h.rev _ _) c (by lia) (vz O (by lia) e d)
  ·exact Al O h c (by lia) (sX O c (fun i j g m=>by lia) (le_of_lt O t))
theorem vB (O:Wk lt) {p:Array Nat} (h:St N p) {k:Nat} (n:k<N) (u:Up lt p k):∀(f l r:Nat),r≤l+f→l≤r→r≤k→(∀i,i<l→Le lt (v p i) (v p k))→(∀i,r≤i→i<k→lt (v p k) (v p i)=true)→
  Kp (ks N) lt (kas_place p k f l r) fun m=>m≤k∧(∀i,i<m→Le lt (v p i) (v p k))∧∀i,m≤i→i<k→lt (v p k) (v p i)=true
 | 0,l,r,q,j,o,a,b=>⟨by lia,a,fun i g d=>b i (by lia) d⟩
 | f+1,l,r,q,j,o,a,b=>by
  unfold kas_place
  split
  ·exact ⟨by lia,a,fun i g d=>b i (by lia) d⟩
  ·rename_i s
   refine ⟨h.inR n,h.inR (k:=(l+r) / 2) (by lia),?_⟩
   show Kp _ _ (if lt (v p k) (v p ((l+r) / 2))=true then _ else _) _
   split
   ·rename_i c
    refine vB O h n u f l ((l+r) / 2) (by lia) (by lia) (by lia) a fun i g d => ?_
    by_cases e:i=(l+r) / 2
    ·subst e;exact c
    ·exact Hq O c (u _ _ (by lia) d)
   ·rename_i c
    have c:Le lt (v p ((l+r) / 2)) (v p k):=by simpa [Le] using c
    refine vB O h n u f ((l+r) / 2+1) r (by lia) (by lia) o (fun i g => ?_) b
    by_cases e:i=(l+r) / 2
    ·subst e;exact c
    ·exact Le.trans O (u i _ (by lia) (by lia)) c
theorem Am (O:Wk lt):∀(f:Nat) (p:Array Nat) (k:Nat),St N p→k+f≤N→Up lt p k→Kp (ks N) lt (kas_bin f p k) fun a=>St N a∧Up lt a (k+f)
 | 0,p,k,h,_,u=>⟨h,u⟩
 | f+1,p,k,h,x,u=>by
  have g:p.size=N:=h.1
  refine Kp.bind (Kp.mono (fun l n => ?_) (vB O h (k:=k) (by lia) u k 0 k (by lia) (by lia) (Nat.le_refl _) (fun i b=>absurd b (Nat.not_lt_zero _)) fun i s t=>by lia))
  obtain ⟨w,m,l3⟩:=n
  refine Kp.mono (fun a d=>⟨d.1,by rw [show k+(f+1)=k+1+f by lia];exact d.2⟩) (Am O f _ (k+1) (h.bub _ _) (by lia) fun i j o q => ?_)
  rw [Ai (by lia) (by lia),Ai (by lia) (by lia),show k-(k-l)=l by lia]
  by_cases c:i=l
  ·rw [if_pos c,if_neg (by lia),if_pos ⟨by lia,by lia⟩]
   exact le_of_lt O (l3 _ (by lia) (by lia))
  ·by_cases e:j=l
   ·rw [if_neg c,if_neg (by lia),if_pos e]
    exact m i (by lia)
   ·rw [if_neg c,if_neg e]
    by_cases b:l<i
    ·rw [if_pos ⟨b,by lia⟩,if_pos ⟨by lia,by lia⟩]
     exact u _ _ (by lia) (by lia)
    ·rw [if_neg (by lia)]
     split
     ·exact u _ _ (by lia) (by lia)
     ·exact u _ _ (by lia) (by lia)
theorem vC (O:Wk lt) (n:Nat) (f:1≤n):Kp (ks n) lt (kas_sort n) fun p=>St n p∧Up lt p n:=by
 have h:St n (List.toArray (List.range n)):=⟨by simp,Array.Perm.refl _⟩
 refine Kp.bind (Kp.mono (fun r d => ?_) (Hs O h f))
 obtain ⟨g,i,c,a⟩:=d
 split
 ·refine Kp.mono (fun p b=>⟨b.1,?_⟩) (Am O (n-max r.1 1) r.2 (max r.1 1) c (by lia) (by rw [Nat.max_eq_left g];exact a))
  have e:max r.1 1+(n-max r.1 1)=n:=by lia
  have:=b.2
  rw [e] at this
  exact this
 ·have e:r.1=n:=by lia
  exact ⟨c,e▸a⟩
end
end Srt
section
open PySem PySem.W PySem.W.X PyProof.Rows Srt
def fh (h H:Heap):Prop:=∀b o,h.get? b=some o→H.get? b=some o
theorem fh.push (h:Heap) (o:Obj):fh h (h.push o):=fun _ _ e=>Heap.get?_push_of_some _ e
theorem fh.trans {h d c:Heap} (a:fh h d) (b:fh d c):fh h c:=fun x o e=>b x o (a x o e)
def f8 (vs:Yb) (p:Yh):Yb:=p.map fun i=>vs.getD i .none
section
variable {prog:Program} {w:Yc} {A:Around} {E:Yd→Shared→Prop} {s:Shared}
def An (prog:Program) (w:Yc) (A:Around) (s:Shared) (b:Yb) (c:Nat→Nat→Bool):Prop:=
 ∀H:Heap,fh s.heap H→∀i j,i<b.length→j<b.length→∀C:Bool→Shared→Prop,C (c i j) {s with heap:=H}→kas_ask prog w A oneType' b i j C {s with heap:=H}
theorem Ht {a:Addr} {d:Yb} {n:Nat} {m:Nat→Nat→Bool} {P:Fin→Shared→Prop} (f:Heap) (N:fh f s.heap) (hn:f.get? a=none) (X:s.heap.get? a=some (ab d n)) (h2:2≤d.length) (h64:d.length<64) (O:Wk m)
  (hc:An prog w A {s with heap:=f} d m) (hT:∀v∈d,∃b o,v = .ref b∧f.get? b=some o∧o.cls = .type "list")
  (hP:∀S e,fh f S→s.heap.objs.size≤S.objs.size→S.get? a=some (ab (f8 d (fg m (kas_sort d.length)).toList) e)→P (.done (.ret .none)) {s with heap:=S}) :
  wpAny (model prog w) A (Builtin.«list.sort» ⟨[.ref a],[]⟩) P E s:=by
 have F:d.toArray.size=d.length:=List.size_toArray ..
 have y:Heap.SameBut a s.heap (s.heap.update a (Obj.mapSeq fun _=>#[])):=Heap.SameBut.update ..
 have u:=get?_update_seq (c:="list") X fun _=>(#[]:Array Yd)
 have oo:∀{H:Heap},Heap.SameBut a s.heap H→fh f H:=fun hs b o e=>(hs.2 b (fun z=>by rw [z,hn] at e;cases e)).trans (N b o e)
 have o1:=oo y
 rw [list_sort_plain]
 refine wpAny_bind (listItems_at X rfl ?_)
 refine wpAny_bind (listUpdate_at X rfl ?_ (by rw [F,sizeLine_eq];lia) (Nat.zero_le _))
 generalize (s.heap.update a (Obj.mapSeq fun _=>(#[]:Array Yd)))=D at y u o1 ⊢
 generalize (if ((#[]:Array Yd)).size==d.toArray.size then n else n+1)=e1 at u
 have U:D.objs.size=s.heap.objs.size:=y.1
 refine wpAny_bind (seqEpoch_at u rfl ?_)
 refine wpAny_bind (wpAny_newTuple ?_ (by show d.length≤_;rw [sizeLine_eq];lia))
 refine wpAny_bind (wpAny_newList ?_ (Nat.zero_le _))
 refine wpAny_holding ?_
 have p2:fh D ((D.push (seqObj "tuple" d.toArray 0)).push (seqObj "list" #[] 0)):=(fh.push _ _).trans (fh.push _ _)
 show wpAny (model prog w) A _ P E {s with heap:=(D.push (seqObj "tuple" d.toArray 0)).push (seqObj "list" #[] 0)}
 have I:((D.push (seqObj "tuple" d.toArray 0)).push (seqObj "list" #[] 0)).objs.size=s.heap.objs.size+2:=by rw [Heap.size_push,Heap.size_push,U]
 have t:=p2 _ _ u
 have o2:=o1.trans p2
 generalize (D.push (seqObj "tuple" d.toArray 0)).push (seqObj "list" #[] 0)=B at t o2 I ⊢
 dsimp only
 have K:¬d.toArray.size<2:=by rw [F];lia
 rw [if_neg K,if_neg K]
 refine wpAny_bind (kas_kind (T:=.type "list") h2 (fun v hv => ?_) (by decide) (by decide) ?_)
 ·obtain ⟨b,o,rfl,hb,hcl⟩:=hT v hv
  exact fun A Q E x k q=>wpAny_typeOf (T:="list") ⟨o,k _ _ (o2 _ _ hb),hcl⟩ q
 have Z:SortSt.mk' oneType' (d.toArray.zip d.toArray) #[] 7 none=kas_st oneType' (pairsOf d) (List.toArray (List.range d.length)):=by
  have e:=kas_range (pairsOf d)
  rw [pairsOf_size] at e
  show SortSt.mk' oneType' (pairsOf d) #[] 7 none=SortSt.mk' oneType' ((List.toArray (List.range d.length)).map (kas_item (pairsOf d))) #[] 7 none
  rw [e]
 have so:=vC O d.length (by lia)
 have ask:(kas_sort d.length).kasWp (kas_cmp prog w A oneType' (pairsOf d)) (fun p x=>p=fg m (kas_sort d.length)∧x={s with heap:=B}) {s with heap:=B}:=by
  rw [←kas_ask_eq]
  exact Kp.wp (fun i j hi hj C hC=>hc B o2 i j hi hj C hC) so ⟨rfl,rfl⟩
 have run:=kas_runs (E:=E) (Q:=fun _ h x=>failedOf h=none∧arrOf h=(fg m (kas_sort d.length)).map (kas_item (pairsOf d))∧x={s with heap:=B}) (G:=fun p x=>p=fg m (kas_sort d.length)∧x={s with heap:=B}) h2 h64 (fun p' h x _ a2 a3 a4=>⟨a3,a4.1▸a2,a4.2⟩) ask
 rw [←Z] at run
 refine wpAny_bind (wpAny_mono run ?_ fun _ _ e=>e)
 rintro ⟨⟨⟩,h⟩ x ⟨hf,Y,rfl⟩
 dsimp only
 have L:(arrOf h).map (·.2)=(f8 d (fg m (kas_sort d.length)).toList).toArray:=by
  apply Array.toList_inj.mp
  rw [Y,Array.map_map,Array.toList_map]
  exact List.map_congr_left fun i _=>by show (kas_item (pairsOf d) i).2=_;rw [kas_item_eq]
 have R:(f8 d (fg m (kas_sort d.length)).toList).toArray.size=d.length:=by
  rw [List.size_toArray]
  show (List.map _ _).length=_
  rw [List.length_map,Array.length_toList]
  exact so.ev.1.1
 rw [L]
 have J:Heap.SameBut a B (B.update a (Obj.mapSeq fun _=>(f8 d (fg m (kas_sort d.length)).toList).toArray)):=Heap.SameBut.update ..
 have V:=get?_update_seq (c:="list") t fun _=>(f8 d (fg m (kas_sort d.length)).toList).toArray
 refine wpAny_bind (seqEpoch_at t rfl ?_)
 refine wpAny_bind (listUpdate_at t rfl ?_ (Nat.zero_le _) (by rw [R,sizeLine_eq];lia))
 rw [hf]
 simp only [bne_self_eq_false,Bool.false_eq_true,if_false]
 exact wpAny_pure (hP _ _ (fun b o e=>(J.2 b (fun z=>by rw [z,hn] at e;cases e)).trans (o2 b o e)) (by rw [J.1,I];lia) V)
theorem Hu {l:Addr} {vs:Yb} {n:Nat} {lt:Nat→Nat→Bool} {Q:Yd→Shared→Prop} (p:s.heap.get? l=some (ab vs n)) (t:2≤vs.length) (h64:vs.length<64) (O:Wk lt)
  (j:An prog w A.in1.in1 s vs lt) (hT:∀v∈vs,∃b o,v = .ref b∧s.heap.get? b=some o∧o.cls = .type "list")
  (k:∀d e,fh s.heap d→s.heap.objs.size≤d.objs.size→d.get? (s.heap.objs.size+1)=some (ab (f8 vs (fg lt (kas_sort vs.length)).toList) e)→Q (.ref (s.heap.objs.size+1)) {s with heap:=d}) :
  wpAny (model prog w) A (call (.builtin "sorted") [.ref l]) Q E s:=by
 refine Calls.call_function_entry kind_sorted plain_sorted entry_sorted (args_sorted1 _) ?_
 unfold Builtin.«sorted»
 refine wpAny_bind (m:=checkCount "sorted" 1 1 _) (wpAny_pure ?_)
 refine wpAny_bind (collect_list (s:=s) ⟨_,p,rfl,n,rfl⟩ ?_ (by rw [sizeLine_eq];lia))
 refine wpAny_bind (wpAny_newList ?_ (by rw [sizeLine_eq];lia))
 have f:Heap.SameBut s.heap.objs.size (s.heap.push (seqObj "list" #[] 0)) ((s.heap.push (seqObj "list" #[] 0)).update s.heap.objs.size (Obj.mapSeq (· ++ vs.toArray))):=Heap.SameBut.update ..
 have i:fh s.heap ((s.heap.push (seqObj "list" #[] 0)).update s.heap.objs.size (Obj.mapSeq (· ++ vs.toArray))):=fun b o e=>(f.2 b (Nat.ne_of_lt (Heap.lt_size e))).trans (Heap.get?_push_of_some _ e)
 have a:((s.heap.push (seqObj "list" #[] 0)).update s.heap.objs.size (Obj.mapSeq (· ++ vs.toArray))).objs.size=s.heap.objs.size+1:=by rw [f.1,Heap.size_push]
 show wpAny _ _ _ _ _ {s with heap:=((s.heap.push (seqObj "list" #[] 0)).update s.heap.objs.size (Obj.mapSeq (· ++ vs.toArray))).push (seqObj "list" vs.toArray 0)}
 generalize ((s.heap.push (seqObj "list" #[] 0)).update s.heap.objs.size (Obj.mapSeq (· ++ vs.toArray)))=g at f i a ⊢
 have h:(g.push (seqObj "list" vs.toArray 0)).get? (s.heap.objs.size+1)=some (ab vs 0):=by
  rw [←a];exact Heap.get?_push_size _ rfl
 rw [a]
 have y:s.heap.get? (s.heap.objs.size+1)=none:=Heap.get?_none_of_le (Nat.le_succ _)
 refine wpAny_bind (wpAny_holding (wpAny_call_entry slot_list_sort ⟨_,h,rfl⟩ entry_list_sort (Ht (s:={s with heap:=g.push (seqObj "list" vs.toArray 0)}) s.heap (i.trans (fh.push _ _)) y h t h64 O j hT fun d e x u q => ?_) (args_list_sort _)))
 refine ⟨_,rfl,wpAny_pure ⟨_,rfl,k d e x ?_ q⟩⟩
 have:(g.push (seqObj "list" vs.toArray 0)).objs.size≤d.objs.size:=u
 rw [Heap.size_push,a] at this
 lia
end
end
section
open PySem PySem.W PySem.W.X PyProof.Rows Srt
def c9 (x y:Str):Bool:=decide (x.cps.toList<y.cps.toList)
theorem jC (x:Str):c9 x x=false:=decide_eq_false (List.lt_irrefl _)
theorem ng {x y:Str} (h:c9 x y=true):c9 y x=false:=by
 refine decide_eq_false fun a => ?_
 exact List.lt_irrefl _ (List.lt_trans (of_decide_eq_true h) a)
theorem sZ {x y z:Str} (b:c9 y x=false) (a:c9 z y=false):c9 z x=false:=by
 have b:=List.not_lt.mp (of_decide_eq_false b)
 have a:=List.not_lt.mp (of_decide_eq_false a)
 exact decide_eq_false (List.not_lt.mpr (List.le_trans b a))
theorem Ao {x y:Str} (h:x.cps.toList=y.cps.toList):x=y:=by
 obtain ⟨a⟩:=x;obtain ⟨b⟩:=y
 exact congrArg _ (Array.toList_inj.mp h)
theorem s0 {x y:Str} (a:c9 x y=false) (b:c9 y x=false):x=y:=
 Ao (List.le_antisymm (List.not_lt.mp (of_decide_eq_false b)) (List.not_lt.mp (of_decide_eq_false a)))
theorem ku (x y:Str) (b a:Yg):aP (x::b) (y::a)=if x=y then aP b a else c9 x y:=by
 show (if x==y then aP b a else _)=_
 by_cases h:x=y
 ·rw [if_pos h,if_pos (by rw [h];exact beq_self_eq_true _)]
 ·rw [if_neg h,if_neg (by rw [beq_iff_eq];exact h)];rfl
theorem Ap:∀(b a:Yg),aP b a=true→aP a b=false
 | [],[],h=>by cases h
 | [],y::a,_=>rfl
 | x::b,[],h=>by cases h
 | x::b,y::a,h=>by
  rw [ku] at h ⊢
  by_cases e:x=y
  ·rw [if_pos e] at h
   rw [if_pos e.symm]
   exact Ap b a h
  ·rw [if_neg e] at h
   rw [if_neg (Ne.symm e)]
   exact ng h
theorem Aq:∀(b c d:Yg),aP c b=false→aP d c=false→aP d b=false
 | [],_,[],_,_=>rfl
 | [],_,_::_,_,_=>rfl
 | x::b,[],_,h,_=>by rw [mU] at h;simp at h
 | x::b,y::c,[],_,h=>by rw [mU] at h;simp at h
 | x::b,y::c,z::d,h1,h2=>by
  rw [ku] at h1 h2 ⊢
  by_cases e:y=x
  ·subst e
   rw [if_pos rfl] at h1
   by_cases a:z=y
   ·rw [if_pos a] at h2 ⊢
    exact Aq b c d h1 h2
   ·rw [if_neg a] at h2 ⊢
    exact h2
  ·rw [if_neg e] at h1
   by_cases a:z=y
   ·subst a
    rw [if_neg e]
    exact h1
   ·rw [if_neg a] at h2
    by_cases f:z=x
    ·subst f
     exact absurd (s0 h2 h1) (fun q=>a q)
    ·rw [if_neg f]
     exact sZ h1 h2
theorem vD (f:Nat→Yg):Wk fun i j=>aP (f i) (f j):=⟨fun a b h=>Ap _ _ h,fun a b c e d=>Aq _ _ _ e d⟩
end
def sv:Yd→Str
 | .str s _=>s
 | _=>""
def kv (a:Yb) (j:Nat):Str:=((a[j]?).map sv).getD ""
theorem nh {a:Yb} {i:Nat} (b:i<a.length) (x:Yd) (j:Nat):kv (a.set i x) j=if j=i then sv x else kv a j:=by
 unfold kv
 rw [List.getElem?_set]
 by_cases e:i=j
 ·subst e
  rw [if_pos rfl,if_pos b,if_pos rfl];rfl
 ·rw [if_neg e,if_neg (Ne.symm e)]
theorem s1 {a:Yb} {i:Nat} {y:Str} {t:Nat} (h:a[i]? = some (.str y t)):kv a i=y:=by
 unfold kv;rw [h];rfl
def Hp (vs:Yb):Prop:=∀j,0<j→j<vs.length→c9 (kv vs j) (kv vs ((j-1) / 2))=false
def iZ (a:Yb) (i:Nat):Prop:=∀j,0<j→j<a.length→j≠i→(j-1) / 2≠i→c9 (kv a j) (kv a ((j-1) / 2))=false
def s5 (a:Yb) (i:Nat) (x:Str):Prop:=∀c,0<c→c<a.length→(c-1) / 2=i→c9 (kv a c) x=false
theorem iZ.set {a:Yb} {i:Nat} (h:iZ a i) (e:i<a.length) (x:Yd):iZ (a.set i x) i:=fun j f d c b=>by
 rw [List.length_set] at d
 rw [nh e,nh e,if_neg c,if_neg b]
 exact h j f d c b
theorem Ar {b:Yb} {i c:Nat} (j:i<b.length) (h:c<b.length) (a:i≠c) {v:Yd} (m:b[c]? = some v) (X:Yd):((b.set i v).set c X).Perm (b.set i X):=by
 have p:=swapIB_perm (b.set i X).toArray i c
 have q:=Array.perm_iff_toList_perm.mp p
 have e:((b.set i X).toArray.swapIfInBounds i c).toList=(b.set i v).set c X:=by
  refine List.ext_getElem? fun k => ?_
  rw [Array.getElem?_toList,getElem?_swapIB (by simpa using j) (by simpa using h)]
  simp only [List.getElem?_toArray,List.getElem?_set,List.length_set]
  by_cases d:k=c
  ·subst d
   simp [j,h,a,Ne.symm a]
  ·by_cases g:k=i
   ·subst g
    have f:b[c]=v:=(List.getElem?_eq_some_iff.mp m).2
    simp [j,h,d,Ne.symm d,f,a,Ne.symm a]
   ·simp [d,g,Ne.symm d,Ne.symm g]
 rw [e] at q
 exact q
theorem As (x:Str) (t:Nat):∀(n i:Nat) (a:Yb) (k:Int) (y:Str),i≤n→i<a.length→bk a→iZ a i→s5 a i x→(0<i→s5 a i (kv a ((i-1) / 2)))→
  Hp ((dM n a i x k y).1.set (dM n a i x k y).2.1 (.str x t))∧((dM n a i x k y).1.set (dM n a i x k y).2.1 (.str x t)).Perm (a.set i (.str x t)):=by
 have o:∀(i:Nat) (a:Yb),i<a.length→iZ a i→s5 a i x→(0<i→c9 x (kv a ((i-1) / 2))=false)→Hp (a.set i (.str x t)):=fun i a E f u G j I b=>by
  rw [List.length_set] at b
  rw [nh E,nh E]
  by_cases p:j=i
  ·subst p
   rw [if_pos rfl,if_neg (by lia)]
   exact G I
  ·rw [if_neg p]
   by_cases d:(j-1) / 2=i
   ·rw [if_pos d]
    exact u j I b d
   ·rw [if_neg d]
    exact f j I b p d
 intro n
 induction n with
 | zero=>
  intro i a k y E b H f u _
  have:i=0:=by lia
  subst this
  exact ⟨o 0 a b f u fun h=>absurd h (by lia),List.Perm.refl _⟩
 | succ n R=>
  intro i a k y E b H f u G
  cases i with
  | zero=>exact ⟨o 0 a b f u fun h=>absurd h (by lia),List.Perm.refl _⟩
  | succ j=>
   obtain ⟨g,N,e⟩:=H.get (i:=j / 2) (by lia)
   have D:=s1 e
   unfold dM
   simp only [e]
   by_cases hx:x.cps.toList<g.cps.toList
   ·rw [if_pos hx]
    have C:c9 x g=true:=decide_eq_true hx
    have P:j+1≠j / 2:=by lia
    have J:(j+1-1) / 2=j / 2:=by rw [Nat.add_sub_cancel]
    have z:∀m,kv (a.set (j+1) (.str g N)) m=if m=j+1 then g else kv a m:=fun m=>nh b _ m
    have w:∀c,0<c→c<a.length→(c-1) / 2=j / 2→c9 (kv a c) g=false∨c=j+1:=fun c B q A=>by
     by_cases s:c=j+1
     ·exact .inr s
     ·refine .inl ?_
      have:=f c B q s (by lia)
      rw [A,D] at this
      exact this
    obtain ⟨q1,q2⟩:=R (j / 2) (a.set (j+1) (.str g N)) ((j / 2:Nat):Int) g (by lia) (by rw [List.length_set];lia) (H.set _ _ _) (fun m L F S Q=>by
      rw [List.length_set] at F
      rw [z,z]
      by_cases p:m=j+1
      ·exfalso;subst p;exact Q J
      ·rw [if_neg p]
       by_cases d:(m-1) / 2=j+1
       ·rw [if_pos d]
        have:=G (by lia) m L F d
        rw [J,D] at this
        exact this
       ·rw [if_neg d]
        exact f m L F p d) (fun c B q A=>by
      rw [List.length_set] at q
      rw [z]
      split
      ·exact ng C
      ·rename_i s
       rcases w c B q A with h | h
       ·exact sZ (ng C) h
       ·exact absurd h s) (fun O c B q A=>by
      rw [List.length_set] at q
      have K:c9 g (kv a ((j / 2-1) / 2))=false:=by
       have:=f (j / 2) O (by lia) (by lia) (by lia)
       rw [D] at this
       exact this
      rw [z,z,if_neg (show (j / 2-1) / 2≠j+1 by lia)]
      split
      ·exact K
      ·rename_i s
       rcases w c B q A with h | h
       ·exact sZ K h
       ·exact absurd h s)
    exact ⟨q1,q2.trans (Ar b (by lia) P e _)⟩
   ·rw [if_neg hx]
    refine ⟨o (j+1) a b f u fun _ => ?_,List.Perm.refl _⟩
    rw [Nat.add_sub_cancel,D]
    exact decide_eq_false hx
theorem Hv:∀(n i:Nat) (a:Yb) (r:Int),a.length≤i+n→i<a.length→bk a→iZ a i→(0<i→s5 a i (kv a ((i-1) / 2)))→
  iZ (bV n a i r).1 (bV n a i r).2.1∧(bV n a i r).1.length=a.length∧a.length≤2*(bV n a i r).2.1+1∧(bV n a i r).2.1<a.length∧(0<(bV n a i r).2.1→i<(bV n a i r).2.1∨(bV n a i r).2.1=i)∧∀X,((bV n a i r).1.set (bV n a i r).2.1 X).Perm (a.set i X):=by
 intro n
 induction n with
 | zero=>intro i a r L w _ _ _;lia
 | succ n N=>
  intro i a r L w D B O
  unfold bV
  by_cases g:2*i+1<a.length
  ·rw [if_pos g]
   obtain ⟨y,t,o⟩:=D.get g
   have C:=s1 o
   have b:∀(c:Nat) (z:Str) (u:Nat),c<a.length→(c=2*i+1∨c=2*i+2)→a[c]? = some (.str z u)→(∀d,d<a.length→(d=2*i+1∨d=2*i+2)→c9 (kv a d) z=false)→
     iZ (bV n (a.set i (.str z u)) c ((2*i+2:Nat):Int)).1 (bV n (a.set i (.str z u)) c ((2*i+2:Nat):Int)).2.1∧(bV n (a.set i (.str z u)) c ((2*i+2:Nat):Int)).1.length=a.length∧a.length≤2*(bV n (a.set i (.str z u)) c ((2*i+2:Nat):Int)).2.1+1∧(bV n (a.set i (.str z u)) c ((2*i+2:Nat):Int)).2.1<a.length∧(0<(bV n (a.set i (.str z u)) c ((2*i+2:Nat):Int)).2.1→i<(bV n (a.set i (.str z u)) c ((2*i+2:Nat):Int)).2.1∨(bV n (a.set i (.str z u)) c ((2*i+2:Nat):Int)).2.1=i)∧∀X,((bV n (a.set i (.str z u)) c ((2*i+2:Nat):Int)).1.set (bV n (a.set i (.str z u)) c ((2*i+2:Nat):Int)).2.1 X).Perm (a.set i X):=by
    intro c z u f J e q
    have p:=s1 e
    have s:∀m,kv (a.set i (.str z u)) m=if m=i then z else kv a m:=fun m=>nh w _ m
    obtain ⟨q1,q2,q3,G,K,I⟩:=N c (a.set i (.str z u)) ((2*i+2:Nat):Int) (by rw [List.length_set];lia) (by rw [List.length_set];exact f) (D.set _ _ _) (fun j H E R T=>by
      rw [List.length_set] at E
      rw [s,s]
      by_cases A:j=i
      ·subst A
       rw [if_pos rfl,if_neg (by lia)]
       have:=O H c (by lia) f (by lia)
       rw [p] at this
       exact this
      ·rw [if_neg A]
       by_cases x:(j-1) / 2=i
       ·rw [if_pos x]
        exact q j E (by lia)
       ·rw [if_neg x]
        exact B j H E A x) (fun S d P dl Q=>by
      rw [List.length_set] at dl
      rw [s,s,if_neg (by lia),if_pos (by lia)]
      have:=B d P dl (by lia) (by lia)
      rw [Q,p] at this
      exact this)
    rw [List.length_set] at q2 q3 G
    refine ⟨q1,q2,q3,G,fun h=>.inl ?_,fun X=>(I X).trans (Ar w f (by lia) e X)⟩
    rcases K h with h | h
    ·lia
    ·lia
   by_cases F:2*i+2<a.length
   ·obtain ⟨z,u,e⟩:=D.get F
    have p:=s1 e
    simp only [o,e]
    by_cases hx:y.cps.toList<z.cps.toList
    ·rw [if_pos hx]
     refine b (2*i+1) y t g (.inl rfl) o fun d dl k => ?_
     rcases k with rfl | rfl
     ·rw [C];exact jC y
     ·rw [p];exact ng (decide_eq_true hx)
    ·rw [if_neg hx]
     refine b (2*i+2) z u F (.inr rfl) e fun d dl k => ?_
     rcases k with rfl | rfl
     ·rw [C];exact decide_eq_false hx
     ·rw [p];exact jC z
   ·have e:a[2*i+2]? = none:=List.getElem?_eq_none (by lia)
    simp only [o,e]
    refine b (2*i+1) y t g (.inl rfl) o fun d dl k => ?_
    rcases k with rfl | rfl
    ·rw [C];exact jC y
    ·lia
  ·rw [if_neg g]
   exact ⟨B,rfl,by show a.length≤2*i+1;lia,w,fun _=>.inr rfl,fun X=>List.Perm.refl _⟩
theorem Hw {a:Yb} (h:Hp a):∀j,j<a.length→c9 (kv a j) (kv a 0)=false:=by
 intro j
 induction j using Nat.strongRecOn with
 | ind j c=>
  intro b
  by_cases d:j=0
  ·subst d;exact jC _
  ·exact sZ (c ((j-1) / 2) (by lia) (by lia)) (h j (by lia) b)
theorem Hx {a:Yb} (h:Hp a) (m:bk a) (n:a.length≤90) (x:Str) (t:Nat):Hp (jB 100 (a++[.str x t]) a.length x t)∧(jB 100 (a++[.str x t]) a.length x t).Perm (a++[.str x t]):=by
 have d:bk (a++[.str x t]):=fun v b=>by
  rcases List.mem_append.mp b with b | b
  ·exact m v b
  ·exact ⟨x,t,by simpa using b⟩
 have p:(a++[Value.str x t]).length=a.length+1:=by simp
 have f:∀j,j<a.length→kv (a++[Value.str x t]) j=kv a j:=fun j k=>by unfold kv;rw [List.getElem?_append_left k]
 have q:=As x t 100 a.length (a++[.str x t]) 0 "" (by lia) (by lia) d (fun j e g o _=>by
  rw [f j (by lia),f ((j-1) / 2) (by lia)]
  exact h j e (by lia)) (fun c e g i=>by lia) (fun _ c e g i=>by lia)
 refine ⟨q.1,q.2.trans ?_⟩
 have:(a++[Value.str x t]).set a.length (.str x t)=a++[.str x t]:=by simp
 rw [this]
theorem Au {vs:Yb} (h:iZ vs 0) (f:bk vs) (o:0<vs.length) (s:vs.length≤100) {x:Str} {t:Nat} (hx:vs[0]? = some (.str x t)):Hp (fR 100 vs x t)∧(fR 100 vs x t).Perm vs:=by
 obtain ⟨q1,q2,q3,d,q,i⟩:=Hv (100+1) 0 vs 0 (by lia) o f h (fun h=>absurd h (Nat.lt_irrefl _))
 have m:(bV (100+1) vs 0 0).2.1<(bV (100+1) vs 0 0).1.length:=by rw [q2];exact d
 have a:(fQ 100 vs x t).length=vs.length:=by unfold fQ;rw [List.length_set,q2]
 have j:bk (fQ 100 vs x t):=(py _ _ _ _ f).set _ _ _
 have r:=As x t 100 (bV (100+1) vs 0 0).2.1 (fQ 100 vs x t) 0 "" (by lia) (by rw [a];exact d) j (by unfold fQ;exact q1.set m _) (fun c n b k=>by rw [a] at b;lia) (fun _ c n b k=>by rw [a] at b;lia)
 refine ⟨r.1,r.2.trans ?_⟩
 have e:(fQ 100 vs x t).set (bV (100+1) vs 0 0).2.1 (.str x t)=fQ 100 vs x t:=by unfold fQ;rw [List.set_set]
 rw [e]
 have p:=i (.str x t)
 have g:vs.set 0 (.str x t)=vs:=by
  cases vs with
  | nil=>cases hx
  | cons v r=>cases hx;rfl
 rw [g] at p
 exact p
theorem Hy {b c:Bool} {w:Yc} {m d:Nat} {x:Str} {a:Yb} (e:0<a.length) (f:a.length≤100):(fd 0 (bV (d+1) a 0 0).1 (((bV (d+1) a 0 0).2.1:Nat):Int) x).Sure (B0 (W b c w)) m:=
 have h:=vw (d+1) a 0 0 e
 gz (by lia) (by have:=h.2;lia) (by rw [h.1];have:=h.2;lia)
theorem Hz {b c:Bool} {w:Yc} {d:Nat} {x:Str} {f:Nat} {a:Yb} (j:0<a.length) (g:a.length≤100) (i:bk a):(px 100 (bV (d+1) a 0 0).2.1 x f (fQ d a x f) 0).Sure (B0 (W b c w)) 2:=
 have h:=vw (d+1) a 0 0 j
 have e:(fQ d a x f).length=a.length:=by unfold fQ;rw [List.length_set,h.1]
 vv (by have:=h.2;lia) (by rw [e];exact h.2) (by rw [e];exact g) ((py _ _ _ _ i).set _ _ _) (by unfold fQ;rw [List.getElem?_set_self (by rw [h.1];exact h.2)]) (by decide)
section
theorem HA (b c:Bool) (w:Yc) (d:Nat) (x:Str) (e:Nat) (a:Yb) (j:1<a.length) (i:a.length≤d+1) (g:a.length≤100) (h:bk a) (hx:a[0]? = some (.str x e)) (p:af):aC (B0 (W b c w)) 3 (.call (.ref 135) ⟨[.ref (p 1 0),.int 0 (p 0 1)],[]⟩) [(p 1 0,ab a (p 1 1))] (fun k=>(.ret .none,[ab (fR d a x e) (k 0)],[])):=
 aA (orcs:=[uS 0 a ((a.length:Nat):Int),cN 0 a 0 (.str x e),Ag w d x a 0 1,fd 0 (bV (d+1) a 0 0).1 ((bV (d+1) a 0 0).2.1:Int) x,px 100 (bV (d+1) a 0 0).2.1 x e (fQ d a x e) 0]) (aa (y9 rfl (by lia)) (aa (cU (by lia) (by lia) hx) (aa (Hn (by decide) i g h j (by decide)) (aa (Hy (by lia) g) (aa (Hz (by lia) g h) aq))))) 108 5 [0,0,2,1,2,1,0,0,0,0,2,2,2,1,2,2,1,2,2,1,1,1,3,2,1,2,0,0,62,0,0,16,2,1,4,2,2,2,1,1,5,0,2,2,2,0,6] [0] (fun n m f=>aB [(f 4).2.2 0])
theorem HB (b c:Bool) (w:Yc) (x:Str) (a:Nat) (p:af):aC (B0 (W b c w)) 3 (.call (.ref 135) ⟨[.ref (p 1 0),.int 0 (p 0 1)],[]⟩) [(p 1 0,ab [.str x a] (p 1 1))] (fun e=>(.ret .none,[ab [.str x a] (e 0)],[])):=
 aA (orcs:=[Ah w x [.str x a] 0 1,px 100 0 x a [.str x a] 0]) (aa (Ho (by decide) (by simp) (by decide)) (aa (vv (by decide) (by simp) (by simp) (by intro v d;exact ⟨x,a,by simpa using d⟩) rfl (by decide)) aq)) 129 2 [0,0,2,1,2,1,0,0,0,0,2,0,0,11,1,0,1,0,60,1,2,1,2,2,1,2,2,1,1,1,0,1,0,54,1,2,1,2,0,0,62,0,0,16,2,1,2,2,2,2,1,1,0,1,0,59,1,1,0,0,2,2,2,0,3] [0] (fun n g f=>aB [(f 1).2.2 0])
end
section
variable {B:bf} {m:Nat}
theorem HC {x y z:Int} (e:x-y=z):(i2 "int.__sub__" x y fun a=>.int z (a 0)).Sure B m:=
 lk F.slot_int_sub F.entry_int_sub (fun _=>F.args_int_sub_2 _ _) (fun _=>AutoIntG9.int___sub___int_int_0 _ _ _ _) fun _ s _ h=>by rw [e];exact h (fun _=>s.toks) (s.toks+1)
end
section
def vE (n:Nat) (x:Str) (c:Nat) (a:Yb) (d:Nat):aH:=bA (fun p=>.call (.ref 135) ⟨[.ref (p 1 0),.int 0 (p 0 1)],[]⟩) [d] (fun p=>[(p 1 0,ab a (p 1 1))]) (fun p b=>(.ret .none,[ab (fR n a x c) (b 0)],[]))
theorem Av {b c:Bool} {w:Yc} {m n:Nat} {x:Str} {d:Nat} {a:Yb} {k:Nat} (g:0<a.length) (i:a.length≤n+1) (f:a.length≤100) (j:bk a) (hx:a[0]? = some (.str x d)) (o:3≤m):(vE n x d a k).Sure (B0 (W b c w)) m:=by
 refine (bS (by simp) fun p => ?_:aH.Sure (B0 (W b c w)) 3 _).le o
 by_cases h:1<a.length
 ·exact HA b c w n x d a h i f j hx p
 ·match a,g,hx,h with
  | [v],_,hx,_=>
   have e:v = .str x d:=by simpa using hx
   subst e
   have e:fR n [.str x d] x d=[.str x d]:=by
    unfold fR fQ
    cases n <;> rfl
   rw [e]
   exact HB b c w x d p
  | _::_::_,_,_,h=>exact absurd (by simp) h
end
theorem bk.app {b:Yb} (h:bk b) (y:Str) (t:Nat):bk (b++[.str y t]):=fun v a=>by
 rcases List.mem_append.mp a with a | a
 ·exact h v a
 ·exact ⟨y,t,by simpa using a⟩
theorem bk.cons {vs:Yb} (h:bk vs) (y:Str) (t:Nat):bk (.str y t::vs):=fun v a=>by
 rcases List.mem_cons.mp a with rfl | a
 ·exact ⟨y,t,rfl⟩
 ·exact h v a
section
theorem HD (b c:Bool) (w:Yc) (x:Str) (a:Yb) (g:a.length≤90) (e:bk a) (p:af):aC (B0 (W b c w)) 3 (.call (.ref 107) ⟨[.ref (p 1 0),.str x (p 0 1)],[]⟩) [(p 1 0,ab a (p 1 1))] (fun d=>(.ret .none,[ab (jB 100 (a++[.str x (p 0 1)]) a.length x (p 0 1)) (d 0)],[])):=
 aA (orcs:=[f3 0 a x,uS 0 (a++[.str x (p 0 1)]) ((a.length+1:Nat):Int),i2 "int.__sub__" ((a.length+1:Nat):Int) 1 fun d=>.int ((a.length:Nat):Int) (d 0),px 100 a.length x (p 0 1) (a++[.str x (p 0 1)]) 0]) (aa (gA (by lia)) (aa (y9 (by simp) (by simp;lia)) (aa (HC (by lia)) (aa (vv (by lia) (by simp) (by simp;lia) (e.app _ _) (by simp) (by decide)) aq)))) 52 4 [0,0,2,1,2,1,0,0,2,1,1,1,1,2,2,0,2,0,0,2,3,4,0,5] [0] (fun n h f=>aB [(f 3).2.2 0])
theorem HE (b c:Bool) (w:Yc) (x z:Str) (d e:Nat) (a:Yb) (i:a.length≤90) (h:bk a) (p:af):aC (B0 (W b c w)) 4 (.call (.ref 114) ⟨[.ref (p 1 0)],[]⟩) [(p 1 0,ab ((.str x d::a)++[.str z e]) (p 1 1))] (fun g=>(.ret (.str x d),[ab (fR 100 (.str z e::a) z e) (g 0)],[])):=
 aA (orcs:=[uR 0 (.str x d::a) (.str z e),o8 0 (.str x d::a) ((a.length+1:Nat):Int),cN 0 (.str x d::a) 0 (.str x d),fd 0 (.str x d::a) 0 z,vE 100 z e (.str z e::a) 0]) (aa (y8 (by simp;lia)) (aa (za (by simp) (by simp;lia)) (aa (cU (by lia) (by lia) rfl) (aa (gz (by lia) (by lia) (by simp)) (aa (Av (by simp) (by simp;lia) (by simp;lia) (h.cons _ _) rfl (by decide)) aq))))) 78 5 [0,0,2,1,0,0,2,1,1,1,1,2,2,1,2,1,1,3,2,1,1,1,4,2,1,2,2,1,1,5,0,2,0,6,2] [0] (fun n j f=>aB [(f 4).2.2 0])
theorem HF (b c:Bool) (w:Yc) (z:Str) (a:Nat) (p:af):aC (B0 (W b c w)) 4 (.call (.ref 114) ⟨[.ref (p 1 0)],[]⟩) [(p 1 0,ab [.str z a] (p 1 1))] (fun d=>(.ret (.str z a),[ab [] (d 0)],[])):=
 aA (orcs:=[uR 0 [] (.str z a),o8 0 [] 0]) (aa (y8 (by simp)) (aa (za rfl (by simp)) aq)) 42 2 [0,0,2,1,0,0,2,1,1,1,1,2,2,1,2,1,1,3,2] [0] (fun n e f=>aB [(f 0).2.2 1])
theorem HG (b c:Bool) (w:Yc) (x y:Str) (d:Nat) (a:Yb) (h:a.length≤90) (g:bk a) (p:af):aC (B0 (W b c w)) 4 (.call (.ref 121) ⟨[.ref (p 1 0),.str y (p 0 1)],[]⟩) [(p 1 0,ab (.str x d::a) (p 1 1))] (fun e=>(.ret (.str x d),[ab (fR 100 (.str y (p 0 1)::a) y (p 0 1)) (e 0)],[])):=
 aA (orcs:=[cN 0 (.str x d::a) 0 (.str x d),fd 0 (.str x d::a) 0 y,vE 100 y (p 0 1) (.str y (p 0 1)::a) 0]) (aa (cU (by lia) (by lia) rfl) (aa (gz (by lia) (by lia) (by simp)) (aa (Av (by simp) (by simp;lia) (by simp;lia) (g.cons _ _) rfl (by decide)) aq))) 56 3 [0,0,2,1,2,1,0,0,2,1,1,1,2,2,1,2,2,1,1,3,0,2,0,4,2] [0] (fun n i f=>aB [(f 2).2.2 0])
end
section
def dP:Yb→Yd
 | []=>.none
 | v::_=>v
def dC:Yb→Yb
 | []=>[]
 | [_]=>[]
 | _::y::r=>let z:=(y::r).getLast (by simp);fR 100 (z::(y::r).dropLast) (sv z) (tv z)
where tv:Yd→Nat
 | .str _ t=>t
 | _=>0
def i0 (a:Yb) (x:Str) (t:Nat):Yb:=jB 100 (a++[.str x t]) a.length x t
def cL:Yb→Str→Nat→Yb
 | [],_,_=>[]
 | _::r,y,t=>fR 100 (.str y t::r) y t
def Aw (L:Yb) (j:Nat):aH:=bA (fun p=>.call (.ref 114) ⟨[.ref (p 1 0)],[]⟩) [j] (fun p=>[(p 1 0,ab L (p 1 1))]) (fun p a=>(.ret (dP L),[ab (dC L) (a 0)],[]))
theorem HH {b c:Bool} {w:Yc} {m:Nat} {L:Yb} {j:Nat} (k:0<L.length) (g:L.length≤90) (a:bk L) (A:4≤m):(Aw L j).Sure (B0 (W b c w)) m:=by
 refine (bS (by simp) fun p => ?_:aH.Sure (B0 (W b c w)) 4 _).le A
 match L,k,g,a with
 | [v],_,_,a=>
  obtain ⟨y,t,rfl⟩:=a v (.head _)
  exact HF b c w y t p
 | v::y::r,_,g,a=>
  obtain ⟨x,d,rfl⟩:=a v (.head _)
  have e:y::r=(y::r).dropLast++[(y::r).getLast (by simp)]:=(List.dropLast_concat_getLast (by simp)).symm
  obtain ⟨z,f,i⟩:=a ((y::r).getLast (by simp)) (.tail _ (List.getLast_mem _))
  have h:bk ((y::r).dropLast):=fun u B=>a u (.tail _ (List.dropLast_subset _ B))
  have o:((y::r).dropLast).length≤90:=by
   rw [List.length_dropLast]
   simp only [List.length_cons] at g ⊢
   lia
  have q:=HE b c w x z d f ((y::r).dropLast) o h p
  have s:Value.str x d::y::r=Value.str x d::(y::r).dropLast++[.str z f]:=by
   rw [List.cons_append,←i,←e]
  have n:dC (.str x d::y::r)=fR 100 (.str z f::(y::r).dropLast) z f:=by
   show fR 100 ((y::r).getLast (by simp)::(y::r).dropLast) (sv ((y::r).getLast (by simp))) (dC.tv ((y::r).getLast (by simp)))=_
   rw [i];rfl
  rw [n]
  show aC _ _ _ [(p 1 0,ab (Value.str x d::y::r) (p 1 1))] _
  rw [s]
  exact q
def Ax (L:Yb) (x:Str) (j:Nat):aH:=bA (fun p=>.call (.ref 107) ⟨[.ref (p 1 0),.str x (p 0 1)],[]⟩) [j] (fun p=>[(p 1 0,ab L (p 1 1))]) (fun p a=>(.ret .none,[ab (i0 L x (p 0 1)) (a 0)],[]))
theorem HI {b c:Bool} {w:Yc} {m:Nat} {L:Yb} {x:Str} {j:Nat} (a:L.length≤90) (e:bk L) (d:3≤m):(Ax L x j).Sure (B0 (W b c w)) m:=
 (bS (by simp) fun p=>HD b c w x L a e p:aH.Sure (B0 (W b c w)) 3 _).le d
def Ay (L:Yb) (y:Str) (j:Nat):aH:=bA (fun p=>.call (.ref 121) ⟨[.ref (p 1 0),.str y (p 0 1)],[]⟩) [j] (fun p=>[(p 1 0,ab L (p 1 1))]) (fun p a=>(.ret (dP L),[ab (cL L y (p 0 1)) (a 0)],[]))
theorem HJ {b c:Bool} {w:Yc} {m:Nat} {L:Yb} {y:Str} {j:Nat} (h:0<L.length) (d:L.length≤90) (a:bk L) (e:4≤m):(Ay L y j).Sure (B0 (W b c w)) m:=by
 refine (bS (by simp) fun p => ?_:aH.Sure (B0 (W b c w)) 4 _).le e
 match L,h,d,a with
 | v::r,_,d,a=>
  obtain ⟨x,g,rfl⟩:=a v (.head _)
  exact HG b c w x y g r (by simp only [List.length_cons] at d;lia) (fun u f=>a u (.tail _ f)) p
end
def ls (l:Yg):Prop:=l.Pairwise fun a b=>c9 b a=false
theorem Az:∀{l r:Yg},ls l→ls r→l.Perm r→l=r
 | [],r,_,_,p=>(List.nil_perm.mp p).symm
 | x::l,[],_,_,p=>absurd (List.perm_nil.mp p) (by simp)
 | x::l,y::r,hl,hr,p=>by
  have hx:x∈y::r:=p.mem_iff.mp (.head _)
  have a:y∈x::l:=p.mem_iff.mpr (.head _)
  have c:c9 y x=false:=by
   rcases List.mem_cons.mp a with e | h
   ·rw [e];exact jC x
   ·exact (List.pairwise_cons.mp hl).1 y h
  have b:c9 x y=false:=by
   rcases List.mem_cons.mp hx with e | h
   ·rw [e];exact jC y
   ·exact (List.pairwise_cons.mp hr).1 x h
  have e:x=y:=s0 b c
  subst e
  rw [Az (List.pairwise_cons.mp hl).2 (List.pairwise_cons.mp hr).2 (List.Perm.cons_inv p)]
theorem HK (v:Yd) (r:Yb):kv (v::r) 0=sv v:=rfl
theorem AA {v:Yd} {r:Yb} (h:Hp (v::r)):∀u∈r,c9 (sv u) (sv v)=false:=fun u b=>by
 obtain ⟨i,a,e⟩:=List.getElem_of_mem b
 have:=Hw h (i+1) (by simp;exact a)
 rw [HK] at this
 have k:kv (v::r) (i+1)=sv u:=by
  unfold kv
  show ((r[i]?).map sv).getD "" = sv u
  rw [List.getElem?_eq_getElem a,e];rfl
 rw [k] at this
 exact this
theorem AB {v:Yd} {r:Yb} (h:Hp (v::r)) (x:Yd):iZ (x::r) 0:=fun j b c e d=>by
 have a:∀k,0<k→kv (x::r) k=kv (v::r) k:=fun k f=>by
  cases k with
  | zero=>lia
  | succ k=>rfl
 rw [a j b,a _ (by lia)]
 exact h j b (by simpa using c)
theorem HL {l:Yb} {z:Yd} (h:Hp (l++[z])):Hp l:=fun j b d=>by
 have a:∀k,k<l.length→kv (l++[z]) k=kv l k:=fun k c=>by unfold kv;rw [List.getElem?_append_left c]
 have:=h j b (by simp;lia)
 rw [a j d,a _ (by lia)] at this
 exact this
theorem HM {l r:Yb} (h:bk r) (p:l.Perm r):bk l:=fun v a=>h v (p.mem_iff.mp a)
theorem vF {L:Yb} (h:Hp L) (c:bk L) (m:0<L.length) (d:L.length≤90):Hp (dC L)∧(dP L::dC L).Perm L:=by
 match L,h,c,m,d with
 | [v],_,_,_,_=>exact ⟨fun j _ f=>absurd f (Nat.not_lt_zero _),List.Perm.refl _⟩
 | v::y::r,h,c,_,d=>
  have e:(y::r).dropLast++[(y::r).getLast (by simp)]=y::r:=List.dropLast_concat_getLast (by simp)
  obtain ⟨z,a,b⟩:=c ((y::r).getLast (by simp)) (.tail _ (List.getLast_mem _))
  have i:Hp (v::(y::r).dropLast):=by
   refine HL (z:=.str z a) ?_
   rw [List.cons_append,←b,e]
   exact h
  have f:(.str z a::(y::r).dropLast).length≤100:=by
   simp only [List.length_cons,List.length_dropLast] at d ⊢
   lia
  have q:=Au (vs:=.str z a::(y::r).dropLast) (AB i _) (fun u g=>by
   rcases List.mem_cons.mp g with rfl | g
   ·exact ⟨z,a,rfl⟩
   ·exact c u (.tail _ (List.dropLast_subset _ g))) (by simp) f rfl
  have k:dC (v::y::r)=fR 100 (.str z a::(y::r).dropLast) z a:=by
   show fR 100 ((y::r).getLast (by simp)::(y::r).dropLast) (sv ((y::r).getLast (by simp))) (dC.tv ((y::r).getLast (by simp)))=_
   rw [b];rfl
  rw [k]
  refine ⟨q.1,?_⟩
  show (v::fR 100 _ z a).Perm (v::y::r)
  refine List.Perm.cons v (q.2.trans ?_)
  have p:(Value.str z a::(y::r).dropLast).Perm ((y::r).dropLast++[.str z a]):=(List.perm_append_singleton _ _).symm
  rw [←b,e] at p
  rw [←b]
  exact p
def fS:Nat→Yb→Yb
 | 0,_=>[]
 | n+1,L=>dP L::fS n (dC L)
def fU:Nat→Yb→Yb
 | 0,L=>L
 | n+1,L=>fU n (dC L)
theorem vG:∀(n:Nat) (L:Yb),L.length=n→Hp L→bk L→n≤90→(fS n L).Perm L∧ls ((fS n L).map sv)∧fU n L=[]
 | 0,L,d,_,_,_=>by
  have:L=[]:=List.length_eq_zero_iff.mp d
  subst this
  exact ⟨List.Perm.refl _,List.Pairwise.nil,rfl⟩
 | n+1,L,d,h,f,q=>by
  obtain ⟨q1,q2⟩:=vF h f (by lia) (by lia)
  have j:(dC L).length=n:=by
   have:=q2.length_eq
   simp only [List.length_cons] at this
   lia
  have o:bk (dC L):=fun v k=>f v (q2.mem_iff.mp (.tail _ k))
  obtain ⟨g,p,i⟩:=vG n (dC L) j q1 o (by lia)
  refine ⟨(g.cons _).trans q2,?_,i⟩
  show ls (sv (dP L)::(fS n (dC L)).map sv)
  refine List.pairwise_cons.mpr ⟨fun b e => ?_,p⟩
  obtain ⟨u,m,rfl⟩:=List.mem_map.mp e
  have c:u∈dC L:=g.mem_iff.mp m
  match L,h,d,q2,c with
  | [],_,d,_,_=>simp at d
  | v::r,h,_,q2,c=>
   have:u∈r:=(List.Perm.cons_inv (a:=v) q2).mem_iff.mp c
   exact AA h u this
theorem HN {v:Yd} {r:Yb} (h:Hp (v::r)) (c:bk (v::r)) (b:(v::r).length≤90) (y:Str) (t:Nat):Hp (cL (v::r) y t)∧(cL (v::r) y t).Perm (.str y t::r):=
 Au (AB h _) (fun u a=>by
  rcases List.mem_cons.mp a with rfl | a
  ·exact ⟨y,t,rfl⟩
  ·exact c u (.tail _ a)) (by simp) (by simp only [List.length_cons] at b ⊢;lia) rfl
theorem HO {H:Yb} {P:Yg} (h:Hp H) (m:bk H) (k:H.length≤90) (g:(H.map sv).Perm P) (s:P≠[]) {c:Yg} (j:ls c) (f:c.Perm P) {y:Str} (D:∀x∈P,c9 y x=false) (t:Nat) :
  sv (dP H)=c.headD ""∧((fS H.length (cL H y t)).map sv)=c.tail++[y]∧fU H.length (cL H y t)=[]∧bk (cL H y t)∧(cL H y t).length=H.length∧Hp (cL H y t):=by
 match H,h,m,k,g with
 | [],_,_,_,g=>
  exact absurd (List.nil_perm.mp (by simpa using g)) s
 | v::r,h,m,k,g=>
  match c,j,f with
  | [],_,f=>exact absurd (List.nil_perm.mp f) s
  | d::ds,j,f=>
   have e:sv v=d:=by
    refine s0 ?_ ?_
    ·have i:sv v∈d::ds:=(f.trans g.symm).mem_iff.mpr (.head _)
     rcases List.mem_cons.mp i with e | i
     ·rw [e];exact jC _
     ·exact (List.pairwise_cons.mp j).1 _ i
    ·have i:d∈sv v::r.map sv:=(g.trans f.symm).mem_iff.mpr (.head _)
     rcases List.mem_cons.mp i with e | i
     ·rw [e];exact jC _
     ·obtain ⟨u,o,rfl⟩:=List.mem_map.mp i
      exact AA h u o
   obtain ⟨q1,q2⟩:=HN h m k y t
   have q:bk (cL (v::r) y t):=fun u o=>by
    rcases List.mem_cons.mp (q2.mem_iff.mp o) with rfl | A
    ·exact ⟨y,t,rfl⟩
    ·exact m u (.tail _ A)
   have p:(cL (v::r) y t).length=(v::r).length:=q2.length_eq
   obtain ⟨E,F,z⟩:=vG (v::r).length (cL (v::r) y t) p q1 q k
   refine ⟨e,?_,z,q,p,q1⟩
   have w:(r.map sv).Perm ds:=by
    have:(sv v::r.map sv).Perm (d::ds):=g.trans f.symm
    rw [e] at this
    exact List.Perm.cons_inv this
   refine Az F (List.pairwise_append.mpr ⟨(List.pairwise_cons.mp j).2,List.pairwise_singleton _ _,fun a B b n => ?_⟩) ?_
   ·have:b=y:=by simpa using n
    subst this
    exact D a (f.mem_iff.mp (.tail _ B))
   ·have C:=(E.trans q2).map sv
    refine C.trans ?_
    show (y::r.map sv).Perm (ds++[y])
    exact (w.cons y).trans (List.perm_append_singleton _ _).symm
section
open PySem PySem.W PySem.W.X PyProof.Rows Srt
theorem vH:∀(b a:Yg),aP b a=false→aP a b=false→b=a
 | [],[],_,_=>rfl
 | [],y::a,h,_=>by rw [mU] at h;simp at h
 | x::b,[],_,h=>by rw [mU] at h;simp at h
 | x::b,y::a,h1,h2=>by
  rw [ku] at h1 h2
  by_cases e:x=y
  ·subst e
   rw [if_pos rfl] at h1 h2
   rw [vH b a h1 h2]
  ·rw [if_neg e] at h1
   rw [if_neg (Ne.symm e)] at h2
   exact absurd (s0 h1 h2) e
def Tl (s:Yh):Prop:=s=[]∨∃t,s=47::t
theorem s6:∀(a b s t:Yh),(∀x∈a,47<x)→(∀x∈b,47<x)→Tl s→a<b→a++s<b++t
 | [],[],_,_,_,_,_,h=>absurd h (List.lt_irrefl _)
 | [],y::b,s,t,_,hb,hs,_=>by
  rcases hs with rfl | ⟨u,rfl⟩
  ·exact List.nil_lt_cons _ _
  ·exact List.cons_lt_cons_iff.mpr (.inl (hb y (.head _)))
 | x::a,[],_,_,_,_,_,h=>absurd h (List.not_lt_nil _)
 | x::a,y::b,s,t,ha,hb,hs,h=>by
  rcases List.cons_lt_cons_iff.mp h with h | ⟨e,h⟩
  ·exact List.cons_lt_cons_iff.mpr (.inl h)
  ·exact List.cons_lt_cons_iff.mpr (.inr ⟨e,s6 a b s t (fun z c=>ha z (.tail _ c)) (fun z c=>hb z (.tail _ c)) hs h⟩)
theorem jD:∀(a s t:Yh),s<t→a++s<a++t
 | [],_,_,h=>h
 | x::a,s,t,h=>List.cons_lt_cons_iff.mpr (.inr ⟨rfl,jD a s t h⟩)
theorem ni:∀a∈aD,∀x∈a.cps.toList,47<x:=by decide +kernel
theorem HQ:∀a∈aD,(a.cps.toList.headD 200)<122:=by decide +kernel
theorem dQ (x y:Str):(x++y).cps.toList=x.cps.toList++y.cps.toList:=by
 show (x.cps++y.cps).toList=_
 exact Array.toList_append
theorem pz:("/" : Str).cps.toList=[47]:=by decide +kernel
theorem lu {x y:Str}:c9 x y=true↔x.cps.toList<y.cps.toList:=decide_eq_true_iff
theorem HR {r i:Yg} (h:cE r) (m:cE i) (l:aP r i=true):c9 (aU r) (aU i)=true:=by
 rw [lu]
 rcases h with ⟨a,g,rfl⟩ | ⟨a,g,d,n,rfl⟩
 ·rcases m with ⟨b,c,rfl⟩ | ⟨b,c,f,j,rfl⟩
  ·rw [ku] at l
   by_cases e:a=b
   ·rw [if_pos e] at l;cases l
   ·rw [if_neg e,lu] at l
    show ("/" ++ a).cps.toList<("/" ++ b).cps.toList
    rw [dQ,dQ]
    exact jD _ _ _ l
  ·rw [ku] at l
   show ("/" ++ a).cps.toList<("/" ++ b++("/" ++ f)).cps.toList
   rw [dQ,dQ,dQ,dQ,pz,List.append_assoc]
   refine jD _ _ _ ?_
   by_cases e:a=b
   ·subst e
    have:=jD a.cps.toList [] ([47]++f.cps.toList) (List.nil_lt_cons _ _)
    rw [List.append_nil] at this
    exact this
   ·rw [if_neg e,lu] at l
    have:=s6 _ _ [] ([47]++f.cps.toList) (ni a g) (ni b c) (.inl rfl) l
    rw [List.append_nil] at this
    exact this
 ·rcases m with ⟨b,c,rfl⟩ | ⟨b,c,f,j,rfl⟩
  ·rw [ku] at l
   by_cases e:a=b
   ·rw [if_pos e] at l;cases l
   ·rw [if_neg e,lu] at l
    show ("/" ++ a++("/" ++ d)).cps.toList<("/" ++ b).cps.toList
    rw [dQ,dQ,dQ,dQ,pz,List.append_assoc]
    refine jD _ _ _ ?_
    have:=s6 _ _ ([47]++d.cps.toList) [] (ni a g) (ni b c) (.inr ⟨_,rfl⟩) l
    rw [List.append_nil] at this
    exact this
  ·rw [ku] at l
   show ("/" ++ a++("/" ++ d)).cps.toList<("/" ++ b++("/" ++ f)).cps.toList
   rw [dQ,dQ,dQ,dQ,dQ,dQ,pz,List.append_assoc,List.append_assoc]
   refine jD _ _ _ ?_
   by_cases e:a=b
   ·subst e
    rw [if_pos rfl,ku] at l
    by_cases k:d=f
    ·rw [if_pos k] at l;cases l
    ·rw [if_neg k,lu] at l
     exact jD _ _ _ (jD _ _ _ l)
   ·rw [if_neg e,lu] at l
    exact s6 _ _ _ _ (ni a g) (ni b c) (.inr ⟨_,rfl⟩) l
theorem HS {r a:Yg} (h:cE r) (b:cE a) (l:aP a r=false):c9 (aU a) (aU r)=false:=by
 cases e:aP r a with
 | true=>exact ng (HR h b e)
 | false=>rw [vH r a e l];exact jC _
theorem HT:("/zz" : Str).cps.toList=[47,122,122]:=by decide +kernel
theorem HU {r:Yg} (h:cE r):c9 "/zz" (aU r)=false:=by
 refine ng ?_
 rw [lu,HT]
 have b:∀a∈aD,∀t:Yh,[47]++(a.cps.toList++t)<[47,122,122]:=fun a c t=>by
  refine jD [47] _ [122,122] ?_
  have lo:=HQ a c
  cases e:a.cps.toList with
  | nil=>rw [e] at lo;simp at lo
  | cons x l=>
   rw [e] at lo
   exact List.cons_lt_cons_iff.mpr (.inl lo)
 rcases h with ⟨a,c,rfl⟩ | ⟨a,c,d,f,rfl⟩
 ·show ("/" ++ a).cps.toList<_
  rw [dQ,pz]
  have:=b a c []
  rw [List.append_nil] at this
  exact this
 ·show ("/" ++ a++("/" ++ d)).cps.toList<_
  rw [dQ,dQ,dQ,pz,List.append_assoc]
  exact b a c _
def perm (a:Yi):Yh:=(fg (fun i j=>aP (a.getD i []) (a.getD j [])) (kas_sort a.length)).toList
theorem nj (a:Yi) (h:0<a.length):(perm a).Perm (List.range a.length):=by
 have q:=(vC (vD fun i=>a.getD i []) a.length h).ev.1.2
 exact Array.perm_iff_toList_perm.mp q
theorem AC (a:Yi) (h:0<a.length):(perm a).Pairwise fun i j=>aP (a.getD j []) (a.getD i [])=false:=by
 have q:=(vC (vD fun i=>a.getD i []) a.length h).ev
 rw [List.pairwise_iff_getElem]
 intro i j e d c
 have f:(perm a).length=a.length:=by rw [(nj a h).length_eq,List.length_range]
 have:=q.2 i j c (by lia)
 unfold Le v at this
 have g:∀k (b:k<(perm a).length),(fg (fun i j=>aP (a.getD i []) (a.getD j [])) (kas_sort a.length)).getD k 0=(perm a)[k]:=fun k b=>by
  unfold perm at b ⊢
  simp only [Array.getElem_toList,Array.getD]
  rw [dif_pos (by simpa using b)]
  rfl
 rw [g i e,g j d] at this
 exact this
def io (a:Yi):Yi:=(perm a).map fun i=>a.getD i []
theorem HV (a:Yi) (h:0<a.length):(io a).Perm a:=by
 have p:=(nj a h).map fun i=>a.getD i []
 have e:(List.range a.length).map (fun i=>a.getD i [])=a:=by
  refine List.ext_getElem (by simp) fun i c b => ?_
  simp [List.getD,b]
 rw [e] at p
 exact p
theorem AD (a:Yi) {i:Nat} (h:i<a.length):a.getD i []∈a:=by
 have e:a.getD i []=a[i]:=by simp [List.getD,h]
 rw [e];exact List.getElem_mem h
theorem HW (a:Yi) (h:0<a.length) (b:∀r∈a,cE r):ls ((io a).map aU):=by
 unfold ls io
 rw [List.map_map,List.pairwise_map]
 have u:=AC a h
 have c:=nj a h
 refine List.Pairwise.imp_of_mem (fun {i j} m g k => ?_) u
 have d:i<a.length:=List.mem_range.mp (c.mem_iff.mp m)
 have e:j<a.length:=List.mem_range.mp (c.mem_iff.mp g)
 have f:a.getD i []∈a:=AD a d
 have n:a.getD j []∈a:=AD a e
 exact HS (b _ f) (b _ n) k
end
section
open PySem PySem.W PySem.W.X PyProof.Rows Srt
theorem lx (g:Ye):∀(l:Yg) (i:Nat),StrsAre (cR l g i) l
 | [],_=>.nil
 | x::r,i=>.cons x _ (lx g r (i+1))
theorem ly:∀(R:Yi) (g:Ye),(aT R g).length=R.length
 | [],_=>rfl
 | _::l,g=>by show (aT l (od g)).length+1=_;rw [ly l];rfl
theorem vI:∀(R:Yi) (g:Ye) (i:Nat) (r:Yg),R[i]? = some r→∃d:RD,d.1=r∧(aT R g)[i]? = some (.ref (d.2 0))∧aE r d.2∈be R g∧(b9 R g)[i]? = some d
 | [],_,_,_,h=>by cases h
 | x::l,g,0,r,h=>by
  cases h
  exact ⟨(x,fun i=>ev g (i+2)),rfl,rfl,.head _,rfl⟩
 | x::l,g,i+1,r,h=>by
  obtain ⟨d,a,b,c,e⟩:=vI l (od g) i r h
  exact ⟨d,a,b,.tail _ c,e⟩
section
variable {prog:Program} {w:Yc} {A:Around} {s:Shared}
theorem HX {a b:Addr} {r c:Yg} {g e:Nat→Nat} {n f:Nat} {C:Bool→Shared→Prop} (j:A.units<cLine) (d:s.heap.get? a=some (ab (cR r g 0) n)) (i:s.heap.get? b=some (ab (cR c e 0) f)) (h:C (aP r c) s) :
  wpAny (model prog w) A (keyLt' oneType' (.ref a) (.ref b)) C (fun _ _=>False) s:=by
 rw [keyLt'_oneType,oneLt'_eq]
 simp only [if_true]
 refine wpAny_bind (wpAny_cRoomFor j ?_)
 refine wpAny_bind (wpAny_callSpecialIfBound?_slot (T:="list") ⟨_,d,rfl⟩ F.slot_list_lt (call_meets F.slot_list_lt ⟨_,d,rfl⟩ F.entry_list_lt (F.args_list_lt_2 _ _) (zc a b _ _ r c n f (lx g r 0) (lx e c 0)) ⟨d,i,?_⟩))
 exact wpAny_truthy_bool h
end
section
variable {B:bf} {m:Nat}
end
end
def cW:Yg→Yg
 | []=>[]
 | x::r=>match x.cps.toList != ("=" : Str).cps.toList with
  | true=>b4 x::cW r
  | false=>cW r
def cq:List (Str×Nat)→Yb
 | []=>[]
 | d::r=>match d.1.cps.toList != ("" : Str).cps.toList with
  | true=>.str d.1 d.2::cq r
  | false=>cq r
def dh:Yg→Ye→Nat→List (Str×Nat)
 | [],_,_=>[]
 | x::r,g,i=>(x,g i)::dh r g (i+1)
def jE (p:af) (j:Nat) (l:Yg):Yb:=cR l (fun i=>p j (i+2)) 0
def HY (b:af→Code) (w:Yc) (c:Yh) (r:Yg):aH:=bA b c
 (fun p=>[(p 1 0,am (.ref (p 2 0)) 0),(p 2 0,ab (jE p 2 r) (p 2 1)),(p 3 0,ab [] 0),(p 4 0,aw w [] 0)])
 (fun p a=>(.next,[am .none r.length,ab (jE p 2 r) (p 2 1),ab (cR (r.map b4) (fun i=>a (i+1)) 0) r.length,aw w [("part",a 0,pj (jE p 2 r) .none)] 1],[]))
def HZ (b:af→Code) (w:Yc) (c:Yh) (r:Yg):aH:=bA b c
 (fun p=>[(p 1 0,am (.ref (p 2 0)) 0),(p 2 0,ab (jE p 2 r) (p 2 1)),(p 3 0,ab [] 0),(p 4 0,aw w [] 0)])
 (fun p a=>(.next,[am .none r.length,ab (jE p 2 r) (p 2 1),ab (cR (cW r) (fun i=>a (i+1)) 0) (cW r).length,aw w [("part",a 0,pj (jE p 2 r) .none)] 1],[]))
def H0 (a:af→Code) (w:Yc) (c:Yh) (r:Yg):aH:=bA a c
 (fun p=>[(p 1 0,am (.ref (p 2 0)) 0),(p 2 0,ab (jE p 2 r) (p 2 1)),(p 3 0,ab [] 0),(p 4 0,aw w [] 0)])
 (fun p b=>(.next,[am .none r.length,ab (jE p 2 r) (p 2 1),ab (cq (dh r (fun i=>p 2 (i+2)) 0)) (cq (dh r (fun i=>p 2 (i+2)) 0)).length,aw w [("name",b 0,pj (jE p 2 r) .none)] 1],[]))
section
def vJ (w:Yc) (a:Yh) (r:Yg):aH:=HY (fun p=>bj (pu w) (p 1 0) (p 3 0) (p 4 0) (p 0 3) []) w a r
def vK (w:Yc) (a:Yh) (r:Yg):aH:=HZ (fun p=>bj (gI w) (p 1 0) (p 3 0) (p 4 0) (p 0 3) []) w a r
def vL (w:Yc) (a:Yh) (r:Yg):aH:=H0 (fun p=>bj (gJ w) (p 1 0) (p 3 0) (p 4 0) (p 0 3) []) w a r
def cZ (p:af):af:=fun j i=>match j,i with | 5,_=>p 0 3 | j,i=>p j i
theorem AE {b c:Bool} {w:Yc} {m:Nat} {f:Yh} {r:Yg} (h:f.Nodup) (i:cE r) (j:2≤m):(vJ w f r).Sure (B0 (W b c w)) m:=by
 refine (bS h fun p => ?_:aH.Sure (B0 (W b c w)) 2 _).le j
 rcases i with ⟨a,e,rfl⟩ | ⟨a,e,d,g,rfl⟩
 ·cases c
  ·exact GA b w a e (cZ p)
  ·exact GO b w a e (cZ p)
 ·cases c
  ·exact GB b w a d e g (cZ p)
  ·exact GP b w a d e g (cZ p)
theorem i1:∀a∈aD,(a.cps.toList != ("=" : Str).cps.toList)=true→a∈aD.tail:=by decide +kernel
theorem AF {b c:Bool} {w:Yc} {m:Nat} {i:Yh} {r:Yg} (k:i.Nodup) (j:cE r) (n:2≤m):(vK w i r).Sure (B0 (W b c w)) m:=by
 refine (bS k fun p => ?_:aH.Sure (B0 (W b c w)) 2 _).le n
 rcases j with ⟨a,g,rfl⟩ | ⟨a,g,d,h,rfl⟩
 ·cases f:(a.cps.toList != ("=" : Str).cps.toList) with
  | false=>
   have e:cW [a]=[]:=by unfold cW;rw [f];rfl
   rw [e]
   cases c
   ·exact GC b w a f (cZ p)
   ·exact GQ b w a f (cZ p)
  | true=>
   have e:cW [a]=[b4 a]:=by unfold cW;rw [f];rfl
   rw [e]
   cases c
   ·exact GI b w a f (i1 a g f) (cZ p)
   ·exact GW b w a f (i1 a g f) (cZ p)
 ·cases f:(a.cps.toList != ("=" : Str).cps.toList) with
  | false=>
   cases nd:(d.cps.toList != ("=" : Str).cps.toList) with
   | false=>
    have e:cW [a,d]=[]:=by unfold cW;rw [f];unfold cW;rw [nd];rfl
    rw [e]
    cases c
    ·exact GE b w a d f nd (cZ p)
    ·exact GS b w a d f nd (cZ p)
   | true=>
    have e:cW [a,d]=[b4 d]:=by unfold cW;rw [f];unfold cW;rw [nd];rfl
    rw [e]
    cases c
    ·exact GG b w a d f nd (i1 d h nd) (cZ p)
    ·exact GU b w a d f nd (i1 d h nd) (cZ p)
  | true=>
   cases nd:(d.cps.toList != ("=" : Str).cps.toList) with
   | false=>
    have e:cW [a,d]=[b4 a]:=by unfold cW;rw [f];unfold cW;rw [nd];rfl
    rw [e]
    cases c
    ·exact GK b w a d f (i1 a g f) nd (cZ p)
    ·exact GY b w a d f (i1 a g f) nd (cZ p)
   | true=>
    have e:cW [a,d]=[b4 a,b4 d]:=by unfold cW;rw [f];unfold cW;rw [nd];rfl
    rw [e]
    cases c
    ·exact GM b w a d f (i1 a g f) nd (i1 d h nd) (cZ p)
    ·exact G0 b w a d f (i1 a g f) nd (i1 d h nd) (cZ p)
theorem AG {b c:Bool} {w:Yc} {m:Nat} {h:Yh} {r:Yg} (k:h.Nodup) (i:b7 r) (n:2≤m):(vL w h r).Sure (B0 (W b c w)) m:=by
 refine (bS k fun p => ?_:aH.Sure (B0 (W b c w)) 2 _).le n
 rcases i with ⟨a,j,rfl⟩ | ⟨a,j,d,o,rfl⟩
 ·cases f:(a.cps.toList != ("" : Str).cps.toList) with
  | false=>
   have e:∀t,cq [(a,t)]=[]:=fun t=>by unfold cq;rw [f];rfl
   show aC _ _ _ _ fun g=>(.next,[_,_,ab (cq [(a,p 2 2)]) (cq [(a,p 2 2)]).length,_],[])
   rw [e]
   cases c
   ·exact GD b w a f (cZ p)
   ·exact GR b w a f (cZ p)
  | true=>
   have e:∀t,cq [(a,t)]=[.str a t]:=fun t=>by unfold cq;rw [f];rfl
   show aC _ _ _ _ fun g=>(.next,[_,_,ab (cq [(a,p 2 2)]) (cq [(a,p 2 2)]).length,_],[])
   rw [e]
   cases c
   ·exact GJ b w a f (cZ p)
   ·exact GX b w a f (cZ p)
 ·show aC _ _ _ _ fun g=>(.next,[_,_,ab (cq [(a,p 2 2),(d,p 2 3)]) (cq [(a,p 2 2),(d,p 2 3)]).length,_],[])
  cases f:(a.cps.toList != ("" : Str).cps.toList) with
  | false=>
   cases nd:(d.cps.toList != ("" : Str).cps.toList) with
   | false=>
    have e:∀t u,cq [(a,t),(d,u)]=[]:=fun t u=>by unfold cq;rw [f];unfold cq;rw [nd];rfl
    rw [e]
    cases c
    ·exact GF b w a d f nd (cZ p)
    ·exact GT b w a d f nd (cZ p)
   | true=>
    have e:∀t u,cq [(a,t),(d,u)]=[.str d u]:=fun t u=>by unfold cq;rw [f];unfold cq;rw [nd];rfl
    rw [e]
    cases c
    ·exact GH b w a d f nd (cZ p)
    ·exact GV b w a d f nd (cZ p)
  | true=>
   cases nd:(d.cps.toList != ("" : Str).cps.toList) with
   | false=>
    have e:∀t u,cq [(a,t),(d,u)]=[.str a t]:=fun t u=>by unfold cq;rw [f];unfold cq;rw [nd];rfl
    rw [e]
    cases c
    ·exact GL b w a d f nd (cZ p)
    ·exact GZ b w a d f nd (cZ p)
   | true=>
    have e:∀t u,cq [(a,t),(d,u)]=[.str a t,.str d u]:=fun t u=>by unfold cq;rw [f];unfold cq;rw [nd];rfl
    rw [e]
    cases c
    ·exact GN b w a d f nd (cZ p)
    ·exact G1 b w a d f nd (cZ p)
end
theorem vM:∀a∈b1,b4 (ao a)=a:=by decide +kernel
theorem AH {a:Str} (b:a∈b1):((b4 (ao a)).cps.toList != a.cps.toList)=false:=by rw [vM a b];exact bne_self_eq_false _
theorem H5:∀a∈b1,((ao a).cps.toList != ("=" : Str).cps.toList)=(a.cps.toList != ("" : Str).cps.toList):=by decide +kernel
def jF:Yg→Yg
 | []=>[]
 | x::r=>match x.cps.toList != ("" : Str).cps.toList with
  | true=>x::jF r
  | false=>jF r
theorem vN (g:Ye):∀(r:Yg) (i:Nat),StrsAre (cq (dh r g i)) (jF r)
 | [],_=>.nil
 | x::r,i=>by
  show StrsAre (match x.cps.toList != ("" : Str).cps.toList with | true=>.str x (g i)::cq (dh r g (i+1)) | false=>cq (dh r g (i+1))) (match x.cps.toList != ("" : Str).cps.toList with | true=>x::jF r | false=>jF r)
  cases x.cps.toList != ("" : Str).cps.toList with
  | true=>exact .cons x _ (vN g r (i+1))
  | false=>exact vN g r (i+1)
theorem AI:∀r:Yg,(∀a∈r,a∈b1)→cW (r.map ao)=jF r
 | [],_=>rfl
 | a::r,h=>by
  have b:=AI r fun x hx=>h x (.tail _ hx)
  show (match (ao a).cps.toList != ("=" : Str).cps.toList with | true=>b4 (ao a)::cW (r.map ao) | false=>cW (r.map ao))=(match a.cps.toList != ("" : Str).cps.toList with | true=>a::jF r | false=>jF r)
  rw [H5 a (h a (.head _)),b,vM a (h a (.head _))]
open PySem.Builtin PySem.Builtin.Str in
abbrev vO (x:Str) (a:Yg):Prop:=Txt.split x "/" = a∧x.length≤1000∧(partsBetween x (occurrences x "/" 0 x.length (x.length+1)) ("/" : Str).length).length≤1000
theorem fV:∀a∈aD,vO ("/" ++ a) ["",a]:=by decide +kernel
theorem d4:∀a∈aD,∀d∈aD,vO ("/" ++ a++("/" ++ d)) ["",a,d]:=by decide +kernel
theorem cv {B:bf} {m:Nat} {x:Str} {a:Yg} (h:vO x a):(cb x "/" a).Sure B m:=tT h.1 (by decide +kernel) h.2.1 h.2.2
def cc (f:Flow):Flow:=f
theorem cG:∀{a b:Flow},cc a=cc b→a=b:=fun h=>h
theorem H6 {M:Model} {A:Around} {s:Stmt} {a:Env} {Q:Flow→Shared→Prop} {E:Yd→Shared→Prop} {st:Shared} (h:wpAny M A (execs [s] a) Q E st):wpAny M A (exec s a) Q E st:=fun Γ p b=>by
 have z:=h Γ p b
 rw [execs_cons,Sem.wp_bind'] at z
 refine Sem.wp_mono M Γ _ (fun f d c q => ?_) (fun _ _ _ q=>q) p _ z
 cases f <;> exact q
theorem aI.exec {B:bf} {m:Nat} {s:Stmt} {b:Env} {a:Ya} {c:Ye→Flow×Yf×Ya} (h:aI B m (execs [s] b) a c):aI B m (exec s b) a c:=
 ⟨fun A g o f j d i Q E nd k e n=>H6 (h.go A g o f j d i Q E nd k e n)⟩
section
def AJ:Expr→Env→Sem Yd:=PySem.W.Fast.tw14044960220447912780
theorem dR:@eval=AJ:=PySem.W.Fast.te14044960220447912780
def nk:List Stmt→Env→Sem Flow:=PySem.W.Fast.tw12563942051412417395
theorem cH:@execs=nk:=PySem.W.Fast.te12563942051412417395
def H7:Expr→Env→Sem Yd→Sem Bool:=PySem.W.Fast.tw15418851999007992765
theorem s8:@PySem.isTrue=H7:=PySem.W.Fast.te15418851999007992765
def H8:Expr→Env→Yd→Sem Unit:=PySem.W.Fast.tw17772580674575903948
theorem kw:@assign=H8:=PySem.W.Fast.te17772580674575903948
def H9:Yd→Sem (Option Yd):=PySem.W.Fast.tw9404975358583537561
theorem nl:@pyNext=H9:=PySem.W.Fast.te9404975358583537561
def dS (w:Yc) (i:Nat):Stmt:=gH (fB (dg w)) i
def bl (w:Yc) (p:af):Env:=m9 (dg w) (p 8 0) [p 9 0,p 13 0]
end
section
def vP (w:Yc) (r:Yg) (b:Obj) (u v:Yd) (i:Nat) (c d a:Yb) (p:af) (e:Ye):Yf:=[aW 0 (rawInt (e 0)) [.bool false,.bool false,.ref (p 2 0),.ref (p 3 0)],az [.ref (p 4 0),.ref (p 5 0)] 0,az [.ref (p 11 0),.ref (p 12 0)] 0,am (.ref (p 6 0)) (i+1),am (.ref (p 7 0)) (i+1),ab c (p 6 1),ab d (p 7 1),b,aJ (.ref (p 10 0)),ab a (p 10 1),(aE r (p 11)).2,(aE (r.map ao) (p 12)).2]
theorem AL (b c:Bool) (w:Yc) (r:Yg) (h:Obj) (u v:Yd) (i:Nat) (a d g:Yb) (p:af) (k:a[i]? = some (.ref (p 11 0))) (j:d[i]? = some (.ref (p 12 0))):aI (B0 (W b c w)) 4 (pyNext (.ref (p 1 0))) [(p 1 0,ba (p 2 0) (p 3 0)),(p 2 0,az [.ref (p 4 0),.ref (p 5 0)] 0),(p 3 0,az [u,v] 0),(p 4 0,am (.ref (p 6 0)) i),(p 5 0,am (.ref (p 7 0)) i),(p 6 0,ab a (p 6 1)),(p 7 0,ab d (p 7 1)),(p 8 0,h),(p 9 0,aJ (.ref (p 10 0))),(p 10 0,ab g (p 10 1)),aE r (p 11),aE (r.map ao) (p 12)] fun e=>((some (.ref (e 0))),vP w r h u v i a d g p e,[(e 0,az [.ref (p 11 0),.ref (p 12 0)] 0)]++[]):=by
 rw [nl]
 exact bt (enc:=kf) mW (orcs:=[cD 3 5 a i (.ref (p 11 0)),cD 4 6 d i (.ref (p 12 0))]) (aa (cT (by decide) k) (aa (cT (by decide) j) aq)) 36 2 [1,0,1,0,94,1,1,2,1,1,1,0,4,2,3,3,2,3,5,3,3,3,2,3,3,1,0,1,0] [0,1,2,3,4,5,6,7,8,9,10,11,12] none (fun n m f=>aB [(f 1).1+0])
def AM (w:Yc) (r:Yg) (i:Nat) (d c b:Yb) (p:af) (a:Ye):Yf:=[ba (p 2 0) (p 3 0),az [.ref (p 4 0),.ref (p 5 0)] 0,az [.ref (p 11 0),.ref (p 12 0)] 0,am (.ref (p 6 0)) i,am (.ref (p 7 0)) i,ab d (p 6 1),ab c (p 7 1),aG w [("script",p 8 2,.ref (p 8 3)),("rows",p 8 4,.ref (p 6 0)),("written",p 8 6,.ref (p 7 0)),("row",a 0,.ref (p 11 0)),("parts",a 1,.ref (p 12 0))] (p 8 1+1+1),aJ (.ref (p 10 0)),ab b (p 10 1),(aE r (p 11)).2,(aE (r.map ao) (p 12)).2,az [.ref (p 11 0),.ref (p 12 0)] 0]
theorem Ia (b c:Bool) (w:Yc) (r:Yg) (i:Nat) (e g a:Yb) (p:af):aI (B0 (W b c w)) 4 (assign (fT (dg w)) (bl w p) (.ref (p 14 0))) [(p 1 0,ba (p 2 0) (p 3 0)),(p 2 0,az [.ref (p 4 0),.ref (p 5 0)] 0),(p 3 0,az [.ref (p 11 0),.ref (p 12 0)] 0),(p 4 0,am (.ref (p 6 0)) i),(p 5 0,am (.ref (p 7 0)) i),(p 6 0,ab e (p 6 1)),(p 7 0,ab g (p 7 1)),(p 8 0,aG w [("script",p 8 2,.ref (p 8 3)),("rows",p 8 4,.ref (p 6 0)),("written",p 8 6,.ref (p 7 0))] (p 8 1)),(p 9 0,aJ (.ref (p 10 0))),(p 10 0,ab a (p 10 1)),aE r (p 11),aE (r.map ao) (p 12),(p 14 0,az [.ref (p 11 0),.ref (p 12 0)] 0)] fun h=>((),AM w r i e g a p h,[]++[]):=by
 rw [kw]
 exact bt (enc:=iU) kg (orcs:=[]) aq 63 0 [13,13,13,0,13,0,8,14,14,0,14,0,9,14,14,13,14,13,14,0,14,0,9,14,14,13,14,13,14,0,14,0,9,14,14,13,14,13,16,8,7,8,7] [0,1,2,3,4,5,6,7,8,9,10,11,12] none (fun n d f=>aB [d+0,d+1])
def AN (w:Yc) (r:Yg) (i:Nat) (c b a:Yb) (p:af):Ya:=[(p 1 0,ba (p 2 0) (p 3 0)),(p 2 0,az [.ref (p 4 0),.ref (p 5 0)] 0),(p 3 0,az [.ref (p 11 0),.ref (p 12 0)] 0),(p 4 0,am (.ref (p 6 0)) i),(p 5 0,am (.ref (p 7 0)) i),(p 6 0,ab c (p 6 1)),(p 7 0,ab b (p 7 1)),(p 8 0,aG w [("script",p 8 2,.ref (p 8 3)),("rows",p 8 4,.ref (p 6 0)),("written",p 8 6,.ref (p 7 0)),("row",p 8 8,.ref (p 11 0)),("parts",p 8 10,.ref (p 12 0))] (p 8 1)),(p 9 0,aJ (.ref (p 10 0))),(p 10 0,ab a (p 10 1)),aE r (p 11),aE (r.map ao) (p 12)]
theorem Ib (b c:Bool) (w:Yc) (r:Yg) (i:Nat) (d e a:Yb) (p:af) (h:b7 r):aI (B0 (W b c w)) 4 (execs [dS w 0] (bl w p)) (AN w r i d e a p) fun g=>(.next,[ba (p 2 0) (p 3 0),az [.ref (p 4 0),.ref (p 5 0)] 0,az [.ref (p 11 0),.ref (p 12 0)] 0,am (.ref (p 6 0)) i,am (.ref (p 7 0)) i,ab d (p 6 1),ab e (p 7 1),aG w [("script",p 8 2,.ref (p 8 3)),("rows",p 8 4,.ref (p 6 0)),("written",p 8 6,.ref (p 7 0)),("row",p 8 8,.ref (p 11 0)),("parts",p 8 10,.ref (p 12 0)),("path",g 1,.str (aU (r.map ao)) (g 0))] (p 8 1+1),aJ (.ref (p 10 0)),ab a (p 10 1),(aE r (p 11)).2,(aE (r.map ao) (p 12)).2],[]++[]):=by
 rw [cH]
 exact bt (enc:=cc) cG (orcs:=[po (r.map ao) (p 12) 11]) (aa (sM (gG h) (by decide)) aq) 19 1 [0,8,0,2,8,7] [0,1,2,3,4,5,6,7,8,9,10,11] none (fun n j f=>aB [(f 0).2.2 0,(f 0).2.1+0])
def AO (w:Yc) (e g d:Yd) (r:Yg) (i:Nat) (b c a:Yb) (p:af) (f:Ye):Yf:=[ba (p 2 0) (p 3 0),az [.ref (p 4 0),.ref (p 5 0)] 0,az [.ref (p 11 0),.ref (p 12 0)] 0,am (.ref (p 6 0)) i,am (.ref (p 7 0)) i,ab b (p 6 1),ab c (p 7 1),aG w [("script",p 8 2,.ref (p 8 3)),("rows",p 8 4,.ref (p 6 0)),("written",p 8 6,.ref (p 7 0)),("row",p 8 8,.ref (p 11 0)),("parts",p 8 10,.ref (p 12 0)),("path",p 8 12,d)] (p 8 1),aJ (.ref (p 10 0)),ab a (p 10 1),(aE r (p 11)).2,(aE (r.map ao) (p 12)).2,az [.ref (p 11 0),.ref (p 12 0)] 0]
theorem Ic (b c:Bool) (w:Yc) (d j h:Yd) (r:Yg) (i:Nat) (e g a:Yb) (p:af):aI (B0 (W b c w)) 4 (assign (fT (dg w)) (bl w p) (.ref (p 14 0))) [(p 1 0,ba (p 2 0) (p 3 0)),(p 2 0,az [.ref (p 4 0),.ref (p 5 0)] 0),(p 3 0,az [.ref (p 11 0),.ref (p 12 0)] 0),(p 4 0,am (.ref (p 6 0)) i),(p 5 0,am (.ref (p 7 0)) i),(p 6 0,ab e (p 6 1)),(p 7 0,ab g (p 7 1)),(p 8 0,aG w [("script",p 8 2,.ref (p 8 3)),("rows",p 8 4,.ref (p 6 0)),("written",p 8 6,.ref (p 7 0)),("row",p 8 8,d),("parts",p 8 10,j),("path",p 8 12,h)] (p 8 1)),(p 9 0,aJ (.ref (p 10 0))),(p 10 0,ab a (p 10 1)),aE r (p 11),aE (r.map ao) (p 12),(p 14 0,az [.ref (p 11 0),.ref (p 12 0)] 0)] fun k=>((),AO w d j h r i e g a p k,[]++[]):=by
 rw [kw]
 exact bt (enc:=iU) kg (orcs:=[]) aq 63 0 [13,13,13,0,13,0,8,14,14,0,14,0,9,14,14,13,14,13,14,0,14,0,9,14,14,13,14,13,14,0,14,0,9,14,14,13,14,13,16,8,7,8,7] [0,1,2,3,4,5,6,7,8,9,10,11,12] none (fun n m f=>fun _=>0)
def AP (w:Yc) (d:Yd) (r:Yg) (i:Nat) (c b a:Yb) (p:af):Ya:=[(p 1 0,ba (p 2 0) (p 3 0)),(p 2 0,az [.ref (p 4 0),.ref (p 5 0)] 0),(p 3 0,az [.ref (p 11 0),.ref (p 12 0)] 0),(p 4 0,am (.ref (p 6 0)) i),(p 5 0,am (.ref (p 7 0)) i),(p 6 0,ab c (p 6 1)),(p 7 0,ab b (p 7 1)),(p 8 0,aG w [("script",p 8 2,.ref (p 8 3)),("rows",p 8 4,.ref (p 6 0)),("written",p 8 6,.ref (p 7 0)),("row",p 8 8,.ref (p 11 0)),("parts",p 8 10,.ref (p 12 0)),("path",p 8 12,d)] (p 8 1)),(p 9 0,aJ (.ref (p 10 0))),(p 10 0,ab a (p 10 1)),aE r (p 11),aE (r.map ao) (p 12)]
theorem Id (b c:Bool) (w:Yc) (h:Yd) (r:Yg) (i:Nat) (d e a:Yb) (p:af) (g:b7 r):aI (B0 (W b c w)) 4 (execs [dS w 0] (bl w p)) (AP w h r i d e a p) fun j=>(.next,[ba (p 2 0) (p 3 0),az [.ref (p 4 0),.ref (p 5 0)] 0,az [.ref (p 11 0),.ref (p 12 0)] 0,am (.ref (p 6 0)) i,am (.ref (p 7 0)) i,ab d (p 6 1),ab e (p 7 1),aG w [("script",p 8 2,.ref (p 8 3)),("rows",p 8 4,.ref (p 6 0)),("written",p 8 6,.ref (p 7 0)),("row",p 8 8,.ref (p 11 0)),("parts",p 8 10,.ref (p 12 0)),("path",p 8 12,.str (aU (r.map ao)) (j 0))] (p 8 1),aJ (.ref (p 10 0)),ab a (p 10 1),(aE r (p 11)).2,(aE (r.map ao) (p 12)).2],[]++[]):=by
 rw [cH]
 exact bt (enc:=cc) cG (orcs:=[po (r.map ao) (p 12) 11]) (aa (sM (gG g) (by decide)) aq) 19 1 [0,8,0,2,8,7] [0,1,2,3,4,5,6,7,8,9,10,11] none (fun n k f=>aB [(f 0).2.2 0,(f 0).2.1+0])
def vQ (w:Yc) (r:Yg) (i:Nat) (c b a:Yb) (p:af):Ya:=[(p 1 0,ba (p 2 0) (p 3 0)),(p 2 0,az [.ref (p 4 0),.ref (p 5 0)] 0),(p 3 0,az [.ref (p 11 0),.ref (p 12 0)] 0),(p 4 0,am (.ref (p 6 0)) i),(p 5 0,am (.ref (p 7 0)) i),(p 6 0,ab c (p 6 1)),(p 7 0,ab b (p 7 1)),(p 8 0,aG w [("script",p 8 2,.ref (p 8 3)),("rows",p 8 4,.ref (p 6 0)),("written",p 8 6,.ref (p 7 0)),("row",p 8 8,.ref (p 11 0)),("parts",p 8 10,.ref (p 12 0)),("path",p 8 12,.str (aU (r.map ao)) (p 8 13))] (p 8 1)),(p 9 0,aJ (.ref (p 10 0))),(p 10 0,ab a (p 10 1)),aE r (p 11),aE (r.map ao) (p 12)]
def AQ (w:Yc) (r:Yg) (i:Nat) (c b a:Yb) (p:af) (d:Ye):Yf:=[ba (p 2 0) (p 3 0),az [.ref (p 4 0),.ref (p 5 0)] 0,az [.ref (p 11 0),.ref (p 12 0)] 0,am (.ref (p 6 0)) i,am (.ref (p 7 0)) i,ab c (p 6 1),ab b (p 7 1),aG w [("script",p 8 2,.ref (p 8 3)),("rows",p 8 4,.ref (p 6 0)),("written",p 8 6,.ref (p 7 0)),("row",p 8 8,.ref (p 11 0)),("parts",p 8 10,.ref (p 12 0)),("path",p 8 12,.str (aU (r.map ao)) (p 8 13))] (p 8 1),aJ (.ref (p 10 0)),ab a (p 10 1),(aE r (p 11)).2,(aE (r.map ao) (p 12)).2]
theorem Ie (b c:Bool) (w:Yc) (r:Yg) (i:Nat) (d e a:Yb) (p:af) (g:b7 r):aI (B0 (W b c w)) 4 (isTrue (cY (c3 (bN (dS w 1))) 0) (bl w p) (eval (cY (c3 (bN (dS w 1))) 0) (bl w p))) (vQ w r i d e a p) fun h=>(false,AQ w r i d e a p h,[]++[]):=by
 rw [s8,dR]
 exact bt (enc:=mV) sB (orcs:=[zW (r.map ao),o2 "str.__ne__" (aU (r.map ao)) (aU (r.map ao)) fun _=>.bool false]) (aa (Gf (gG g) (by decide)) (aa (aQ (bne_self_eq_false _)) aq)) 16 2 [0,8,0,2,8,3] [0,1,2,3,4,5,6,7,8,9,10,11] none (fun n j f=>fun _=>0)
theorem Ig (b c:Bool) (w:Yc) (a:Str) (i:Nat) (g h e:Yb) (p:af) (k:a∈b1):aI (B0 (W b c w)) 4 (eval (d3 (cY (c3 (bN (dS w 1))) 1)) (bl w p)) [(p 1 0,ba (p 2 0) (p 3 0)),(p 2 0,az [.ref (p 4 0),.ref (p 5 0)] 0),(p 3 0,az [.ref (p 11 0),.ref (p 12 0)] 0),(p 4 0,am (.ref (p 6 0)) i),(p 5 0,am (.ref (p 7 0)) i),(p 6 0,ab g (p 6 1)),(p 7 0,ab h (p 7 1)),(p 8 0,aG w [("script",p 8 2,.ref (p 8 3)),("rows",p 8 4,.ref (p 6 0)),("written",p 8 6,.ref (p 7 0)),("row",p 8 8,.ref (p 11 0)),("parts",p 8 10,.ref (p 12 0)),("path",p 8 12,.str (aU [ao a]) (p 8 13))] (p 8 1)),(p 9 0,aJ (.ref (p 10 0))),(p 10 0,ab e (p 10 1)),aE [a] (p 11),aE [ao a] (p 12)] fun d=>((.ref (d 0)),[ba (p 2 0) (p 3 0),az [.ref (p 4 0),.ref (p 5 0)] 0,az [.ref (p 11 0),.ref (p 12 0)] 0,am (.ref (p 6 0)) i,am (.ref (p 7 0)) i,ab g (p 6 1),ab h (p 7 1),aG w [("script",p 8 2,.ref (p 8 3)),("rows",p 8 4,.ref (p 6 0)),("written",p 8 6,.ref (p 7 0)),("row",p 8 8,.ref (p 11 0)),("parts",p 8 10,.ref (p 12 0)),("path",p 8 12,.str (aU [ao a]) (p 8 13))] (p 8 1),aJ (.ref (p 10 0)),ab e (p 10 1),(aE [a] (p 11)).2,(aE [ao a] (p 12)).2],[(d 0,ab (cR ([ao a].map b4) (fun i=>d (i+1)) 0) [ao a].length)]++[]):=by
 rw [dR]
 exact bt (enc:=dy) eN (orcs:=[cb (aU [ao a]) "/" ("" :: [ao a]),vJ w [15,14,16,17] [ao a]]) (aa (cv (fV (ao a) (km a k))) (aa (AE (by decide) (gG (.inl ⟨a,k,rfl⟩)) (by decide)) aq)) 49 2 [8,2,13,13,13,0,13,0,54,14,14,14,14,14,13,0,95,15,15,0,15,0,23,16,3,18,18,17] [0,1,2,3,4,5,6,7,8,9,10,11,16] none (fun n m f=>fun i=>match i with | 0=>(f 0).1+3 | j+1=>(f 1).2.2 (j+1))
theorem Ih (b c:Bool) (w:Yc) (a:Str) (i:Nat) (g h e:Yb) (p:af) (j:a∈b1):aI (B0 (W b c w)) 4 (eval (dd (cY (c3 (bN (dS w 2))) 0)) (bl w p)) [(p 1 0,ba (p 2 0) (p 3 0)),(p 2 0,az [.ref (p 4 0),.ref (p 5 0)] 0),(p 3 0,az [.ref (p 11 0),.ref (p 12 0)] 0),(p 4 0,am (.ref (p 6 0)) i),(p 5 0,am (.ref (p 7 0)) i),(p 6 0,ab g (p 6 1)),(p 7 0,ab h (p 7 1)),(p 8 0,aG w [("script",p 8 2,.ref (p 8 3)),("rows",p 8 4,.ref (p 6 0)),("written",p 8 6,.ref (p 7 0)),("row",p 8 8,.ref (p 11 0)),("parts",p 8 10,.ref (p 12 0)),("path",p 8 12,.str (aU [ao a]) (p 8 13))] (p 8 1)),(p 9 0,aJ (.ref (p 10 0))),(p 10 0,ab e (p 10 1)),aE [a] (p 11),aE [ao a] (p 12)] fun d=>((.ref (d 0)),[ba (p 2 0) (p 3 0),az [.ref (p 4 0),.ref (p 5 0)] 0,az [.ref (p 11 0),.ref (p 12 0)] 0,am (.ref (p 6 0)) i,am (.ref (p 7 0)) i,ab g (p 6 1),ab h (p 7 1),aG w [("script",p 8 2,.ref (p 8 3)),("rows",p 8 4,.ref (p 6 0)),("written",p 8 6,.ref (p 7 0)),("row",p 8 8,.ref (p 11 0)),("parts",p 8 10,.ref (p 12 0)),("path",p 8 12,.str (aU [ao a]) (p 8 13))] (p 8 1),aJ (.ref (p 10 0)),ab e (p 10 1),(aE [a] (p 11)).2,(aE [ao a] (p 12)).2],[(d 0,az [.str (m4 [ao a]) (d 1),.str (m7 [ao a]) (d 2)] 0)]++[]):=by
 rw [dR]
 exact bt (enc:=dy) eN (orcs:=[vj [ao a]]) (aa (zX (gG (.inl ⟨a,j,rfl⟩)) (by decide)) aq) 30 1 [0,8,0,2,8,0,0,69,12,12,12,0,12,0,54,12] [0,1,2,3,4,5,6,7,8,9,10,11,12] none (fun n k f=>aB [(f 0).1+0,(f 0).2.2 0,p 12 1])
theorem Ii (b c:Bool) (w:Yc) (a:Str) (i:Nat) (g h e:Yb) (p:af) (d:a∈b1):aI (B0 (W b c w)) 4 (isTrue (cY (c3 (bN (dS w 2))) 1) (bl w p) (eval (cY (c3 (bN (dS w 2))) 1) (bl w p))) [(p 1 0,ba (p 2 0) (p 3 0)),(p 2 0,az [.ref (p 4 0),.ref (p 5 0)] 0),(p 3 0,az [.ref (p 11 0),.ref (p 12 0)] 0),(p 4 0,am (.ref (p 6 0)) i),(p 5 0,am (.ref (p 7 0)) i),(p 6 0,ab g (p 6 1)),(p 7 0,ab h (p 7 1)),(p 8 0,aG w [("script",p 8 2,.ref (p 8 3)),("rows",p 8 4,.ref (p 6 0)),("written",p 8 6,.ref (p 7 0)),("row",p 8 8,.ref (p 11 0)),("parts",p 8 10,.ref (p 12 0)),("path",p 8 12,.str (aU [ao a]) (p 8 13))] (p 8 1)),(p 9 0,aJ (.ref (p 10 0))),(p 10 0,ab e (p 10 1)),aE [a] (p 11),aE [ao a] (p 12)] fun k=>(false,[ba (p 2 0) (p 3 0),az [.ref (p 4 0),.ref (p 5 0)] 0,az [.ref (p 11 0),.ref (p 12 0)] 0,am (.ref (p 6 0)) i,am (.ref (p 7 0)) i,ab g (p 6 1),ab h (p 7 1),aG w [("script",p 8 2,.ref (p 8 3)),("rows",p 8 4,.ref (p 6 0)),("written",p 8 6,.ref (p 7 0)),("row",p 8 8,.ref (p 11 0)),("parts",p 8 10,.ref (p 12 0)),("path",p 8 12,.str (aU [ao a]) (p 8 13))] (p 8 1),aJ (.ref (p 10 0)),ab e (p 10 1),(aE [a] (p 11)).2,(aE [ao a] (p 12)).2],[]++[]):=by
 rw [s8,dR]
 exact bt (enc:=mV) sB (orcs:=[vk [ao a],ju (ao a),o2 "str.__ne__" (b4 (ao a)) a fun _=>.bool false]) (aa (zY (gG (.inl ⟨a,d,rfl⟩)) (by decide)) (aa (ki (ao a) (km a d) (by decide)) (aa (aQ (AH d)) aq))) 37 3 [0,0,8,0,2,0,3,8,0,0,69,11,11,11,0,11,0,54,11,4] [0,1,2,3,4,5,6,7,8,9,10,11] none (fun n j f=>fun _=>0)
theorem Ij (b c:Bool) (w:Yc) (a:Str) (i:Nat) (g h e:Yb) (p:af) (k:a∈b1):aI (B0 (W b c w)) 4 (eval (d3 (bN (dS w 3))) (bl w p)) [(p 1 0,ba (p 2 0) (p 3 0)),(p 2 0,az [.ref (p 4 0),.ref (p 5 0)] 0),(p 3 0,az [.ref (p 11 0),.ref (p 12 0)] 0),(p 4 0,am (.ref (p 6 0)) i),(p 5 0,am (.ref (p 7 0)) i),(p 6 0,ab g (p 6 1)),(p 7 0,ab h (p 7 1)),(p 8 0,aG w [("script",p 8 2,.ref (p 8 3)),("rows",p 8 4,.ref (p 6 0)),("written",p 8 6,.ref (p 7 0)),("row",p 8 8,.ref (p 11 0)),("parts",p 8 10,.ref (p 12 0)),("path",p 8 12,.str (aU [ao a]) (p 8 13))] (p 8 1)),(p 9 0,aJ (.ref (p 10 0))),(p 10 0,ab e (p 10 1)),aE [a] (p 11),aE [ao a] (p 12)] fun d=>((.ref (d 0)),[ba (p 2 0) (p 3 0),az [.ref (p 4 0),.ref (p 5 0)] 0,az [.ref (p 11 0),.ref (p 12 0)] 0,am (.ref (p 6 0)) i,am (.ref (p 7 0)) i,ab g (p 6 1),ab h (p 7 1),aG w [("script",p 8 2,.ref (p 8 3)),("rows",p 8 4,.ref (p 6 0)),("written",p 8 6,.ref (p 7 0)),("row",p 8 8,.ref (p 11 0)),("parts",p 8 10,.ref (p 12 0)),("path",p 8 12,.str (aU [ao a]) (p 8 13))] (p 8 1),aJ (.ref (p 10 0)),ab e (p 10 1),(aE [a] (p 11)).2,(aE [ao a] (p 12)).2],[(d 0,ab (cR (cW [ao a]) (fun i=>d (i+1)) 0) (cW [ao a]).length)]++[]):=by
 rw [dR]
 exact bt (enc:=dy) eN (orcs:=[vK w [12,11,13,14] [ao a]]) (aa (AF (by decide) (gG (.inl ⟨a,k,rfl⟩)) (by decide)) aq) 23 1 [8,12,12,0,12,0,23,13,2,15,15,14] [0,1,2,3,4,5,6,7,8,9,10,11,13] none (fun n m f=>fun i=>match i with | 0=>n+1 | j+1=>(f 0).2.2 (j+1))
theorem Ik (b c:Bool) (w:Yc) (a:Str) (i:Nat) (e g d:Yb) (p:af) (j:a∈b1):aI (B0 (W b c w)) 4 (eval (dd (bN (dS w 3))) (bl w p)) [(p 1 0,ba (p 2 0) (p 3 0)),(p 2 0,az [.ref (p 4 0),.ref (p 5 0)] 0),(p 3 0,az [.ref (p 11 0),.ref (p 12 0)] 0),(p 4 0,am (.ref (p 6 0)) i),(p 5 0,am (.ref (p 7 0)) i),(p 6 0,ab e (p 6 1)),(p 7 0,ab g (p 7 1)),(p 8 0,aG w [("script",p 8 2,.ref (p 8 3)),("rows",p 8 4,.ref (p 6 0)),("written",p 8 6,.ref (p 7 0)),("row",p 8 8,.ref (p 11 0)),("parts",p 8 10,.ref (p 12 0)),("path",p 8 12,.str (aU [ao a]) (p 8 13))] (p 8 1)),(p 9 0,aJ (.ref (p 10 0))),(p 10 0,ab d (p 10 1)),aE [a] (p 11),aE [ao a] (p 12)] fun h=>((.ref (h 0)),[ba (p 2 0) (p 3 0),az [.ref (p 4 0),.ref (p 5 0)] 0,az [.ref (p 11 0),.ref (p 12 0)] 0,am (.ref (p 6 0)) i,am (.ref (p 7 0)) i,ab e (p 6 1),ab g (p 7 1),aG w [("script",p 8 2,.ref (p 8 3)),("rows",p 8 4,.ref (p 6 0)),("written",p 8 6,.ref (p 7 0)),("row",p 8 8,.ref (p 11 0)),("parts",p 8 10,.ref (p 12 0)),("path",p 8 12,.str (aU [ao a]) (p 8 13))] (p 8 1),aJ (.ref (p 10 0)),ab d (p 10 1),(aE [a] (p 11)).2,(aE [ao a] (p 12)).2],[(h 0,ab (cq (dh [a] (fun i=>p 11 (i+1)) 0)) (cq (dh [a] (fun i=>p 11 (i+1)) 0)).length)]++[]):=by
 rw [dR]
 exact bt (enc:=dy) eN (orcs:=[vL w [12,10,13,14] [a]]) (aa (AG (by decide) (.inl ⟨a,j,rfl⟩) (by decide)) aq) 23 1 [8,11,11,0,11,0,23,13,2,15,15,14] [0,1,2,3,4,5,6,7,8,9,10,11,13] none (fun n k f=>aB [n+1])
theorem Il (b c:Bool) (w:Yc) (a d:Str) (i:Nat) (h k g:Yb) (p:af) (m:a∈b1) (o:d∈b1):aI (B0 (W b c w)) 4 (eval (d3 (cY (c3 (bN (dS w 1))) 1)) (bl w p)) [(p 1 0,ba (p 2 0) (p 3 0)),(p 2 0,az [.ref (p 4 0),.ref (p 5 0)] 0),(p 3 0,az [.ref (p 11 0),.ref (p 12 0)] 0),(p 4 0,am (.ref (p 6 0)) i),(p 5 0,am (.ref (p 7 0)) i),(p 6 0,ab h (p 6 1)),(p 7 0,ab k (p 7 1)),(p 8 0,aG w [("script",p 8 2,.ref (p 8 3)),("rows",p 8 4,.ref (p 6 0)),("written",p 8 6,.ref (p 7 0)),("row",p 8 8,.ref (p 11 0)),("parts",p 8 10,.ref (p 12 0)),("path",p 8 12,.str (aU [ao a,ao d]) (p 8 13))] (p 8 1)),(p 9 0,aJ (.ref (p 10 0))),(p 10 0,ab g (p 10 1)),aE [a,d] (p 11),aE [ao a,ao d] (p 12)] fun e=>((.ref (e 0)),[ba (p 2 0) (p 3 0),az [.ref (p 4 0),.ref (p 5 0)] 0,az [.ref (p 11 0),.ref (p 12 0)] 0,am (.ref (p 6 0)) i,am (.ref (p 7 0)) i,ab h (p 6 1),ab k (p 7 1),aG w [("script",p 8 2,.ref (p 8 3)),("rows",p 8 4,.ref (p 6 0)),("written",p 8 6,.ref (p 7 0)),("row",p 8 8,.ref (p 11 0)),("parts",p 8 10,.ref (p 12 0)),("path",p 8 12,.str (aU [ao a,ao d]) (p 8 13))] (p 8 1),aJ (.ref (p 10 0)),ab g (p 10 1),(aE [a,d] (p 11)).2,(aE [ao a,ao d] (p 12)).2],[(e 0,ab (cR ([ao a,ao d].map b4) (fun i=>e (i+1)) 0) [ao a,ao d].length)]++[]):=by
 rw [dR]
 exact bt (enc:=dy) eN (orcs:=[cb (aU [ao a,ao d]) "/" ("" :: [ao a,ao d]),vJ w [15,14,16,17] [ao a,ao d]]) (aa (cv (d4 (ao a) (km a m) (ao d) (km d o))) (aa (AE (by decide) (gG (.inr ⟨a,m,d,o,rfl⟩)) (by decide)) aq)) 49 2 [8,2,13,13,13,0,13,0,54,14,14,14,14,14,13,0,95,15,15,0,15,0,23,16,3,18,18,17] [0,1,2,3,4,5,6,7,8,9,10,11,16] none (fun n q f=>fun i=>match i with | 0=>(f 0).1+3 | j+1=>(f 1).2.2 (j+1))
theorem Im (b c:Bool) (w:Yc) (a d:Str) (i:Nat) (h j g:Yb) (p:af) (k:a∈b1) (m:d∈b1):aI (B0 (W b c w)) 4 (eval (dd (cY (c3 (bN (dS w 2))) 0)) (bl w p)) [(p 1 0,ba (p 2 0) (p 3 0)),(p 2 0,az [.ref (p 4 0),.ref (p 5 0)] 0),(p 3 0,az [.ref (p 11 0),.ref (p 12 0)] 0),(p 4 0,am (.ref (p 6 0)) i),(p 5 0,am (.ref (p 7 0)) i),(p 6 0,ab h (p 6 1)),(p 7 0,ab j (p 7 1)),(p 8 0,aG w [("script",p 8 2,.ref (p 8 3)),("rows",p 8 4,.ref (p 6 0)),("written",p 8 6,.ref (p 7 0)),("row",p 8 8,.ref (p 11 0)),("parts",p 8 10,.ref (p 12 0)),("path",p 8 12,.str (aU [ao a,ao d]) (p 8 13))] (p 8 1)),(p 9 0,aJ (.ref (p 10 0))),(p 10 0,ab g (p 10 1)),aE [a,d] (p 11),aE [ao a,ao d] (p 12)] fun e=>((.ref (e 0)),[ba (p 2 0) (p 3 0),az [.ref (p 4 0),.ref (p 5 0)] 0,az [.ref (p 11 0),.ref (p 12 0)] 0,am (.ref (p 6 0)) i,am (.ref (p 7 0)) i,ab h (p 6 1),ab j (p 7 1),aG w [("script",p 8 2,.ref (p 8 3)),("rows",p 8 4,.ref (p 6 0)),("written",p 8 6,.ref (p 7 0)),("row",p 8 8,.ref (p 11 0)),("parts",p 8 10,.ref (p 12 0)),("path",p 8 12,.str (aU [ao a,ao d]) (p 8 13))] (p 8 1),aJ (.ref (p 10 0)),ab g (p 10 1),(aE [a,d] (p 11)).2,(aE [ao a,ao d] (p 12)).2],[(e 0,az [.str (m4 [ao a,ao d]) (e 1),.str (m7 [ao a,ao d]) (e 2)] 0)]++[]):=by
 rw [dR]
 exact bt (enc:=dy) eN (orcs:=[vj [ao a,ao d]]) (aa (zX (gG (.inr ⟨a,k,d,m,rfl⟩)) (by decide)) aq) 30 1 [0,8,0,2,8,0,0,69,12,12,12,0,12,0,54,12] [0,1,2,3,4,5,6,7,8,9,10,11,12] none (fun n o f=>aB [(f 0).1+0,(f 0).2.2 0,p 12 2])
theorem Io (b c:Bool) (w:Yc) (a d:Str) (i:Nat) (h j g:Yb) (p:af) (k:a∈b1) (e:d∈b1):aI (B0 (W b c w)) 4 (isTrue (cY (c3 (bN (dS w 2))) 1) (bl w p) (eval (cY (c3 (bN (dS w 2))) 1) (bl w p))) [(p 1 0,ba (p 2 0) (p 3 0)),(p 2 0,az [.ref (p 4 0),.ref (p 5 0)] 0),(p 3 0,az [.ref (p 11 0),.ref (p 12 0)] 0),(p 4 0,am (.ref (p 6 0)) i),(p 5 0,am (.ref (p 7 0)) i),(p 6 0,ab h (p 6 1)),(p 7 0,ab j (p 7 1)),(p 8 0,aG w [("script",p 8 2,.ref (p 8 3)),("rows",p 8 4,.ref (p 6 0)),("written",p 8 6,.ref (p 7 0)),("row",p 8 8,.ref (p 11 0)),("parts",p 8 10,.ref (p 12 0)),("path",p 8 12,.str (aU [ao a,ao d]) (p 8 13))] (p 8 1)),(p 9 0,aJ (.ref (p 10 0))),(p 10 0,ab g (p 10 1)),aE [a,d] (p 11),aE [ao a,ao d] (p 12)] fun o=>(false,[ba (p 2 0) (p 3 0),az [.ref (p 4 0),.ref (p 5 0)] 0,az [.ref (p 11 0),.ref (p 12 0)] 0,am (.ref (p 6 0)) i,am (.ref (p 7 0)) i,ab h (p 6 1),ab j (p 7 1),aG w [("script",p 8 2,.ref (p 8 3)),("rows",p 8 4,.ref (p 6 0)),("written",p 8 6,.ref (p 7 0)),("row",p 8 8,.ref (p 11 0)),("parts",p 8 10,.ref (p 12 0)),("path",p 8 12,.str (aU [ao a,ao d]) (p 8 13))] (p 8 1),aJ (.ref (p 10 0)),ab g (p 10 1),(aE [a,d] (p 11)).2,(aE [ao a,ao d] (p 12)).2],[]++[]):=by
 rw [s8,dR]
 exact bt (enc:=mV) sB (orcs:=[vk [ao a,ao d],ju (ao d),o2 "str.__ne__" (b4 (ao d)) d fun _=>.bool false]) (aa (zY (gG (.inr ⟨a,k,d,e,rfl⟩)) (by decide)) (aa (ki (ao d) (km d e) (by decide)) (aa (aQ (AH e)) aq))) 37 3 [0,0,8,0,2,0,3,8,0,0,69,11,11,11,0,11,0,54,11,4] [0,1,2,3,4,5,6,7,8,9,10,11] none (fun n m f=>fun _=>0)
theorem Ip (b c:Bool) (w:Yc) (a d:Str) (i:Nat) (h k g:Yb) (p:af) (m:a∈b1) (o:d∈b1):aI (B0 (W b c w)) 4 (eval (d3 (bN (dS w 3))) (bl w p)) [(p 1 0,ba (p 2 0) (p 3 0)),(p 2 0,az [.ref (p 4 0),.ref (p 5 0)] 0),(p 3 0,az [.ref (p 11 0),.ref (p 12 0)] 0),(p 4 0,am (.ref (p 6 0)) i),(p 5 0,am (.ref (p 7 0)) i),(p 6 0,ab h (p 6 1)),(p 7 0,ab k (p 7 1)),(p 8 0,aG w [("script",p 8 2,.ref (p 8 3)),("rows",p 8 4,.ref (p 6 0)),("written",p 8 6,.ref (p 7 0)),("row",p 8 8,.ref (p 11 0)),("parts",p 8 10,.ref (p 12 0)),("path",p 8 12,.str (aU [ao a,ao d]) (p 8 13))] (p 8 1)),(p 9 0,aJ (.ref (p 10 0))),(p 10 0,ab g (p 10 1)),aE [a,d] (p 11),aE [ao a,ao d] (p 12)] fun e=>((.ref (e 0)),[ba (p 2 0) (p 3 0),az [.ref (p 4 0),.ref (p 5 0)] 0,az [.ref (p 11 0),.ref (p 12 0)] 0,am (.ref (p 6 0)) i,am (.ref (p 7 0)) i,ab h (p 6 1),ab k (p 7 1),aG w [("script",p 8 2,.ref (p 8 3)),("rows",p 8 4,.ref (p 6 0)),("written",p 8 6,.ref (p 7 0)),("row",p 8 8,.ref (p 11 0)),("parts",p 8 10,.ref (p 12 0)),("path",p 8 12,.str (aU [ao a,ao d]) (p 8 13))] (p 8 1),aJ (.ref (p 10 0)),ab g (p 10 1),(aE [a,d] (p 11)).2,(aE [ao a,ao d] (p 12)).2],[(e 0,ab (cR (cW [ao a,ao d]) (fun i=>e (i+1)) 0) (cW [ao a,ao d]).length)]++[]):=by
 rw [dR]
 exact bt (enc:=dy) eN (orcs:=[vK w [12,11,13,14] [ao a,ao d]]) (aa (AF (by decide) (gG (.inr ⟨a,m,d,o,rfl⟩)) (by decide)) aq) 23 1 [8,12,12,0,12,0,23,13,2,15,15,14] [0,1,2,3,4,5,6,7,8,9,10,11,13] none (fun n q f=>fun i=>match i with | 0=>n+1 | j+1=>(f 0).2.2 (j+1))
theorem Iq (b c:Bool) (w:Yc) (a d:Str) (i:Nat) (g h e:Yb) (p:af) (k:a∈b1) (m:d∈b1):aI (B0 (W b c w)) 4 (eval (dd (bN (dS w 3))) (bl w p)) [(p 1 0,ba (p 2 0) (p 3 0)),(p 2 0,az [.ref (p 4 0),.ref (p 5 0)] 0),(p 3 0,az [.ref (p 11 0),.ref (p 12 0)] 0),(p 4 0,am (.ref (p 6 0)) i),(p 5 0,am (.ref (p 7 0)) i),(p 6 0,ab g (p 6 1)),(p 7 0,ab h (p 7 1)),(p 8 0,aG w [("script",p 8 2,.ref (p 8 3)),("rows",p 8 4,.ref (p 6 0)),("written",p 8 6,.ref (p 7 0)),("row",p 8 8,.ref (p 11 0)),("parts",p 8 10,.ref (p 12 0)),("path",p 8 12,.str (aU [ao a,ao d]) (p 8 13))] (p 8 1)),(p 9 0,aJ (.ref (p 10 0))),(p 10 0,ab e (p 10 1)),aE [a,d] (p 11),aE [ao a,ao d] (p 12)] fun j=>((.ref (j 0)),[ba (p 2 0) (p 3 0),az [.ref (p 4 0),.ref (p 5 0)] 0,az [.ref (p 11 0),.ref (p 12 0)] 0,am (.ref (p 6 0)) i,am (.ref (p 7 0)) i,ab g (p 6 1),ab h (p 7 1),aG w [("script",p 8 2,.ref (p 8 3)),("rows",p 8 4,.ref (p 6 0)),("written",p 8 6,.ref (p 7 0)),("row",p 8 8,.ref (p 11 0)),("parts",p 8 10,.ref (p 12 0)),("path",p 8 12,.str (aU [ao a,ao d]) (p 8 13))] (p 8 1),aJ (.ref (p 10 0)),ab e (p 10 1),(aE [a,d] (p 11)).2,(aE [ao a,ao d] (p 12)).2],[(j 0,ab (cq (dh [a,d] (fun i=>p 11 (i+1)) 0)) (cq (dh [a,d] (fun i=>p 11 (i+1)) 0)).length)]++[]):=by
 rw [dR]
 exact bt (enc:=dy) eN (orcs:=[vL w [12,10,13,14] [a,d]]) (aa (AG (by decide) (.inr ⟨a,k,d,m,rfl⟩) (by decide)) aq) 23 1 [8,11,11,0,11,0,23,13,2,15,15,14] [0,1,2,3,4,5,6,7,8,9,10,11,13] none (fun n o f=>aB [n+1])
theorem Ir (b c:Bool) (w:Yc) (r:Yg) (i:Nat) (d e a:Yb) (p:af):aI (B0 (W b c w)) 4 (eval (dd (cY (c3 (bN (dS w 1))) 1)) (bl w p)) [(p 1 0,ba (p 2 0) (p 3 0)),(p 2 0,az [.ref (p 4 0),.ref (p 5 0)] 0),(p 3 0,az [.ref (p 11 0),.ref (p 12 0)] 0),(p 4 0,am (.ref (p 6 0)) i),(p 5 0,am (.ref (p 7 0)) i),(p 6 0,ab d (p 6 1)),(p 7 0,ab e (p 7 1)),(p 8 0,aG w [("script",p 8 2,.ref (p 8 3)),("rows",p 8 4,.ref (p 6 0)),("written",p 8 6,.ref (p 7 0)),("row",p 8 8,.ref (p 11 0)),("parts",p 8 10,.ref (p 12 0)),("path",p 8 12,.str (aU (r.map ao)) (p 8 13))] (p 8 1)),(p 9 0,aJ (.ref (p 10 0))),(p 10 0,ab a (p 10 1)),aE r (p 11),aE (r.map ao) (p 12)] fun h=>((.ref (p 11 0)),[ba (p 2 0) (p 3 0),az [.ref (p 4 0),.ref (p 5 0)] 0,az [.ref (p 11 0),.ref (p 12 0)] 0,am (.ref (p 6 0)) i,am (.ref (p 7 0)) i,ab d (p 6 1),ab e (p 7 1),aG w [("script",p 8 2,.ref (p 8 3)),("rows",p 8 4,.ref (p 6 0)),("written",p 8 6,.ref (p 7 0)),("row",p 8 8,.ref (p 11 0)),("parts",p 8 10,.ref (p 12 0)),("path",p 8 12,.str (aU (r.map ao)) (p 8 13))] (p 8 1),aJ (.ref (p 10 0)),ab a (p 10 1),(aE r (p 11)).2,(aE (r.map ao) (p 12)).2],[]++[]):=by
 rw [dR]
 exact bt (enc:=dy) eN (orcs:=[]) aq 5 0 [8] [0,1,2,3,4,5,6,7,8,9,10,11] none (fun n g f=>fun _=>0)
theorem Is (b c:Bool) (w:Yc) (r:Yg) (i:Nat) (e g d:Yb) (p:af) (h:b7 r):aI (B0 (W b c w)) 4 (eval (d3 (cY (c3 (bN (dS w 2))) 0)) (bl w p)) [(p 1 0,ba (p 2 0) (p 3 0)),(p 2 0,az [.ref (p 4 0),.ref (p 5 0)] 0),(p 3 0,az [.ref (p 11 0),.ref (p 12 0)] 0),(p 4 0,am (.ref (p 6 0)) i),(p 5 0,am (.ref (p 7 0)) i),(p 6 0,ab e (p 6 1)),(p 7 0,ab g (p 7 1)),(p 8 0,aG w [("script",p 8 2,.ref (p 8 3)),("rows",p 8 4,.ref (p 6 0)),("written",p 8 6,.ref (p 7 0)),("row",p 8 8,.ref (p 11 0)),("parts",p 8 10,.ref (p 12 0)),("path",p 8 12,.str (aU (r.map ao)) (p 8 13))] (p 8 1)),(p 9 0,aJ (.ref (p 10 0))),(p 10 0,ab d (p 10 1)),aE r (p 11),aE (r.map ao) (p 12)] fun a=>((.ref (a 0)),[ba (p 2 0) (p 3 0),az [.ref (p 4 0),.ref (p 5 0)] 0,az [.ref (p 11 0),.ref (p 12 0)] 0,am (.ref (p 6 0)) i,am (.ref (p 7 0)) i,ab e (p 6 1),ab g (p 7 1),aG w [("script",p 8 2,.ref (p 8 3)),("rows",p 8 4,.ref (p 6 0)),("written",p 8 6,.ref (p 7 0)),("row",p 8 8,.ref (p 11 0)),("parts",p 8 10,.ref (p 12 0)),("path",p 8 12,.str (aU (r.map ao)) (p 8 13))] (p 8 1),aJ (.ref (p 10 0)),ab d (p 10 1),(aE r (p 11)).2,(aE (r.map ao) (p 12)).2],[(a 0,az [.str (m4 (r.map ao)) (a 1),.str (m7 (r.map ao)) (a 2)] 0)]++[]):=by
 rw [dR]
 exact bt (enc:=dy) eN (orcs:=[zZ (r.map ao)]) (aa (Gg (gG h) (by decide)) aq) 11 1 [0,8,0,2] [0,1,2,3,4,5,6,7,8,9,10,11,12] none (fun n j f=>(f 0).2.2)
def kx (w:Yc) (r:Yg) (i:Nat) (c b a:Yb) (p:af) (d:Ye):Yf:=[ba (p 2 0) (p 3 0),az [.ref (p 4 0),.ref (p 5 0)] 0,az [.ref (p 11 0),.ref (p 12 0)] 0,am (.ref (p 6 0)) i,am (.ref (p 7 0)) i,ab c (p 6 1),ab b (p 7 1),aG w [("script",p 8 2,.ref (p 8 3)),("rows",p 8 4,.ref (p 6 0)),("written",p 8 6,.ref (p 7 0)),("row",p 8 8,.ref (p 11 0)),("parts",p 8 10,.ref (p 12 0)),("path",p 8 12,.str (aU (r.map ao)) (p 8 13))] (p 8 1),aJ (.ref (p 10 0)),ab (i0 a (aU (r.map ao)) (p 8 13)) (d 0),(aE r (p 11)).2,(aE (r.map ao) (p 12)).2]
theorem It (b c:Bool) (w:Yc) (r:Yg) (i:Nat) (d e a:Yb) (p:af) (g:a.length≤90) (j:bk a):aI (B0 (W b c w)) 4 (execs [dS w 4] (bl w p)) [(p 1 0,ba (p 2 0) (p 3 0)),(p 2 0,az [.ref (p 4 0),.ref (p 5 0)] 0),(p 3 0,az [.ref (p 11 0),.ref (p 12 0)] 0),(p 4 0,am (.ref (p 6 0)) i),(p 5 0,am (.ref (p 7 0)) i),(p 6 0,ab d (p 6 1)),(p 7 0,ab e (p 7 1)),(p 8 0,aG w [("script",p 8 2,.ref (p 8 3)),("rows",p 8 4,.ref (p 6 0)),("written",p 8 6,.ref (p 7 0)),("row",p 8 8,.ref (p 11 0)),("parts",p 8 10,.ref (p 12 0)),("path",p 8 12,.str (aU (r.map ao)) (p 8 13))] (p 8 1)),(p 9 0,aJ (.ref (p 10 0))),(p 10 0,ab a (p 10 1)),aE r (p 11),aE (r.map ao) (p 12)] fun h=>(.next,kx w r i d e a p h,[]++[]):=by
 rw [cH]
 exact bt (enc:=cc) cG (orcs:=[Ax a (aU (r.map ao)) 9]) (aa (HI g j (by decide)) aq) 14 1 [0,9,8,0,2] [0,1,2,3,4,5,6,7,8,9,10,11] none (fun n k f=>(f 0).2.2)
end
section
open SeqAt MeetsSeq3
structure ip (B:bf) (h0:Heap) (T:Ya) (h:Heap):Prop where
 size:h0.objs.size≤h.objs.size
 keep:∀b ob,h0.get? b=some ob→b∉T.map (·.1)→h.get? b=some ob
 own:∀p∈T,h.get? p.1=some p.2
 inB:B.In h
structure vR (B:bf) (h0:Heap) (adr:List Addr):Prop where
 nd:adr.Nodup
 lo:∀a∈adr,B.lo≤a
 lt:∀a∈adr,a<h0.objs.size
theorem Lv.under {m:Nat} {A:Around} {c:Code} (h:Lv (m+1) A) (t:fX c):Lv m (A.under c):=by
 refine ⟨h.1,?_,?_⟩
 ·have a:=t.weight
  have:=h.2.1
  show A.depth+c.weight+48*m≤900
  lia
 ·have a:=t.units
  have:=h.2.2
  show A.units+c.cUnits+256*m≤9000
  lia
theorem aI.step {B:bf} (O:B.Ok) {m:Nat} {α : Type} {t:Sem α} {c:Ya} {e:Ye→α×Yf×Ya} (P:aI B m t c e) (F:∀f,(e f).2.1.length=c.length) {A:Around} (D:Lv m A) {o h:Heap} (Z:vR B o (c.map (·.1))) (N:ip B o c h) {z:Nat} {w:Array GenState} {d:Drawn} {u:OsState} {Q : α→Shared→Prop} {E:Yd→Shared→Prop}
  (C:∀g i f,ip B o ((c.map (·.1)).zip (e f).2.1) g→(∀p∈(e f).2.2,g.get? p.1=some p.2∧h.objs.size≤p.1)→(∀b j,h.get? b=some j→b∉c.map (·.1)→g.get? b=some j)→h.objs.size≤g.objs.size→Q (e f).1 ⟨g,w,d,i,u⟩):wpAny B.M A t Q E ⟨h,w,d,z,u⟩:=by
 refine P.go A D h z w d u Q E Z.nd (fun p k=>⟨N.own p k,Z.lo _ (List.mem_map_of_mem k)⟩) N.inB fun g i f le x k y _ => ?_
 refine C g i f ⟨Nat.le_trans N.size le,fun b j q n => ?_,k,mR O N.inB le (fun a y=>Z.lo a y) x⟩ y x le
 rw [jq (F f)] at n
 exact x b j (N.keep b j q n) n
section
variable {B:bf} {A:Around} {E:Yd→Shared→Prop} {s:Shared} {Q:Bool→Shared→Prop}
theorem vS {a b:Addr} {f j:Yb} {n k:Nat} {xs:Yg} (t:A.units<cLine) (u:s.heap.get? a=some (ab f n)) (o:s.heap.get? b=some (ab j k)) (g:StrsAre f xs) (m:StrsAre j xs) (h:Q false s) :
  wpAny B.M A (compareOp .NotEq (.ref a) (.ref b)) (fun c d=>wpAny B.M A (truthy c) Q E d) E s:=by
 have q:=RcNeAt.lists (A:=A) (s:=s) (l:=a) (b:=b) (e:=fun i=>xs[i]? == xs[i]?) ⟨_,u,rfl,n,rfl⟩ ⟨_,o,rfl,k,rfl⟩ (by rw [List.size_toArray,List.size_toArray,ig g,ig m]) t (uU g m)
 have p:(List.range f.toArray.size).all (fun i=>xs[i]? == xs[i]?)=true:=by
  rw [List.all_eq_true]
  intro i _
  exact beq_self_eq_true _
 rw [p] at q
 exact q B.prog B.w E _ (wpAny_truthy_bool h)
theorem Iu {a b:Addr} {g f:Yb} {n k:Nat} {xs:Yg} (u:A.units<cLine) (w:s.heap.get? a=some (az g n)) (o:s.heap.get? b=some (az f k)) (j:StrsAre g xs) (m:StrsAre f xs) (h:Q false s) :
  wpAny B.M A (compareOp .NotEq (.ref a) (.ref b)) (fun c d=>wpAny B.M A (truthy c) Q E d) E s:=by
 have q:=RcNeAt.tuples (A:=A) (s:=s) (l:=a) (b:=b) (e:=fun i=>xs[i]? == xs[i]?) ⟨_,w,rfl,n,rfl⟩ ⟨_,o,rfl,k,rfl⟩ u (uU j m)
 have t:(!((List.range (min g.toArray.size f.toArray.size)).all (fun i=>xs[i]? == xs[i]?)&&g.toArray.size==f.toArray.size))=false:=by
  have p:(List.range (min g.toArray.size f.toArray.size)).all (fun i=>xs[i]? == xs[i]?)=true:=by
   rw [List.all_eq_true]
   intro i _
   exact beq_self_eq_true _
  rw [p,List.size_toArray,List.size_toArray,ig j,ig m,beq_self_eq_true]
  rfl
 rw [t] at q
 exact q B.prog B.w E _ (wpAny_truthy_bool h)
end
end
theorem iq {h:Heap} {a:Addr} {o:Obj} (e:h.get? a=some o):a<h.objs.size:=Heap.lt_size e
theorem Iv {B:bf} {h:Heap} {T:Ya} (nd:(T.map (·.1)).Nodup) (c:∀p∈T,h.get? p.1=some p.2∧B.lo≤p.1):vR B h (T.map (·.1)):=by
 refine ⟨nd,fun a d => ?_,fun a d => ?_⟩ <;> obtain ⟨p,b,rfl⟩:=List.mem_map.mp d
 ·exact (c p b).2
 ·exact iq (c p b).1
theorem Iw {B:bf} {h:Heap} {T:Ya} (c:∀p∈T,h.get? p.1=some p.2∧B.lo≤p.1) (a:B.In h):ip B h T h:=⟨Nat.le_refl _,fun _ _ e _=>e,fun p b=>(c p b).1,a⟩
theorem s9 (T:Ya):(T.map (·.1)).zip (T.map (·.2))=T:=by
 induction T with
 | nil=>rfl
 | cons x l a=>rw [List.map_cons,List.map_cons,List.zip_cons_cons,a]
section
variable {B:bf} {m:Nat} {α β : Type}
theorem aI.co {t:Sem α} {T:Ya} {c a:Ye→α×Yf×Ya} (h:aI B m t T c)
  (q:∀e,∃b,(a b).1=(c e).1∧(a b).2.1=(c e).2.1∧(a b).2.2.Sublist (c e).2.2):aI B m t T a:=by
 refine ⟨fun A x I n C d y Q E nd D k G=>h.go A x I n C d y Q E nd D k fun u i e le F o H f => ?_⟩
 obtain ⟨b,w,s,j⟩:=q e
 have z:=G u i b le F (by rw [s];exact o) (fun p g=>H p (j.subset g)) (List.Sublist.nodup (j.map _) f)
 rw [w] at z
 exact z
theorem aI.pur (v : α) (T:Ya):aI B m (Pure.pure v) T fun _=>(v,T.map (·.2),[]):=by
 refine ⟨fun A i f a k d j Q E nd b g c=>wpAny_pure (c f a id (Nat.le_refl _) (fun _ _ e _=>e) (fun x hx => ?_) (fun _ h=>nomatch h) List.nodup_nil)⟩
 rw [s9] at hx
 exact (b x hx).1
theorem aI.frame {t:Sem α} {T:Ya} {c:Ye→α×Yf×Ya} (h:aI B m t T c) (H:∀e,(c e).2.1.length=T.length) (F:Ya) :
  aI B m t (T++F) fun e=>((c e).1,(c e).2.1++F.map (·.2),(c e).2.2):=by
 refine ⟨fun A C J s G d D Q E nd k o I => ?_⟩
 rw [List.map_append,List.nodup_append] at nd
 refine h.go A C J s G d D Q E nd.1 (fun p f=>k p (List.mem_append_left _ f)) o fun u i e le n f w g=>I u i e le (fun b y q z=>n b y q fun j=>z ?_) (fun x hx => ?_) w g
 ·rw [List.map_append];exact List.mem_append_left _ j
 ·have a:x∈((T++F).map (·.1)).zip ((c e).2.1++F.map (·.2)):=hx
  rw [List.map_append,iT (by rw [List.length_map,H]),s9] at a
  rcases List.mem_append.mp a with a | a
  ·exact f x a
  ·exact n x.1 x.2 (k x (List.mem_append_right _ a)).1 fun j=>nd.2.2 x.1 j x.1 (List.mem_map_of_mem a) rfl
theorem aI.bind (O:B.Ok) {t:Sem α} {f : α→Sem β} {T:Ya} {v:Ye→α} {o:Ye→Yf} {N:Ye→Ya} {u:Ye→Ye→β} {o2 d2:Ye→Ye→Yf} {N2:Ye→Ye→Ya}
  (P:aI B m t T fun c=>(v c,o c,N c)) (lo:∀c,(o c).length=T.length)
  (F:∀c,aI B m (f (v c)) ((T.map (·.1)).zip (o c)++N c) fun g=>(u c g,o2 c g++d2 c g,N2 c g))
  (l2:∀c g,(o2 c g).length=T.length) (ld:∀c g,(d2 c g).length=(N c).length) :
  aI B m (t >>= f) T fun c=>(u (ev c) (od c),o2 (ev c) (od c),((N (ev c)).map (·.1)).zip (d2 (ev c) (od c))++N2 (ev c) (od c)):=by
 refine ⟨fun A hA h tk gs d os Q E nd X L hR=>wpAny_bind (P.go A hA h tk gs d os _ E nd X L fun h' Y c le kp i j H => ?_)⟩
 have mf:=jq (lo c)
 have I:∀a∈T.map (·.1),B.lo≤a:=fun a j=>by
  obtain ⟨p,i,rfl⟩:=List.mem_map.mp j
  exact (X p i).2
 have R:∀a∈T.map (·.1),a<h.objs.size:=fun a j=>by
  obtain ⟨p,i,rfl⟩:=List.mem_map.mp j
  exact iq (X p i).1
 have k:∀a∈(N c).map (·.1),h.objs.size≤a:=fun a s=>by
  obtain ⟨p,i,rfl⟩:=List.mem_map.mp s
  exact (j p i).2
 have S:∀a∈(N c).map (·.1),a<h'.objs.size:=fun a s=>by
  obtain ⟨p,i,rfl⟩:=List.mem_map.mp s
  exact iq (j p i).1
 have fe:((((T.map (·.1)).zip (o c))++N c).map (·.1))=T.map (·.1)++(N c).map (·.1):=by rw [List.map_append,mf]
 refine (F c).go A hA h' Y gs d os Q E ?_ (fun p e => ?_) (mR O L le I kp) fun y C g K w D n Z => ?_
 ·rw [fe]
  exact List.nodup_append.mpr ⟨nd,H,fun a U b V=>Nat.ne_of_lt (Nat.lt_of_lt_of_le (R a U) (k b V))⟩
 ·rcases List.mem_append.mp e with e | e
  ·exact ⟨i p e,I _ (by rw [←mf];exact List.mem_map_of_mem e)⟩
  ·exact ⟨(j p e).1,Nat.le_trans L.2 (j p e).2⟩
 ·rw [fe] at w D
  have G:∀x∈(T.map (·.1)).zip (o2 c g)++((N c).map (·.1)).zip (d2 c g),y.get? x.1=some x.2:=fun x hx=>D x (by
   show x∈(T.map (·.1)++(N c).map (·.1)).zip (o2 c g++d2 c g)
   rw [iT (by rw [List.length_map,l2])];exact hx)
  have mz:=jq (ld c g)
  have z:=hR y C (lq c g) (Nat.le_trans le K) (fun b ob q hb=>w b ob (kp b ob q hb) fun J => ?_)
  ·simp only [vb,vc] at z
   refine z (fun x hx=>G x (List.mem_append_left _ hx)) (fun p e => ?_) ?_
   ·rcases List.mem_append.mp e with e | e
    ·exact ⟨G p (List.mem_append_right _ e),k _ (by rw [←mz];exact List.mem_map_of_mem e)⟩
    ·exact ⟨(n p e).1,Nat.le_trans le (n p e).2⟩
   ·rw [List.map_append,mz]
    refine List.nodup_append.mpr ⟨H,Z,fun a U b V => ?_⟩
    obtain ⟨q,hq,rfl⟩:=List.mem_map.mp V
    exact Nat.ne_of_lt (Nat.lt_of_lt_of_le (S a U) (n q hq).2)
  ·rcases List.mem_append.mp J with J | J
   ·exact hb J
   ·exact absurd (iq q) (Nat.not_lt.mpr (k b J))
theorem aI.onRaise {t:Sem α} {k:Yd→Sem Unit} {T:Ya} {a:Ye→α×Yf×Ya} (h:aI B m t T a):aI B m (t.onRaise k) T a:=
 ⟨fun A f n c j d g Q E nd e b i=>wpAny_onRaise (h.go A f n c j d g Q _ nd e b i)⟩
theorem aI.standAt {p:Pos} {f:Unit→Sem β} {T:Ya} {a:Ye→β×Yf×Ya} (h:aI B m (f ()) T a):aI B m (standAt p >>= f) T a:=
 ⟨fun A g n c k d i Q E nd e b j=>wpAny_bind (wpAny_standAt (h.go A g n c k d i Q E nd e b j))⟩
theorem aL.ofM {c:Code} (x:fX c) {T:Ya} {b:Ye→Fin} {o:Ye→Yf} {N:Ye→Ya} {e:Ye→e4} (h:aI B m (denote table c) T fun a=>(b a,o a,N a))
  (y:∀a,(match b a with | .done f=>(e a).1 = .ok f | .again j=>j.quiet=true∧(e a).1 = .error j)∧(e a).2=(o a,N a)):aL B (m+1) c T e:=by
 intro A C H u q d p R nd D t F
 refine codeAny_of_tree (h.go (A.under c) (C.under x) H u q d p _ _ nd D t fun n g a le E w G s => ?_)
 obtain ⟨i,k⟩:=y a
 have z:=F n g a le E (by rw [k];exact w) (by rw [k];exact G) (by rw [k];exact s)
 show match b a with | .done f=>R (.ok f) ⟨n,q,d,g,p⟩ | .again j=>j.quiet=true∧codeAny B.M A j R ⟨n,q,d,g,p⟩
 revert i
 cases b a with
 | done f=>intro i;rw [i] at z;exact z
 | again j=>intro i;rw [i.2] at z;exact ⟨i.1,z⟩
theorem aI.letGo {elts:List Expr} {x1:Nat} {pt:Pos} {z a:Addr} {e:Nat} {rest:Yb}:aI B m (letOwnedTupleGo (.Tuple elts x1 pt) (.ref z) (.ref a)) [(z,aW e (rawInt a) rest)] fun _=>((),[aW e .none rest],[]):=by
 refine ⟨fun A C c g o d n Q E nd t w u => ?_⟩
 have i:=(t _ (.head _)).1
 refine wpAny_letGo (s:=⟨c,o,d,g,n⟩) i ?_
 have j:=Heap.SameBut.update (h:=c) (a:=z) (f:=Obj.mapFields (·.setIfInBounds 0 .none))
 have p:(c.update z (Obj.mapFields (·.setIfInBounds 0 .none))).get? z=some (aW e .none rest):=by
  rw [Heap.get?_update_self _ i rfl]
  simp [aW,Obj.mapFields]
 refine u _ g id ?_ (fun b y q k=>(j.2 b fun e=>k (by rw [e];exact .head _)).trans q) (fun x hx => ?_) (fun _ h=>nomatch h) List.nodup_nil
 ·exact Nat.le_of_eq j.1.symm
 ·have:x=(z,aW e .none rest):=by simpa using hx
  rw [this];exact p
theorem aI.cons (O:B.Ok) {s:Stmt} {l:List Stmt} {c:Env} {T:Ya} {o:Ye→Yf} {N:Ye→Ya} {u:Ye→Ye→Flow} {o2 d2:Ye→Ye→Yf} {N2:Ye→Ye→Ya}
  (P:aI B m (PySem.exec s c) T fun a=>(Flow.next,o a,N a)) (lo:∀a,(o a).length=T.length)
  (F:∀a,aI B m (execs l c) ((T.map (·.1)).zip (o a)++N a) fun b=>(u a b,o2 a b++d2 a b,N2 a b))
  (d:∀a b,(o2 a b).length=T.length) (ld:∀a b,(d2 a b).length=(N a).length) :
  aI B m (execs (s::l) c) T fun a=>(u (ev a) (od a),o2 (ev a) (od a),((N (ev a)).map (·.1)).zip (d2 (ev a) (od a))++N2 (ev a) (od a)):=by
 rw [execs_cons]
 exact aI.bind O P lo F d ld
theorem lz (O:B.Ok) {elts:List Expr} {x1:Nat} {pt:Pos} {z:Addr} {d:List Stmt} {i:Env} {e:Nat} {rest:Yb} {T:Ya} {Z0:Obj} {o1:Ye→Yf} {V1:Ye→Obj} {o2:Ye→Ye→Yf} {V2:Ye→Ye→Obj} {o3:Ye→Ye→Ye→Yf} {y:Ye→e4}
  (P:fX (.forLoop (.Tuple elts x1 pt) (.ref z) d [] i))
  (J:aI B m (pyNext (.ref z)) ((z,Z0)::T) fun b=>(some (.ref (b 0)),aW e (rawInt (b 0)) rest::o1 b,[(b 0,V1 b)])) (n:∀b,(o1 b).length=T.length)
  (L:∀b,aI B m (assign (.Tuple elts x1 pt) i (.ref (b 0))) ((z,aW e .none rest)::((T.map (·.1)).zip (o1 b)++[(b 0,V1 b)])) fun c=>((),aW e .none rest::(o2 b c++[V2 b c]),[])) (t:∀b c,(o2 b c).length=T.length)
  (K:∀b c,aI B m (execs d i) ((z,aW e .none rest)::(T.map (·.1)).zip (o2 b c)) fun j=>(Flow.next,aW e .none rest::o3 b c j,[])) (l3:∀b c j,(o3 b c j).length=T.length)
  (E:∀b,y b=(.error (.forLoop (.Tuple elts x1 pt) (.ref z) d [] i),aW e .none rest::o3 (ev b) (ev (od b)) (od (od b)),[])) :
  aL B (m+1) (.forLoop (.Tuple elts x1 pt) (.ref z) d [] i) ((z,Z0)::T) y:=by
 have C:∀{l:Yf},l.length=T.length→((T.map (·.1)).zip l).length=T.length:=fun h=>by rw [List.length_zip,List.length_map,h,Nat.min_self]
 have I:∀{l:Yf},l.length=T.length→((T.map (·.1)).zip l).map (·.2)=l:=fun h=>List.map_snd_zip (by rw [List.length_map,h];exact Nat.le_refl _)
 have D:∀{l:Yf},l.length=T.length→((T.map (·.1)).zip l).map (·.1)=T.map (·.1):=fun h=>jq h
 have q:∀b c,aI B m (do
   match ←execs d i with
   | .next | .cont=>again (.forLoop (.Tuple elts x1 pt) (.ref z) d [] i)
   | .brk=>pure (.done .next)
   | .ret v=>pure (.done (.ret v))) ((z,aW e .none rest)::(T.map (·.1)).zip (o2 b c)) fun j=>(Fin.again (.forLoop (.Tuple elts x1 pt) (.ref z) d [] i),aW e .none rest::o3 b c j,[]):=fun b c=>by
  refine (aI.bind O (K b c) (fun j=>by rw [List.length_cons,List.length_cons,l3,C (t _ _)]) (u:=fun _ _=>Fin.again (.forLoop (.Tuple elts x1 pt) (.ref z) d [] i)) (o2:=fun j _=>aW e .none rest::o3 b c j) (d2:=fun _ _=>[]) (N2:=fun _ _=>[]) (fun j => ?_) (fun j _=>by rw [List.length_cons,List.length_cons,l3,C (t _ _)]) fun _ _=>rfl).co fun j=>⟨ev j,rfl,rfl,List.Sublist.refl _⟩
  have h:=aI.pur (B:=B) (m:=m) (Fin.again (.forLoop (.Tuple elts x1 pt) (.ref z) d [] i)) ((((z,aW e .none rest)::(T.map (·.1)).zip (o2 b c)).map (·.1)).zip (aW e .none rest::o3 b c j)++[])
  refine h.co fun A=>⟨A,rfl,?_,List.Sublist.refl _⟩
  show aW e .none rest::o3 b c j++[]=_
  rw [List.append_nil,List.append_nil,List.map_cons,List.zip_cons_cons,List.map_cons,D (t _ _),I (l3 _ _ _)]
 have p:∀b,aI B m (do
   assign (.Tuple elts x1 pt) i (.ref (b 0))
   match ←execs d i with
   | .next | .cont=>again (.forLoop (.Tuple elts x1 pt) (.ref z) d [] i)
   | .brk=>pure (.done .next)
   | .ret v=>pure (.done (.ret v))) ((z,aW e .none rest)::((T.map (·.1)).zip (o1 b)++[(b 0,V1 b)])) fun c=>(Fin.again (.forLoop (.Tuple elts x1 pt) (.ref z) d [] i),aW e .none rest::(o3 b (ev c) (od c)++[V2 b (ev c)]),[]):=fun b=>by
  have H:∀{l:Yf} {V:Obj},l.length=T.length→(aW e .none rest::(l++[V])).length=((z,aW e .none rest)::((T.map (·.1)).zip (o1 b)++[(b 0,V1 b)])).length:=fun h=>by simp [h,n]
  refine (aI.bind O (L b) (fun c=>H (t _ _)) (u:=fun _ _=>Fin.again (.forLoop (.Tuple elts x1 pt) (.ref z) d [] i)) (o2:=fun c j=>aW e .none rest::(o3 b c j++[V2 b c])) (d2:=fun _ _=>[]) (N2:=fun _ _=>[]) (fun c => ?_) (fun c j=>H (l3 _ _ _)) fun _ _=>rfl).co fun c=>⟨c,rfl,rfl,List.Sublist.refl _⟩
  have h:=(q b c).frame (fun j=>by rw [List.length_cons,List.length_cons,l3,C (t _ _)]) [(b 0,V2 b c)]
  have eT:(((z,aW e .none rest)::((T.map (·.1)).zip (o1 b)++[(b 0,V1 b)])).map (·.1)).zip (aW e .none rest::(o2 b c++[V2 b c]))++[]=((z,aW e .none rest)::(T.map (·.1)).zip (o2 b c))++[(b 0,V2 b c)]:=by
   rw [List.append_nil,List.map_cons,List.zip_cons_cons,List.map_append,D (n _),iT (by rw [List.length_map,t])]
   rfl
  rw [eT]
  refine h.co fun j=>⟨j,rfl,?_,List.Sublist.refl _⟩
  show aW e .none rest::(o3 b c j++[V2 b c])++[]=(aW e .none rest::o3 b c j)++[V2 b c]
  rw [List.append_nil];rfl
 have s:∀b,aI B m (do
   letOwnedTupleGo (.Tuple elts x1 pt) (.ref z) (.ref (b 0))
   assign (.Tuple elts x1 pt) i (.ref (b 0))
   match ←execs d i with
   | .next | .cont=>again (.forLoop (.Tuple elts x1 pt) (.ref z) d [] i)
   | .brk=>pure (.done .next)
   | .ret v=>pure (.done (.ret v))) ((((z,Z0)::T).map (·.1)).zip (aW e (rawInt (b 0)) rest::o1 b)++[(b 0,V1 b)]) fun c=>(Fin.again (.forLoop (.Tuple elts x1 pt) (.ref z) d [] i),(aW e .none rest::o3 b (ev c) (od c))++[V2 b (ev c)],[]):=fun b=>by
  have g:=(aI.letGo (B:=B) (m:=m) (elts:=elts) (x1:=x1) (pt:=pt) (z:=z) (a:=b 0) (e:=e) (rest:=rest)).frame (fun _=>rfl) ((T.map (·.1)).zip (o1 b)++[(b 0,V1 b)])
  have Q:∀V:Obj,(([aW e .none rest]:Yf)++((T.map (·.1)).zip (o1 b)++[(b 0,V)]).map (·.2))=aW e .none rest::(o1 b++[V]):=fun V=>by rw [List.map_append,I (n _)];rfl
  refine (aI.bind O (v:=fun _=>()) (o:=fun _=>aW e .none rest::(o1 b++[V1 b])) (N:=fun _=>[]) (g.co fun a=>⟨a,rfl,(Q _).symm,List.Sublist.refl _⟩) (fun _=>by simp [n]) (u:=fun _ _=>Fin.again (.forLoop (.Tuple elts x1 pt) (.ref z) d [] i)) (o2:=fun _ c=>aW e .none rest::(o3 b (ev c) (od c)++[V2 b (ev c)])) (d2:=fun _ _=>[]) (N2:=fun _ _=>[]) (fun _ => ?_) (fun _ c=>by simp [n,l3]) fun _ _=>rfl).co fun c=>⟨od c,rfl,rfl,List.Sublist.refl _⟩
  have eT:(([(z,aW e (rawInt (b 0)) rest)]++((T.map (·.1)).zip (o1 b)++[(b 0,V1 b)])).map (·.1)).zip (aW e .none rest::(o1 b++[V1 b]))++[]=(z,aW e .none rest)::((T.map (·.1)).zip (o1 b)++[(b 0,V1 b)]):=by
   rw [List.append_nil,List.map_append,List.map_append,D (n _),List.map_cons,List.map_nil,List.singleton_append,List.zip_cons_cons,iT (by rw [List.length_map,n])]
   rfl
  rw [eT]
  refine (p b).co fun j=>⟨j,rfl,?_,List.Sublist.refl _⟩
  show aW e .none rest::(o3 b (ev j) (od j)++[V2 b (ev j)])++[]=_
  rw [List.append_nil]
 have F:∀{l:Yf} {V:Obj},l.length=T.length→(V::l).length=((z,Z0)::T).length:=fun h=>by rw [List.length_cons,List.length_cons,h]
 have all:=aI.bind O (J.onRaise (k:=fun _=>standAt {pt with line:=0})) (fun b=>F (n b)) (f:=fun r=>match r with
  | none=>again (.block [] i)
  | some v=>do
   letOwnedTupleGo (.Tuple elts x1 pt) (.ref z) v
   assign (.Tuple elts x1 pt) i v
   match ←execs d i with
   | .next | .cont=>again (.forLoop (.Tuple elts x1 pt) (.ref z) d [] i)
   | .brk=>pure (.done .next)
   | .ret v=>pure (.done (.ret v))) s (fun b c=>F (l3 _ _ _)) (fun _ _=>rfl)
 have w:aI B m (denote table (.forLoop (.Tuple elts x1 pt) (.ref z) d [] i)) ((z,Z0)::T) fun b=>(Fin.again (.forLoop (.Tuple elts x1 pt) (.ref z) d [] i),aW e .none rest::o3 (ev b) (ev (od b)) (od (od b)),[]):=by
  show aI B m ((forTurn (.Tuple elts x1 pt) (.ref z) d [] i).onRaise (fun x=>do noteFrame x i;theTreesLotGoes x)) _ _
  refine aI.onRaise ?_
  unfold forTurn
  exact aI.standAt (all.co fun b=>⟨b,rfl,rfl,List.nil_sublist _⟩)
 exact aL.ofM P w fun b=>⟨⟨rfl,by rw [E]⟩,by rw [E]⟩
end
def nm:Expr→Nat
 | .Tuple _ c _=>c
 | _=>0
def nq:Expr→Pos
 | .Tuple _ _ p=>p
 | _=>jA
theorem Ix (w:Yc):sQ (dg w)=true:=by kernel_rfl
theorem AR (w:Yc):fB (dg w)=[dS w 0,dS w 1,dS w 2,dS w 3,dS w 4]:=by kernel_rfl
theorem vT (w:Yc):fT (dg w) = .Tuple (nb (fT (dg w))) (nm (fT (dg w))) (nq (fT (dg w))):=by kernel_rfl
theorem Iy (w:Yc):dS w 1 = .If (bN (dS w 1)) (pp (dS w 1)) [] (pq (dS w 1)):=by kernel_rfl
theorem IA (w:Yc):dS w 2 = .If (bN (dS w 2)) (pp (dS w 2)) [] (pq (dS w 2)):=by kernel_rfl
theorem IB (w:Yc):dS w 3 = .If (bN (dS w 3)) (pp (dS w 3)) [] (pq (dS w 3)):=by kernel_rfl
theorem IC {B:bf} (O:B.Ok) {U o k C t I D u:Expr} {B1 B2 B3:List Stmt} {S4:Stmt} {P1 P2 P3 P4 P5 P6 P7 P8:Pos} {a:Env} (m5:behindInMarks .NotEq k=false) (m6:behindInMarks .NotEq t=false) (m8:behindInMarks .NotEq u=false)
  {T:Ya} {ra:Addr} {rv:Yb} {rn:Nat} {r:Yg} (hT:(ra,ab rv rn)∈T) (hrv:StrsAre rv r)
  (p4:aI B 4 (PySem.isTrue U a (eval U a)) T fun _=>(false,T.map (·.2),[]))
  {v5:Ye→Yb} {n5:Ye→Nat} (vU:aI B 4 (eval o a) T fun f=>(.ref (f 0),T.map (·.2),[(f 0,ab (v5 f) (n5 f))])) (e5:∀f,StrsAre (v5 f) r)
  (K:aI B 4 (eval k a) T fun _=>(.ref ra,T.map (·.2),[]))
  {x6 y6:Str} {a6 b6 Y V:Ye→Nat} (p6l:aI B 4 (eval C a) T fun f=>(.ref (f 0),T.map (·.2),[(f 0,az [.str x6 (a6 f),.str y6 (b6 f)] 0)]))
  (vV:aI B 4 (eval t a) T fun f=>(.ref (f 0),T.map (·.2),[(f 0,az [.str x6 (Y f),.str y6 (V f)] 0)]))
  (p7:aI B 4 (PySem.isTrue I a (eval I a)) T fun _=>(false,T.map (·.2),[]))
  {v8 w8:Ye→Yb} {n8 n8':Ye→Nat} {xs:Yg} (vX:aI B 4 (eval D a) T fun f=>(.ref (f 0),T.map (·.2),[(f 0,ab (v8 f) (n8 f))]))
  (vY:aI B 4 (eval u a) T fun f=>(.ref (f 0),T.map (·.2),[(f 0,ab (w8 f) (n8' f))])) (e8:∀f,StrsAre (v8 f) xs) (e8':∀f,StrsAre (w8 f) xs)
  {L:Ye→Yf} (p9:aI B 4 (exec S4 a) T fun f=>(.next,L f,[])) (l9:∀f,(L f).length=T.length) :
  aI B 4 (execs [.If (.BoolOp .Or [U,.Compare o [.NotEq] [k] P1] P2) B1 [] P3,.If (.BoolOp .Or [.Compare C [.NotEq] [t] P4,I] P5) B2 [] P6,.If (.Compare D [.NotEq] [u] P7) B3 [] P8,S4] a) T fun f=>(.next,L f,[]):=by
 refine ⟨fun A j g tk gs d os Q E nd hn hB hR => ?_⟩
 have Z:vR B g (T.map (·.1)):=Iv nd hn
 have N:=Iw hn hB
 have R:A.units<cLine:=by
  have:=j.2.2
  have e:cLine=9900:=rfl
  lia
 have y:∀{G:Heap},g.objs.size≤G.objs.size→∀x,G.objs.size≤x→x∉T.map (·.1):=fun le x hx hm=>Nat.lt_irrefl _ (Nat.lt_of_lt_of_le (Z.lt x hm) (Nat.le_trans le hx))
 have m:(T.map (·.2)).length=T.length:=List.length_map _
 have n:=s9 T
 refine wpAny_execs_cons (wpAny_If (wpAny_isTrue_BoolOp (wpAny_allTrue_Or_cons ?_)))
 refine aI.step O p4 (fun _=>m) j Z N fun G tk1 ax1 J _ _ _ => ?_
 replace J:ip B g T G:=n▸J
 show wpAny _ A (allTrue .Or [.Compare o [.NotEq] [k] P1] a) _ E _
 refine wpAny_allTrue_Or_cons (wpAny_isTrue_Compare1 ?_ m5)
 refine aI.step O vU (fun _=>m) j Z J fun h2 tk2 ax2 X a2 k2 s2 => ?_
 replace X:ip B g T h2:=n▸X
 have l2:=a2 _ (.head _)
 refine aI.step O K (fun _=>m) j Z X fun h3 tk3 ax3 F _ k3 _ => ?_
 replace F:ip B g T h3:=n▸F
 refine vS (s:=⟨h3,gs,d,tk3,os⟩) (xs:=r) R (k3 _ _ l2.1 (y J.size _ l2.2)) (F.own _ hT) (e5 ax2) hrv ?_
 show wpAny _ A (allTrue .Or [] a) _ E _
 refine wpAny_allTrue_Or_nil ?_
 show wpAny _ A (execs [] a) _ E _
 refine wpAny_execs_nil ?_
 refine wpAny_execs_cons (wpAny_If (wpAny_isTrue_BoolOp (wpAny_allTrue_Or_cons (wpAny_isTrue_Compare1 ?_ m6))))
 refine aI.step O p6l (fun _=>m) j Z F fun h4 tk4 ax4 N4 a4 k4 s4 => ?_
 replace N4:ip B g T h4:=n▸N4
 have l4:=a4 _ (.head _)
 refine aI.step O vV (fun _=>m) j Z N4 fun h5 tk5 ax5 N5 a5 k5 _ => ?_
 replace N5:ip B g T h5:=n▸N5
 have l5:=a5 _ (.head _)
 refine Iu (s:=⟨h5,gs,d,tk5,os⟩) (xs:=[x6,y6]) R (k5 _ _ l4.1 (y F.size _ l4.2)) l5.1 (.cons _ _ (.cons _ _ .nil)) (.cons _ _ (.cons _ _ .nil)) ?_
 show wpAny _ A (allTrue .Or [I] a) _ E _
 refine wpAny_allTrue_Or_cons ?_
 refine aI.step O p7 (fun _=>m) j Z N5 fun h6 tk6 ax6 H _ _ _ => ?_
 replace H:ip B g T h6:=n▸H
 show wpAny _ A (allTrue .Or [] a) _ E _
 refine wpAny_allTrue_Or_nil ?_
 show wpAny _ A (execs [] a) _ E _
 refine wpAny_execs_nil ?_
 refine wpAny_execs_cons (wpAny_If (wpAny_isTrue_Compare1 ?_ m8))
 refine aI.step O vX (fun _=>m) j Z H fun h7 tk7 ax7 N7 a7 k7 s7 => ?_
 replace N7:ip B g T h7:=n▸N7
 have l7:=a7 _ (.head _)
 refine aI.step O vY (fun _=>m) j Z N7 fun h8 S ax8 N8 a8 k8 _ => ?_
 replace N8:ip B g T h8:=n▸N8
 have l8:=a8 _ (.head _)
 refine vS (s:=⟨h8,gs,d,S,os⟩) (xs:=xs) R (k8 _ _ l7.1 (y H.size _ l7.2)) l8.1 (e8 _) (e8' _) ?_
 show wpAny _ A (execs [] a) _ E _
 refine wpAny_execs_nil ?_
 refine wpAny_execs_cons ?_
 refine aI.step O p9 l9 j Z N8 fun h9 tk9 z P _ _ _ => ?_
 show wpAny _ A (execs [] a) _ E _
 refine wpAny_execs_nil (hR h9 tk9 z P.size (fun b ob q hb=>P.keep b ob q ?_) P.own (fun _ h=>nomatch h) List.nodup_nil)
 rw [jq (l9 z)]
 exact hb
section
def c5 (w:Yc):Expr:=cY (c3 (bN (dS w 1))) 1
def c6 (w:Yc):Expr:=cY (c3 (bN (dS w 2))) 0
def c8 (w:Yc):Expr:=bN (dS w 3)
theorem ID (w:Yc):bN (dS w 1) = .BoolOp .Or [cY (c3 (bN (dS w 1))) 0,c5 w] (vm (bN (dS w 1))):=by kernel_rfl
theorem IE (w:Yc):bN (dS w 2) = .BoolOp .Or [c6 w,cY (c3 (bN (dS w 2))) 1] (vm (bN (dS w 2))):=by kernel_rfl
theorem IF (w:Yc):c5 w = .Compare (d3 (c5 w)) [.NotEq] [dd (c5 w)] (na (c5 w)):=by kernel_rfl
theorem IG (w:Yc):c6 w = .Compare (d3 (c6 w)) [.NotEq] [dd (c6 w)] (na (c6 w)):=by kernel_rfl
theorem IH (w:Yc):c8 w = .Compare (d3 (c8 w)) [.NotEq] [dd (c8 w)] (na (c8 w)):=by kernel_rfl
theorem II (w:Yc):behindInMarks .NotEq (dd (c5 w))=false:=by kernel_rfl
theorem IJ (w:Yc):behindInMarks .NotEq (dd (c6 w))=false:=by kernel_rfl
theorem IK (w:Yc):behindInMarks .NotEq (dd (c8 w))=false:=by kernel_rfl
section
variable (b c:Bool) (w:Yc) {r:Yg} (hr:b7 r) (i:Nat) (vs ws hv:Yb) (p:af)
abbrev T6 (w:Yc) (r:Yg) (i:Nat) (vs ws hv:Yb) (p:af):Ya:=vQ w r i vs ws hv p
abbrev O6 (w:Yc) (r:Yg) (i:Nat) (vs ws hv:Yb) (p:af):Yf:=AQ w r i vs ws hv p fun _=>0
include hr
theorem vU:aI (B0 (W b c w)) 4 (eval (d3 (c5 w)) (bl w p)) (T6 w r i vs ws hv p) fun e=>(.ref (e 0),O6 w r i vs ws hv p,[(e 0,ab (cR ((r.map ao).map b4) (fun i=>e (i+1)) 0) (r.map ao).length)]):=by
 rcases hr with ⟨a,f,rfl⟩ | ⟨a,f,d,g,rfl⟩
 ·exact Ig b c w a i vs ws hv p f
 ·exact Il b c w a d i vs ws hv p f g
theorem vV:aI (B0 (W b c w)) 4 (eval (dd (c6 w)) (bl w p)) (T6 w r i vs ws hv p) fun e=>(.ref (e 0),O6 w r i vs ws hv p,[(e 0,az [.str (m4 (r.map ao)) (e 1),.str (m7 (r.map ao)) (e 2)] 0)]):=by
 rcases hr with ⟨a,f,rfl⟩ | ⟨a,f,d,g,rfl⟩
 ·exact Ih b c w a i vs ws hv p f
 ·exact Im b c w a d i vs ws hv p f g
theorem p7:aI (B0 (W b c w)) 4 (isTrue (cY (c3 (bN (dS w 2))) 1) (bl w p) (eval (cY (c3 (bN (dS w 2))) 1) (bl w p))) (T6 w r i vs ws hv p) fun _=>(false,O6 w r i vs ws hv p,[]):=by
 rcases hr with ⟨a,e,rfl⟩ | ⟨a,e,d,f,rfl⟩
 ·exact Ii b c w a i vs ws hv p e
 ·exact Io b c w a d i vs ws hv p e f
theorem vX:aI (B0 (W b c w)) 4 (eval (d3 (c8 w)) (bl w p)) (T6 w r i vs ws hv p) fun e=>(.ref (e 0),O6 w r i vs ws hv p,[(e 0,ab (cR (cW (r.map ao)) (fun i=>e (i+1)) 0) (cW (r.map ao)).length)]):=by
 rcases hr with ⟨a,f,rfl⟩ | ⟨a,f,d,g,rfl⟩
 ·exact Ij b c w a i vs ws hv p f
 ·exact Ip b c w a d i vs ws hv p f g
theorem vY:aI (B0 (W b c w)) 4 (eval (dd (c8 w)) (bl w p)) (T6 w r i vs ws hv p) fun f=>(.ref (f 0),O6 w r i vs ws hv p,[(f 0,ab (cq (dh r (fun i=>p 11 (i+1)) 0)) (cq (dh r (fun i=>p 11 (i+1)) 0)).length)]):=by
 rcases hr with ⟨a,e,rfl⟩ | ⟨a,e,d,g,rfl⟩
 ·exact Ik b c w a i vs ws hv p e
 ·exact Iq b c w a d i vs ws hv p e g
omit hr
theorem vZ {r:Yg} (hr:b7 r):∀a∈r,a∈b1:=by
 rcases hr with ⟨a,e,rfl⟩ | ⟨a,e,d,hd,rfl⟩
 ·intro x hx
  have:x=a:=(by simpa using hx)
  rw [this];exact e
 ·intro x hx
  have:x=a∨x=d:=(by simpa using hx)
  rcases this with rfl | rfl
  ·exact e
  ·exact hd
theorem IL {r:Yg} (hr:b7 r):(r.map ao).map b4=r:=by
 rw [List.map_map]
 have:∀a∈r,(b4 ∘ ao) a=id a:=fun a d=>vM a (vZ hr a d)
 rw [List.map_congr_left this,List.map_id]
theorem AS (hr:b7 r) (a:hv.length≤90) (e:bk hv) :
  aI (B0 (W b c w)) 4 (execs [dS w 1,dS w 2,dS w 3,dS w 4] (bl w p)) (T6 w r i vs ws hv p) fun d=>(.next,kx w r i vs ws hv p d,[]):=by
 rw [Iy,IA,IB,ID,IE,IF,IG]
 rw [show bN (dS w 3)=c8 w from rfl,IH]
 exact IC (bG (W b c w)) (II w) (IJ w) (IK w) (T:=T6 w r i vs ws hv p) (ra:=p 11 0) (by show aE r (p 11)∈T6 w r i vs ws hv p;simp [T6,vQ]) (lx _ _ _)
  (Ie b c w r i vs ws hv p hr) (vU b c w hr i vs ws hv p) (fun _=>by rw [IL hr];exact lx _ _ _) (Ir b c w r i vs ws hv p)
  (Is b c w r i vs ws hv p hr) (vV b c w hr i vs ws hv p) (p7 b c w hr i vs ws hv p) (xs:=jF r) (vX b c w hr i vs ws hv p) (vY b c w hr i vs ws hv p) (fun _=>by rw [←AI r (vZ hr)];exact lx _ _ _) (fun _=>vN _ _ _)
  (It b c w r i vs ws hv p a e).exec (fun _=>rfl)
end
end
section
theorem IM (b c:Bool) (w:Yc) (e:Obj) (u v:Yd) (i:Nat) (a f d:Yb) (g:a.length≤i) (p:af):aC (B0 (W b c w)) 5 (jz (dg w) (p 1 0) (p 8 0) [p 9 0,p 13 0]) [(p 1 0,ba (p 2 0) (p 3 0)),(p 2 0,az [.ref (p 4 0),.ref (p 5 0)] 0),(p 3 0,az [u,v] 0),(p 4 0,am (.ref (p 6 0)) i),(p 5 0,am (.ref (p 7 0)) i),(p 6 0,ab a (p 6 1)),(p 7 0,ab f (p 7 1)),(p 8 0,e),(p 9 0,aJ (.ref (p 10 0))),(p 10 0,ab d (p 10 1))] (fun h=>(.next,[ba (p 2 0) (p 3 0),az [.ref (p 4 0),.ref (p 5 0)] 0,az [u,v] 0,am .none i,am (.ref (p 7 0)) i,ab a (p 6 1),ab f (p 7 1),e,aJ (.ref (p 10 0)),ab d (p 10 1)],[])):=
 aA (orcs:=[fK 3 5 a i]) (aa (iR (by decide) g) aq) 23 1 [1,0,1,0,94,1,1,2,1,1,1,0,4,2,1,0,11,0] [0,1,2,3,4,5,6,7,8,9] (fun _ _ _ _=>0) (hc:=aS (sO _ _ _ _))
end
structure gL where
 u:Yd
 v:Yd
 hv:Yb
 hn:Nat
 k:Option (Nat×Nat×Nat×Yd×Yd×Yd)
 n:Nat
abbrev i3:=Yg×(Nat→Nat)×(Nat→Nat)
def ta (p:af):List (Str×Nat×Yd):=[("script",p 8 2,.ref (p 8 3)),("rows",p 8 4,.ref (p 6 0)),("written",p 8 6,.ref (p 7 0))]
def kz (p:af):Option (Nat×Nat×Nat×Yd×Yd×Yd)→List (Str×Nat×Yd)
 | none=>ta p
 | some (a,e,t3,d,g,f)=>ta p++([("row",a,d),("parts",e,g),("path",t3,f)]:List (Str×Nat×Yd))
def ir (w:Yc) (p:af) (vs ws:Yb) (i:Nat) (s:gL):Ya:=
 [(p 1 0,ba (p 2 0) (p 3 0)),(p 2 0,az [.ref (p 4 0),.ref (p 5 0)] 0),(p 3 0,az [s.u,s.v] 0),(p 4 0,am (.ref (p 6 0)) i),(p 5 0,am (.ref (p 7 0)) i),(p 6 0,ab vs (p 6 1)),(p 7 0,ab ws (p 7 1)),(p 8 0,aG w (kz p s.k) s.n),(p 9 0,aJ (.ref (p 10 0))),(p 10 0,ab s.hv s.hn)]
def jH (d:i3):Ya:=[aE d.1 d.2.1,aE (d.1.map ao) d.2.2]
def nr (d:i3) (s:gL) (a:Ye):gL:=
 {u:=.ref (d.2.1 0),v:=.ref (d.2.2 0),hv:=i0 s.hv (aU (d.1.map ao)) (a 3),hn:=a 4,
  k:=match s.k with
   | none=>some (a 0,a 1,a 2,.ref (d.2.1 0),.ref (d.2.2 0),.str (aU (d.1.map ao)) (a 3))
   | some (e,f,t3,_,_,_)=>some (e,f,t3,.ref (d.2.1 0),.ref (d.2.2 0),.str (aU (d.1.map ao)) (a 3)),
  n:=match s.k with
   | none=>s.n+1+1+1
   | some _=>s.n}
def pD (p:af) (d:i3) (n f a g h t3 e:Nat):af:=fun j i=>match j,i with
 | 11,i=>d.2.1 i
 | 12,i=>d.2.2 i
 | 14,_=>a
 | 8,1=>n
 | 8,8=>g
 | 8,10=>h
 | 8,12=>t3
 | 8,13=>e
 | 10,1=>f
 | j,i=>p j i
section
def it (w:Yc) (p:af):Code:=jz (dg w) (p 1 0) (p 8 0) [p 9 0,p 13 0]
def tb (d e:Nat) (a b c:Nat):Nat→Nat:=fun i=>match i with | 0=>a | 1=>b | 2=>c | 3=>d | _=>e
theorem IN (w:Yc):fO (dg w)=[]:=by kernel_rfl
section
variable (b c:Bool) (w:Yc) {r:Yg} (hr:b7 r) (i:Nat) (vs ws hv:Yb) (p:af) (g1 g2:Ye)
def tc (p:af):Yb:=[.bool false,.bool false,.ref (p 2 0),.ref (p 3 0)]
theorem IO (hr:b7 r) (j:hv.length≤90) (k:bk hv) (i n f e g h:Nat) :
  aI (B0 (W b c w)) 4 (execs (fB (dg w)) (bl w p)) (AN w r i vs ws hv (pD p (r,g1,g2) n f e g h 0 0)) fun a=>(.next,kx w r i vs ws hv (pD p (r,g1,g2) (n+1) f e g h (ev a 1) (ev a 0)) (od a),[]):=by
 rw [AR]
 exact (aI.cons (bG (W b c w)) (Ib b c w r i vs ws hv (pD p (r,g1,g2) n f e g h 0 0) hr).exec (fun _=>rfl) (u:=fun _ _=>Flow.next) (o2:=fun a d=>kx w r i vs ws hv (pD p (r,g1,g2) (n+1) f e g h (a 1) (a 0)) d) (d2:=fun _ _=>[]) (N2:=fun _ _=>[])
  (fun a=>(AS b c w i vs ws hv (pD p (r,g1,g2) (n+1) f e g h (a 1) (a 0)) hr j k).co fun d=>⟨d,rfl,List.append_nil _,List.Sublist.refl _⟩) (fun _ _=>rfl) (fun _ _=>rfl)).co fun a=>⟨a,rfl,rfl,List.nil_sublist _⟩
theorem IP (j:Yd) (hr:b7 r) (k:hv.length≤90) (m:bk hv) (i n f e g h t3:Nat) :
  aI (B0 (W b c w)) 4 (execs (fB (dg w)) (bl w p)) (AP w j r i vs ws hv (pD p (r,g1,g2) n f e g h t3 0)) fun a=>(.next,kx w r i vs ws hv (pD p (r,g1,g2) n f e g h t3 (ev a 0)) (od a),[]):=by
 rw [AR]
 exact (aI.cons (bG (W b c w)) (Id b c w j r i vs ws hv (pD p (r,g1,g2) n f e g h t3 0) hr).exec (fun _=>rfl) (u:=fun _ _=>Flow.next) (o2:=fun a d=>kx w r i vs ws hv (pD p (r,g1,g2) n f e g h t3 (a 0)) d) (d2:=fun _ _=>[]) (N2:=fun _ _=>[])
  (fun a=>(AS b c w i vs ws hv (pD p (r,g1,g2) n f e g h t3 (a 0)) hr k m).co fun d=>⟨d,rfl,List.append_nil _,List.Sublist.refl _⟩) (fun _ _=>rfl) (fun _ _=>rfl)).co fun a=>⟨a,rfl,rfl,List.nil_sublist _⟩
theorem AT:it w p = .forLoop (.Tuple (nb (fT (dg w))) (nm (fT (dg w))) (nq (fT (dg w)))) (.ref (p 1 0)) (fB (dg w)) [] (bl w p):=by
 unfold it bl
 rw [vl (Ix w),IN,←vT]
theorem IQ (hr:b7 r) (m:hv.length≤90) (q:bk hv) (u v:Yd) (n g:Nat) (s:vs[i]? = some (.ref (g1 0))) (o:ws[i]? = some (.ref (g2 0))) :
  aL (B0 (W b c w)) 5 (it w p) (ir w p vs ws i ⟨u,v,hv,g,none,n⟩++jH (r,g1,g2)) fun d=>(.error (it w p),bH (ir w p vs ws (i+1) (nr (r,g1,g2) ⟨u,v,hv,g,none,n⟩ (tb (ev (od (od d)) 0) (od (od (od d)) 0) (ev (od d) 0) (ev (od d) 1) (ev (od (od d)) 1))))++bH (jH (r,g1,g2)),[]):=by
 rw [AT]
 have j:=fun k=>Ia b c w r (i+1) vs ws hv (pD p (r,g1,g2) n g k 0 0 0 0)
 rw [vT] at j
 exact lz (bG (W b c w)) (e:=0) (rest:=tc p) (Z0:=ba (p 2 0) (p 3 0)) (T:=(ir w p vs ws i ⟨u,v,hv,g,none,n⟩).tail++jH (r,g1,g2))
  (o1:=fun d=>(vP w r (aG w (ta p) n) u v i vs ws hv (pD p (r,g1,g2) n g 0 0 0 0 0) d).tail) (V1:=fun d=>az [.ref (g1 0),.ref (g2 0)] 0)
  (o2:=fun d f=>(AM w r (i+1) vs ws hv (pD p (r,g1,g2) n g (d 0) 0 0 0 0) f).tail.dropLast) (V2:=fun _ _=>az [.ref (g1 0),.ref (g2 0)] 0)
  (o3:=fun d f h=>(kx w r (i+1) vs ws hv (pD p (r,g1,g2) (n+1+1+1) g (d 0) (f 0) (f 1) (ev h 1) (ev h 0)) (od h)).tail)
  (gU (by intro id a e;cases e)) (AL b c w r (aG w (ta p) n) u v i vs ws hv (pD p (r,g1,g2) n g 0 0 0 0 0) s o) (fun _=>rfl)
  (fun d=>j (d 0)) (fun _ _=>rfl)
  (fun d f=>IO b c w vs ws hv p g1 g2 hr m q (i+1) (n+1+1) g (d 0) (f 0) (f 1)) (fun _ _ _=>rfl) fun d=>rfl
theorem IR (hr:b7 r) (x:hv.length≤90) (A:bk hv) (u v:Yd) (n g f h t3:Nat) (k m j:Yd) (y:vs[i]? = some (.ref (g1 0))) (t:ws[i]? = some (.ref (g2 0))) :
  aL (B0 (W b c w)) 5 (it w p) (ir w p vs ws i ⟨u,v,hv,g,some (f,h,t3,k,m,j),n⟩++jH (r,g1,g2)) fun d=>(.error (it w p),bH (ir w p vs ws (i+1) (nr (r,g1,g2) ⟨u,v,hv,g,some (f,h,t3,k,m,j),n⟩ (tb (ev (od (od d)) 0) (od (od (od d)) 0) 0 0 0)))++bH (jH (r,g1,g2)),[]):=by
 rw [AT]
 have s:=fun z=>Ic b c w k m j r (i+1) vs ws hv (pD p (r,g1,g2) n g z f h t3 0)
 rw [vT] at s
 exact lz (bG (W b c w)) (e:=0) (rest:=tc p) (Z0:=ba (p 2 0) (p 3 0)) (T:=(ir w p vs ws i ⟨u,v,hv,g,some (f,h,t3,k,m,j),n⟩).tail++jH (r,g1,g2))
  (o1:=fun d=>(vP w r (aG w (kz p (some (f,h,t3,k,m,j))) n) u v i vs ws hv (pD p (r,g1,g2) n g 0 0 0 0 0) d).tail) (V1:=fun d=>az [.ref (g1 0),.ref (g2 0)] 0)
  (o2:=fun d o=>(AO w k m j r (i+1) vs ws hv (pD p (r,g1,g2) n g (d 0) f h t3 0) o).tail.dropLast) (V2:=fun _ _=>az [.ref (g1 0),.ref (g2 0)] 0)
  (o3:=fun d o q=>(kx w r (i+1) vs ws hv (pD p (r,g1,g2) n g (d 0) f h t3 (ev q 0)) (od q)).tail)
  (gU (by intro id a e;cases e)) (AL b c w r (aG w (kz p (some (f,h,t3,k,m,j))) n) u v i vs ws hv (pD p (r,g1,g2) n g 0 0 0 0 0) y t) (fun _=>rfl)
  (fun d=>s (d 0)) (fun _ _=>rfl)
  (fun d o=>IP b c w vs ws hv p g1 g2 j hr x A (i+1) n g (d 0) f h t3) (fun _ _ _=>rfl) fun d=>rfl
def nt:Option (Nat×Nat×Nat×Yd×Yd×Yd)→Ye→Nat→Nat
 | none,a=>tb (ev (od (od a)) 0) (od (od (od a)) 0) (ev (od a) 0) (ev (od a) 1) (ev (od (od a)) 1)
 | some _,a=>tb (ev (od (od a)) 0) (od (od (od a)) 0) 0 0 0
end
theorem IS (b c:Bool) (w:Yc) (p:af) {d:i3} {s:gL} {i:Nat} {vs ws:Yb} (hr:b7 d.1) (e:s.hv.length≤90) (h:bk s.hv) (f:vs[i]? = some (.ref (d.2.1 0))) (a:ws[i]? = some (.ref (d.2.2 0))) :
  aL (B0 (W b c w)) 5 (it w p) (ir w p vs ws i s++jH d) fun j=>(.error (it w p),bH (ir w p vs ws (i+1) (nr d s (nt s.k j)))++bH (jH d),[]):=by
 obtain ⟨u,v,hv,g,k,n⟩:=s
 obtain ⟨r,g1,g2⟩:=d
 cases k with
 | none=>exact IQ b c w i vs ws hv p g1 g2 hr e h u v n g f a
 | some k=>
  obtain ⟨o,q,t3,m,x,t⟩:=k
  exact IR b c w i vs ws hv p g1 g2 hr e h u v n g o q t3 m x t f a
def AU (w:Yc) (p:af) (vs ws:Yb) (s:gL):Yf:=[ba (p 2 0) (p 3 0),az [.ref (p 4 0),.ref (p 5 0)] 0,az [s.u,s.v] 0,am .none vs.length,am (.ref (p 7 0)) vs.length,ab vs (p 6 1),ab ws (p 7 1),aG w (kz p s.k) s.n,aJ (.ref (p 10 0)),ab s.hv s.hn]
theorem IT (b c:Bool) (w:Yc) (p:af) (s:gL) (vs ws:Yb):aL (B0 (W b c w)) 5 (it w p) (ir w p vs ws vs.length s) fun _=>(.ok .next,AU w p vs ws s,[]):=
 IM b c w (aG w (kz p s.k) s.n) s.u s.v vs.length vs ws s.hv (Nat.le_refl _) fun j i=>match j,i with | 10,1=>s.hn | j,i=>p j i
end
section
variable {B:bf} {m:Nat}
def v0 (j:Nat) (a:Yb) (v:Yd):aH:=iS "list.append" j a (fun _=>[v]) (fun _ _=>.none) fun _=>a++[v]
theorem AV {j:Nat} {a:Yb} {v:Yd} (d:a.length≤1000) (c:∃y t,v = .str y t):(v0 j a v).Sure B m:=by
 obtain ⟨y,t,rfl⟩:=c
 refine lj fun p A s Q E b h => ?_
 have f:IsL s.heap (p 1 0) a.toArray (p 1 1):=b
 refine call_meets F.slot_list_append ⟨_,b,rfl⟩ F.entry_list_append (F.args_list_append_2 _ _) (list_append (p 1 0) a.toArray (p 1 1) (.str y t) (by rw [List.size_toArray];exact Nat.le_trans d (by decide))) ⟨b,?_⟩
 have e:Heap.SameBut (p 1 0) s.heap (s.heap.update (p 1 0) (Obj.mapSeq fun x=>x.push (.str y t))):=Heap.SameBut.update ..
 refine h _ (fun _=>p 1 1+1) s.toks e ?_
 refine (Heap.get?_update_self _ b rfl).trans ?_
 show some (Obj.mapSeq _ (ab a (p 1 1)))=some (ab (a++[.str y t]) (p 1 1+1))
 unfold Obj.mapSeq ab
 simp
end
def v9 (L:Yb) (x:Str) (b:Nat) (j:Nat):aH:=bA (fun p=>.call (.ref 114) ⟨[.ref (p 1 0)],[]⟩) [j] (fun p=>[(p 1 0,ab L (p 1 1))]) (fun p a=>(.ret (.str x b),[ab (dC L) (a 0)],[]))
theorem AW {b c:Bool} {w:Yc} {m:Nat} {L:Yb} {x:Str} {a j:Nat} (g:0<L.length) (d:L.length≤90) (f:bk L) (hx:dP L = .str x a) (e:4≤m):(v9 L x a j).Sure (B0 (W b c w)) m:=by
 have:=HH (b:=b) (c:=c) (w:=w) (j:=j) g d f e
 unfold Aw at this
 rw [hx] at this
 exact this
theorem IU {L:Yb} (b:0<L.length) (a:bk L):∃y t,dP L = .str y t:=by
 match L,b with
 | v::r,_=>exact a v (.head _)
section
theorem IV (b c:Bool) (w:Yc) (r:Yg) (i:Nat) (d a:Yb) (p:af) (k:d[i]? = some (.ref (p 5 0))) (h:a.length≤1000) (g:cE r):aL (B0 (W b c w)) 4 (bI (g8 w) (p 1 0) (p 3 0) (p 4 0) (p 6 0) []) [(p 1 0,am (.ref (p 2 0)) i),(p 2 0,ab d (p 2 1)),(p 3 0,ab a (p 3 1)),(p 4 0,aw w [] (0)),aE r (p 5)] (fun e=>(.error (bI (g8 w) (p 1 0) (p 3 0) (p 4 0) (p 6 0) []),[am (.ref (p 2 0)) (i+1),ab d (p 2 1),ab (a++[.str (aU r) (e 2)]) (e 0),aw w [("parts",e 1,.ref (p 5 0))] (1),(aE r (p 5)).2],[])):=
 aA (orcs:=[cD 0 1 d i (.ref (p 5 0)),po r (p 5) 4,f3 2 a (aU r)]) (aa (cT (by decide) k) (aa (sM g (by decide)) (aa (gA h) aq))) 22 3 [1,2,4,3,0,4,0,3,4,1] [0,1,2,3,4] (fun n m f i=>match i with | 0=>(f 2).2.2 1 | 1=>(f 0).2.1+0 | j+2=>(f 1).2.2 j) (hc:=aS (dL _ _ _ _ _ _))
theorem IW (b c:Bool) (w:Yc) (h:Yd) (r:Yg) (i:Nat) (d a:Yb) (p:af) (m:d[i]? = some (.ref (p 5 0))) (k:a.length≤1000) (g:cE r):aL (B0 (W b c w)) 4 (bI (g8 w) (p 1 0) (p 3 0) (p 4 0) (p 6 0) []) [(p 1 0,am (.ref (p 2 0)) i),(p 2 0,ab d (p 2 1)),(p 3 0,ab a (p 3 1)),(p 4 0,aw w [("parts",p 4 2,h)] (p 4 1)),aE r (p 5)] (fun e=>(.error (bI (g8 w) (p 1 0) (p 3 0) (p 4 0) (p 6 0) []),[am (.ref (p 2 0)) (i+1),ab d (p 2 1),ab (a++[.str (aU r) (e 2)]) (e 0),aw w [("parts",p 4 2,.ref (p 5 0))] (p 4 1),(aE r (p 5)).2],[])):=
 aA (orcs:=[cD 0 1 d i (.ref (p 5 0)),po r (p 5) 4,f3 2 a (aU r)]) (aa (cT (by decide) m) (aa (sM g (by decide)) (aa (gA k) aq))) 22 3 [1,2,4,3,0,4,0,3,4,1] [0,1,2,3,4] (fun n o f i=>match i with | 0=>(f 2).2.2 1 | 1=>(f 0).2.1+0 | j+2=>(f 1).2.2 j) (hc:=aS (dL _ _ _ _ _ _))
theorem IX (b c:Bool) (w:Yc) (e:Yd) (i:Nat) (a d:Yb) (f:a.length≤i) (p:af):aC (B0 (W b c w)) 4 (bI (g8 w) (p 1 0) (p 3 0) (p 4 0) (p 6 0) []) [(p 1 0,am (.ref (p 2 0)) i),(p 2 0,ab a (p 2 1)),(p 3 0,ab d (p 3 1)),(p 4 0,aw w [("parts",p 4 2,e)] (p 4 1))] (fun g=>(.next,[am .none i,ab a (p 2 1),ab d (p 3 1),aw w [("parts",p 4 2,e)] (p 4 1)],[])):=
 aA (orcs:=[fK 0 1 a i]) (aa (iR (by decide) f) aq) 7 1 [1,2,5] [0,1,2,3] (fun _ _ _ _=>0) (hc:=aS (dL _ _ _ _ _ _))
theorem IY (b:Bool) (w:Yc) (c a:Yb) (p:af):aL (B0 (W b false w)) 4 (bj (g8 w) (p 1 0) (p 3 0) (p 4 0) (p 6 0) []) [(p 1 0,am (.ref (p 2 0)) 0),(p 2 0,ab c (p 2 1)),(p 3 0,ab a (p 3 1)),(p 4 0,aw w [] (0))] (fun d=>(.error (bI (g8 w) (p 1 0) (p 3 0) (p 4 0) (p 6 0) []),[am (.ref (p 2 0)) 0,ab c (p 2 1),ab a (p 3 1),aw w [] (0)],[])):=
 aA (orcs:=[]) aq 14 0 [1,1,0,1,0,43,1,1] [0,1,2,3] (fun _ _ _ _=>0) (hc:=aS (bv _ _ _ _ _ _))
theorem IZ (b:Bool) (w:Yc) (c a:Yb) (p:af):aL (B0 (W b true w)) 4 (bj (g8 w) (p 1 0) (p 3 0) (p 4 0) (p 6 0) []) [(p 1 0,am (.ref (p 2 0)) 0),(p 2 0,ab c (p 2 1)),(p 3 0,ab a (p 3 1)),(p 4 0,aw w [] (0))] (fun d=>(.error (bI (g8 w) (p 1 0) (p 3 0) (p 4 0) (p 6 0) []),[am (.ref (p 2 0)) 0,ab c (p 2 1),ab a (p 3 1),aw w [] (0)],[])):=
 aA (orcs:=[]) aq 4 0 [1] [0,1,2,3] (fun _ _ _ _=>0) (hc:=aS (bv _ _ _ _ _ _))
theorem I0 (b c:Bool) (w:Yc) (x:Str) (a:Nat) (L:Yb) (i:Nat) (e d:Yb) (p:af) (m:e[i]? = some (.ref (p 5 0))) (h:d.length≤1000) (q:0<L.length) (k:L.length≤90) (o:bk L) (hx:dP L = .str x a):aL (B0 (W b c w)) 5 (bI (gK w) (p 1 0) (p 3 0) (p 4 0) (p 6 0) [p 7 0]) [(p 1 0,am (.ref (p 2 0)) i),(p 2 0,ab e (p 2 1)),(p 3 0,ab d (p 3 1)),(p 4 0,aw w [] (0)),(p 7 0,aJ (.ref (p 8 0))),(p 8 0,ab L (p 8 1))] (fun g=>(.error (bI (gK w) (p 1 0) (p 3 0) (p 4 0) (p 6 0) [p 7 0]),[am (.ref (p 2 0)) (i+1),ab e (p 2 1),ab (d++[.str x a]) (g 0),aw w [("row",g 1,.ref (p 5 0))] (1),aJ (.ref (p 8 0)),ab (dC L) (g 2)],[])):=
 aA (orcs:=[cD 0 1 e i (.ref (p 5 0)),v9 L x a 5,v0 2 d (.str x a)]) (aa (cT (by decide) m) (aa (AW q k o hx (by decide)) (aa (AV h ⟨_,_,rfl⟩) aq))) 22 3 [1,2,4,3,0,5,0,3,4,1] [0,1,2,3,4,5] (fun n s f i=>match i with | 0=>(f 2).2.2 1 | 1=>(f 0).2.1+0 | j+2=>(f 1).2.2 j) (hc:=aS (dL _ _ _ _ _ _))
theorem I1 (b c:Bool) (w:Yc) (h:Yd) (x:Str) (a:Nat) (L:Yb) (i:Nat) (e d:Yb) (p:af) (o:e[i]? = some (.ref (p 5 0))) (k:d.length≤1000) (s:0<L.length) (m:L.length≤90) (q:bk L) (hx:dP L = .str x a):aL (B0 (W b c w)) 5 (bI (gK w) (p 1 0) (p 3 0) (p 4 0) (p 6 0) [p 7 0]) [(p 1 0,am (.ref (p 2 0)) i),(p 2 0,ab e (p 2 1)),(p 3 0,ab d (p 3 1)),(p 4 0,aw w [("row",p 4 2,h)] (p 4 1)),(p 7 0,aJ (.ref (p 8 0))),(p 8 0,ab L (p 8 1))] (fun g=>(.error (bI (gK w) (p 1 0) (p 3 0) (p 4 0) (p 6 0) [p 7 0]),[am (.ref (p 2 0)) (i+1),ab e (p 2 1),ab (d++[.str x a]) (g 0),aw w [("row",p 4 2,.ref (p 5 0))] (p 4 1),aJ (.ref (p 8 0)),ab (dC L) (g 2)],[])):=
 aA (orcs:=[cD 0 1 e i (.ref (p 5 0)),v9 L x a 5,v0 2 d (.str x a)]) (aa (cT (by decide) o) (aa (AW s m q hx (by decide)) (aa (AV k ⟨_,_,rfl⟩) aq))) 22 3 [1,2,4,3,0,5,0,3,4,1] [0,1,2,3,4,5] (fun n t f i=>match i with | 0=>(f 2).2.2 1 | 1=>(f 0).2.1+0 | j+2=>(f 1).2.2 j) (hc:=aS (dL _ _ _ _ _ _))
theorem I2 (b c:Bool) (w:Yc) (e:Yd) (i:Nat) (a d:Yb) (f:a.length≤i) (p:af):aC (B0 (W b c w)) 5 (bI (gK w) (p 1 0) (p 3 0) (p 4 0) (p 6 0) [p 7 0]) [(p 1 0,am (.ref (p 2 0)) i),(p 2 0,ab a (p 2 1)),(p 3 0,ab d (p 3 1)),(p 4 0,aw w [("row",p 4 2,e)] (p 4 1))] (fun g=>(.next,[am .none i,ab a (p 2 1),ab d (p 3 1),aw w [("row",p 4 2,e)] (p 4 1)],[])):=
 aA (orcs:=[fK 0 1 a i]) (aa (iR (by decide) f) aq) 7 1 [1,2,5] [0,1,2,3] (fun _ _ _ _=>0) (hc:=aS (dL _ _ _ _ _ _))
theorem I3 (b:Bool) (w:Yc) (c a:Yb) (p:af):aL (B0 (W b false w)) 5 (bj (gK w) (p 1 0) (p 3 0) (p 4 0) (p 6 0) [p 7 0]) [(p 1 0,am (.ref (p 2 0)) 0),(p 2 0,ab c (p 2 1)),(p 3 0,ab a (p 3 1)),(p 4 0,aw w [] (0))] (fun d=>(.error (bI (gK w) (p 1 0) (p 3 0) (p 4 0) (p 6 0) [p 7 0]),[am (.ref (p 2 0)) 0,ab c (p 2 1),ab a (p 3 1),aw w [] (0)],[])):=
 aA (orcs:=[]) aq 14 0 [1,1,0,1,0,43,1,1] [0,1,2,3] (fun _ _ _ _=>0) (hc:=aS (bv _ _ _ _ _ _))
theorem I4 (b:Bool) (w:Yc) (c a:Yb) (p:af):aL (B0 (W b true w)) 5 (bj (gK w) (p 1 0) (p 3 0) (p 4 0) (p 6 0) [p 7 0]) [(p 1 0,am (.ref (p 2 0)) 0),(p 2 0,ab c (p 2 1)),(p 3 0,ab a (p 3 1)),(p 4 0,aw w [] (0))] (fun d=>(.error (bI (gK w) (p 1 0) (p 3 0) (p 4 0) (p 6 0) [p 7 0]),[am (.ref (p 2 0)) 0,ab c (p 2 1),ab a (p 3 1),aw w [] (0)],[])):=
 aA (orcs:=[]) aq 4 0 [1] [0,1,2,3] (fun _ _ _ _=>0) (hc:=aS (bv _ _ _ _ _ _))
end
def de:Obj:={cls:=.type "cell",data:=.cell none}
def sS (w:Yc) (i:Nat):Stmt:=gH (iX (im w)) i
def aZ (w:Yc) (g:Ye):Obj:=
 {cls:=.type "dict",data:=.dict ((([("a",g 0,.str "a" (g 1)),("/",g 2,.str "=2F" (g 3)),(".",g 4,.str "=2E" (g 5)),("=",g 6,.str "=3D" (g 7)),(" ",g 8,.str "=20" (g 9)),("é",g 10,.str "=E9" (g 11))]:List (Str×Nat×Yd)).map fun e=>⟨reduceHash (w.params.strHash e.1.cps),.str e.1 e.2.1,e.2.2⟩).toArray) 6}
def AX:Yh→Bool
 | []=>true
 | c::l=>match Nat.blt c 128 with
  | true=>AX l
  | false=>false
def ed (x:Str):String:=match AX x.cps.toList with
 | true=>"str_ascii_iterator"
 | false=>"str_iterator"
def bJ (x:Str) (v:Yd) (i:Nat):Obj:={cls:=.type (ed x),data:=.fields #[v,.int (i:Int) 0]}
def cg (g:Ye) (c:Nat):Yd:=
 if c==97 then .str "a" (g 1) else if c==47 then .str "=2F" (g 3) else if c==46 then .str "=2E" (g 5) else if c==61 then .str "=3D" (g 7) else if c==32 then .str "=20" (g 9) else .str "=E9" (g 11)
def AY (g:Ye):Yh→Yb
 | []=>[]
 | c::l=>cg g c::AY g l
def di (x:Str) (g:Ye):Yb:=AY g x.cps.toList
def AZ:Yh→Nat
 | []=>0
 | c::l=>match l with
  | []=>c
  | d::r=>AZ (d::r)
def c0 (x:Str):Str:=⟨#[AZ x.cps.toList]⟩
def ca (w:Yc) (j:Nat) (x:Str) (v:Ye→Yd):aH:=
 {code:=fun p=>.call (.builtin "dict.__getitem__") ⟨[.ref (p 1 0),.str x (p 0 1)],[]⟩,pl:=[j],objs:=fun p=>[(p 1 0,aZ w fun i=>p 1 (i+2))],strm:=true,out:=fun p a=>(.ret (v fun i=>p 1 (i+2)),[aZ w fun i=>p 1 (i+2)],[])}
def pB (w:Yc) (g:Ye):Array DictEntry:=((([("a",g 0,.str "a" (g 1)),("/",g 2,.str "=2F" (g 3)),(".",g 4,.str "=2E" (g 5)),("=",g 6,.str "=3D" (g 7)),(" ",g 8,.str "=20" (g 9)),("é",g 10,.str "=E9" (g 11))]:List (Str×Nat×Yd)).map fun e=>⟨reduceHash (w.params.strHash e.1.cps),.str e.1 e.2.1,e.2.2⟩).toArray)
theorem I5 (a:Program) (b c:Bool) (w:Yc) (g:Ye):KeysOf (strKind a (W b c w)) (pB w g):=by
 intro e d
 have:e∈(pB w g).toList:=Array.mem_toList_iff.mpr d
 unfold pB at this
 simp only [List.map_cons,List.map_nil,List.mem_cons,List.not_mem_nil,or_false] at this
 rcases this with rfl | rfl | rfl | rfl | rfl | rfl
 ·exact ⟨"a",by kernel_rfl,by kernel_rfl⟩
 ·exact ⟨"/",by kernel_rfl,by kernel_rfl⟩
 ·exact ⟨".",by kernel_rfl,by kernel_rfl⟩
 ·exact ⟨"=",by kernel_rfl,by kernel_rfl⟩
 ·exact ⟨" ",by kernel_rfl,by kernel_rfl⟩
 ·exact ⟨"é",by kernel_rfl,by kernel_rfl⟩
theorem ck {b c:Bool} {w:Yc} {m j:Nat} {x:Str} {v:Ye→Yd} (hx:∀g,findBy Value.isStrOf (pB w g) x=some (v g)):(ca w j x v).Sure (B0 (W b c w)) m:=by
 refine ⟨by simp [ca],fun p A u h n B d z g l k Q E nd o t q=>d8 ?_⟩
 have a:h.get? (p 1 0)=some (aZ w fun i=>p 1 (i+2)):=(o _ (.head _)).1
 have s:(strKind (B0 (W b c w)).prog (W b c w)).is x (.str x (p 0 1))=true:=by show (x==x)=true;exact beq_self_eq_true _
 refine call_meetsIn (T:="dict") F.slot_dict_getitem ⟨_,a,rfl⟩ F.entry_dict_getitem (F.args_dict_getitem_2 _ _) (meets_dict_getitem (PySem.strKind (B0 (W b c w)).prog (W b c w)) (p 1 0) s) ⟨_,_,⟨_,pB w fun i=>p 1 (i+2),_,a,⟨rfl,rfl,rfl⟩,rfl,I5 _ b c w _,fun _=>rfl⟩,hx _,?_⟩
 exact q h (n+1) id (fun e=>by cases e) (Nat.le_refl _) (fun _ _ e _=>e) (fun y f=>by
  have:y=(p 1 0,aZ w fun i=>p 1 (i+2)):=by simpa [ca] using f
  rw [this];exact a) (fun _ f=>nomatch f) List.nodup_nil
section
theorem I6 (b:Bool) (w:Yc) (p:af):aC (B0 (W b false w)) 2 (bj (c4 w) (p 1 0) (p 3 0) (p 4 0) (p 6 0) [p 13 0]) [(p 1 0,bJ "a" (.str "a" (p 1 1)) 0),(p 3 0,ab [] 0),(p 4 0,aw w [] (0)),(p 13 0,aJ (.ref (p 15 0))),(p 15 0,aZ w fun i=>p 15 (i+1))] (fun c=>(.next,[bJ "a" .none 1,ab (di "a" fun i=>p 15 (i+1)) 1,aw w [("sign",c 0,.str (c0 "a") (c 1))] (1),aJ (.ref (p 15 0)),aZ w fun i=>p 15 (i+1)],[])):=
 aA (orcs:=[ca w 4 "a" fun g=>cg g 97]) (aa (ck fun g=>by kernel_rfl) aq) 66 1 [1,1,0,1,0,86,1,0,1,0,1,0,87,1,1,1,0,3,2,4,3,5,5,5,2,0,2,0,26,2,1,2,0,1,0,1,0,87,1,1,1,0,7] [0,1,2,3,4] (fun n a f=>aB [a+1,a+0]) (hc:=aS (bv _ _ _ _ _ _))
theorem I7 (b:Bool) (w:Yc) (p:af):aC (B0 (W b false w)) 2 (bj (c4 w) (p 1 0) (p 3 0) (p 4 0) (p 6 0) [p 13 0]) [(p 1 0,bJ "/" (.str "/" (p 1 1)) 0),(p 3 0,ab [] 0),(p 4 0,aw w [] (0)),(p 13 0,aJ (.ref (p 15 0))),(p 15 0,aZ w fun i=>p 15 (i+1))] (fun c=>(.next,[bJ "/" .none 1,ab (di "/" fun i=>p 15 (i+1)) 1,aw w [("sign",c 0,.str (c0 "/") (c 1))] (1),aJ (.ref (p 15 0)),aZ w fun i=>p 15 (i+1)],[])):=
 aA (orcs:=[ca w 4 "/" fun g=>cg g 47]) (aa (ck fun g=>by kernel_rfl) aq) 66 1 [1,1,0,1,0,86,1,0,1,0,1,0,87,1,1,1,0,3,2,4,3,5,5,5,2,0,2,0,26,2,1,2,0,1,0,1,0,87,1,1,1,0,7] [0,1,2,3,4] (fun n a f=>aB [a+1,a+0]) (hc:=aS (bv _ _ _ _ _ _))
theorem I8 (b:Bool) (w:Yc) (p:af):aC (B0 (W b false w)) 2 (bj (c4 w) (p 1 0) (p 3 0) (p 4 0) (p 6 0) [p 13 0]) [(p 1 0,bJ "." (.str "." (p 1 1)) 0),(p 3 0,ab [] 0),(p 4 0,aw w [] (0)),(p 13 0,aJ (.ref (p 15 0))),(p 15 0,aZ w fun i=>p 15 (i+1))] (fun c=>(.next,[bJ "." .none 1,ab (di "." fun i=>p 15 (i+1)) 1,aw w [("sign",c 0,.str (c0 ".") (c 1))] (1),aJ (.ref (p 15 0)),aZ w fun i=>p 15 (i+1)],[])):=
 aA (orcs:=[ca w 4 "." fun g=>cg g 46]) (aa (ck fun g=>by kernel_rfl) aq) 66 1 [1,1,0,1,0,86,1,0,1,0,1,0,87,1,1,1,0,3,2,4,3,5,5,5,2,0,2,0,26,2,1,2,0,1,0,1,0,87,1,1,1,0,7] [0,1,2,3,4] (fun n a f=>aB [a+1,a+0]) (hc:=aS (bv _ _ _ _ _ _))
theorem I9 (b:Bool) (w:Yc) (p:af):aC (B0 (W b false w)) 2 (bj (c4 w) (p 1 0) (p 3 0) (p 4 0) (p 6 0) [p 13 0]) [(p 1 0,bJ "=" (.str "=" (p 1 1)) 0),(p 3 0,ab [] 0),(p 4 0,aw w [] (0)),(p 13 0,aJ (.ref (p 15 0))),(p 15 0,aZ w fun i=>p 15 (i+1))] (fun c=>(.next,[bJ "=" .none 1,ab (di "=" fun i=>p 15 (i+1)) 1,aw w [("sign",c 0,.str (c0 "=") (c 1))] (1),aJ (.ref (p 15 0)),aZ w fun i=>p 15 (i+1)],[])):=
 aA (orcs:=[ca w 4 "=" fun g=>cg g 61]) (aa (ck fun g=>by kernel_rfl) aq) 66 1 [1,1,0,1,0,86,1,0,1,0,1,0,87,1,1,1,0,3,2,4,3,5,5,5,2,0,2,0,26,2,1,2,0,1,0,1,0,87,1,1,1,0,7] [0,1,2,3,4] (fun n a f=>aB [a+1,a+0]) (hc:=aS (bv _ _ _ _ _ _))
theorem Ja (b:Bool) (w:Yc) (p:af):aC (B0 (W b false w)) 2 (bj (c4 w) (p 1 0) (p 3 0) (p 4 0) (p 6 0) [p 13 0]) [(p 1 0,bJ " " (.str " " (p 1 1)) 0),(p 3 0,ab [] 0),(p 4 0,aw w [] (0)),(p 13 0,aJ (.ref (p 15 0))),(p 15 0,aZ w fun i=>p 15 (i+1))] (fun c=>(.next,[bJ " " .none 1,ab (di " " fun i=>p 15 (i+1)) 1,aw w [("sign",c 0,.str (c0 " ") (c 1))] (1),aJ (.ref (p 15 0)),aZ w fun i=>p 15 (i+1)],[])):=
 aA (orcs:=[ca w 4 " " fun g=>cg g 32]) (aa (ck fun g=>by kernel_rfl) aq) 66 1 [1,1,0,1,0,86,1,0,1,0,1,0,87,1,1,1,0,3,2,4,3,5,5,5,2,0,2,0,26,2,1,2,0,1,0,1,0,87,1,1,1,0,7] [0,1,2,3,4] (fun n a f=>aB [a+1,a+0]) (hc:=aS (bv _ _ _ _ _ _))
theorem Jb (b:Bool) (w:Yc) (p:af):aC (B0 (W b false w)) 2 (bj (c4 w) (p 1 0) (p 3 0) (p 4 0) (p 6 0) [p 13 0]) [(p 1 0,bJ "é" (.str "é" (p 1 1)) 0),(p 3 0,ab [] 0),(p 4 0,aw w [] (0)),(p 13 0,aJ (.ref (p 15 0))),(p 15 0,aZ w fun i=>p 15 (i+1))] (fun c=>(.next,[bJ "é" .none 1,ab (di "é" fun i=>p 15 (i+1)) 1,aw w [("sign",c 0,.str (c0 "é") (c 1))] (1),aJ (.ref (p 15 0)),aZ w fun i=>p 15 (i+1)],[])):=
 aA (orcs:=[ca w 4 "é" fun g=>cg g 233]) (aa (ck fun g=>by kernel_rfl) aq) 66 1 [1,1,0,1,0,75,1,0,1,0,1,0,76,1,1,1,0,3,2,4,3,5,5,5,2,0,2,0,26,2,1,2,0,1,0,1,0,76,1,1,1,0,7] [0,1,2,3,4] (fun n a f=>aB [a+1,a+0]) (hc:=aS (bv _ _ _ _ _ _))
theorem Jc (b:Bool) (w:Yc) (p:af):aC (B0 (W b false w)) 2 (bj (c4 w) (p 1 0) (p 3 0) (p 4 0) (p 6 0) [p 13 0]) [(p 1 0,bJ "a/" (.str "a/" (p 1 1)) 0),(p 3 0,ab [] 0),(p 4 0,aw w [] (0)),(p 13 0,aJ (.ref (p 15 0))),(p 15 0,aZ w fun i=>p 15 (i+1))] (fun a=>(.next,[bJ "a/" .none 2,ab (di "a/" fun i=>p 15 (i+1)) 2,aw w [("sign",a 0,.str (c0 "a/") (a 1))] (1),aJ (.ref (p 15 0)),aZ w fun i=>p 15 (i+1)],[])):=
 aA (orcs:=[ca w 4 "a" fun g=>cg g 97,ca w 4 "/" fun g=>cg g 47]) (aa (ck fun g=>by kernel_rfl) (aa (ck fun g=>by kernel_rfl) aq)) 101 2 [1,1,0,1,0,86,1,0,1,0,1,0,87,1,1,1,0,3,2,4,3,5,5,5,2,0,2,0,26,2,1,2,0,1,0,1,0,87,1,1,1,0,3,2,4,3,5,5,5,3,0,2,0,26,2,1,2,0,1,0,1,0,87,1,1,1,0,7] [0,1,2,3,4] (fun n c f=>aB [c+1,(f 0).2.1+0]) (hc:=aS (bv _ _ _ _ _ _))
theorem Jd (b:Bool) (w:Yc) (p:af):aC (B0 (W b false w)) 2 (bj (c4 w) (p 1 0) (p 3 0) (p 4 0) (p 6 0) [p 13 0]) [(p 1 0,bJ "/." (.str "/." (p 1 1)) 0),(p 3 0,ab [] 0),(p 4 0,aw w [] (0)),(p 13 0,aJ (.ref (p 15 0))),(p 15 0,aZ w fun i=>p 15 (i+1))] (fun a=>(.next,[bJ "/." .none 2,ab (di "/." fun i=>p 15 (i+1)) 2,aw w [("sign",a 0,.str (c0 "/.") (a 1))] (1),aJ (.ref (p 15 0)),aZ w fun i=>p 15 (i+1)],[])):=
 aA (orcs:=[ca w 4 "/" fun g=>cg g 47,ca w 4 "." fun g=>cg g 46]) (aa (ck fun g=>by kernel_rfl) (aa (ck fun g=>by kernel_rfl) aq)) 101 2 [1,1,0,1,0,86,1,0,1,0,1,0,87,1,1,1,0,3,2,4,3,5,5,5,2,0,2,0,26,2,1,2,0,1,0,1,0,87,1,1,1,0,3,2,4,3,5,5,5,3,0,2,0,26,2,1,2,0,1,0,1,0,87,1,1,1,0,7] [0,1,2,3,4] (fun n c f=>aB [c+1,(f 0).2.1+0]) (hc:=aS (bv _ _ _ _ _ _))
theorem Je (b:Bool) (w:Yc) (p:af):aC (B0 (W b false w)) 2 (bj (c4 w) (p 1 0) (p 3 0) (p 4 0) (p 6 0) [p 13 0]) [(p 1 0,bJ ".=" (.str ".=" (p 1 1)) 0),(p 3 0,ab [] 0),(p 4 0,aw w [] (0)),(p 13 0,aJ (.ref (p 15 0))),(p 15 0,aZ w fun i=>p 15 (i+1))] (fun a=>(.next,[bJ ".=" .none 2,ab (di ".=" fun i=>p 15 (i+1)) 2,aw w [("sign",a 0,.str (c0 ".=") (a 1))] (1),aJ (.ref (p 15 0)),aZ w fun i=>p 15 (i+1)],[])):=
 aA (orcs:=[ca w 4 "." fun g=>cg g 46,ca w 4 "=" fun g=>cg g 61]) (aa (ck fun g=>by kernel_rfl) (aa (ck fun g=>by kernel_rfl) aq)) 101 2 [1,1,0,1,0,86,1,0,1,0,1,0,87,1,1,1,0,3,2,4,3,5,5,5,2,0,2,0,26,2,1,2,0,1,0,1,0,87,1,1,1,0,3,2,4,3,5,5,5,3,0,2,0,26,2,1,2,0,1,0,1,0,87,1,1,1,0,7] [0,1,2,3,4] (fun n c f=>aB [c+1,(f 0).2.1+0]) (hc:=aS (bv _ _ _ _ _ _))
theorem Jf (b:Bool) (w:Yc) (p:af):aC (B0 (W b false w)) 2 (bj (c4 w) (p 1 0) (p 3 0) (p 4 0) (p 6 0) [p 13 0]) [(p 1 0,bJ "= " (.str "= " (p 1 1)) 0),(p 3 0,ab [] 0),(p 4 0,aw w [] (0)),(p 13 0,aJ (.ref (p 15 0))),(p 15 0,aZ w fun i=>p 15 (i+1))] (fun a=>(.next,[bJ "= " .none 2,ab (di "= " fun i=>p 15 (i+1)) 2,aw w [("sign",a 0,.str (c0 "= ") (a 1))] (1),aJ (.ref (p 15 0)),aZ w fun i=>p 15 (i+1)],[])):=
 aA (orcs:=[ca w 4 "=" fun g=>cg g 61,ca w 4 " " fun g=>cg g 32]) (aa (ck fun g=>by kernel_rfl) (aa (ck fun g=>by kernel_rfl) aq)) 101 2 [1,1,0,1,0,86,1,0,1,0,1,0,87,1,1,1,0,3,2,4,3,5,5,5,2,0,2,0,26,2,1,2,0,1,0,1,0,87,1,1,1,0,3,2,4,3,5,5,5,3,0,2,0,26,2,1,2,0,1,0,1,0,87,1,1,1,0,7] [0,1,2,3,4] (fun n c f=>aB [c+1,(f 0).2.1+0]) (hc:=aS (bv _ _ _ _ _ _))
theorem Jg (b:Bool) (w:Yc) (p:af):aC (B0 (W b false w)) 2 (bj (c4 w) (p 1 0) (p 3 0) (p 4 0) (p 6 0) [p 13 0]) [(p 1 0,bJ " é" (.str " é" (p 1 1)) 0),(p 3 0,ab [] 0),(p 4 0,aw w [] (0)),(p 13 0,aJ (.ref (p 15 0))),(p 15 0,aZ w fun i=>p 15 (i+1))] (fun a=>(.next,[bJ " é" .none 2,ab (di " é" fun i=>p 15 (i+1)) 2,aw w [("sign",a 0,.str (c0 " é") (a 1))] (1),aJ (.ref (p 15 0)),aZ w fun i=>p 15 (i+1)],[])):=
 aA (orcs:=[ca w 4 " " fun g=>cg g 32,ca w 4 "é" fun g=>cg g 233]) (aa (ck fun g=>by kernel_rfl) (aa (ck fun g=>by kernel_rfl) aq)) 101 2 [1,1,0,1,0,75,1,0,1,0,1,0,76,1,1,1,0,3,2,4,3,5,5,5,2,0,2,0,26,2,1,2,0,1,0,1,0,76,1,1,1,0,3,2,4,3,5,5,5,3,0,2,0,26,2,1,2,0,1,0,1,0,76,1,1,1,0,7] [0,1,2,3,4] (fun n c f=>aB [c+1,(f 0).2.1+0]) (hc:=aS (bv _ _ _ _ _ _))
theorem Jh (b:Bool) (w:Yc) (p:af):aC (B0 (W b false w)) 2 (bj (c4 w) (p 1 0) (p 3 0) (p 4 0) (p 6 0) [p 13 0]) [(p 1 0,bJ "éa" (.str "éa" (p 1 1)) 0),(p 3 0,ab [] 0),(p 4 0,aw w [] (0)),(p 13 0,aJ (.ref (p 15 0))),(p 15 0,aZ w fun i=>p 15 (i+1))] (fun a=>(.next,[bJ "éa" .none 2,ab (di "éa" fun i=>p 15 (i+1)) 2,aw w [("sign",a 0,.str (c0 "éa") (a 1))] (1),aJ (.ref (p 15 0)),aZ w fun i=>p 15 (i+1)],[])):=
 aA (orcs:=[ca w 4 "é" fun g=>cg g 233,ca w 4 "a" fun g=>cg g 97]) (aa (ck fun g=>by kernel_rfl) (aa (ck fun g=>by kernel_rfl) aq)) 101 2 [1,1,0,1,0,75,1,0,1,0,1,0,76,1,1,1,0,3,2,4,3,5,5,5,2,0,2,0,26,2,1,2,0,1,0,1,0,76,1,1,1,0,3,2,4,3,5,5,5,3,0,2,0,26,2,1,2,0,1,0,1,0,76,1,1,1,0,7] [0,1,2,3,4] (fun n c f=>aB [c+1,(f 0).2.1+0]) (hc:=aS (bv _ _ _ _ _ _))
theorem Ji (b:Bool) (w:Yc) (p:af):aC (B0 (W b true w)) 2 (bj (c4 w) (p 1 0) (p 3 0) (p 4 0) (p 6 0) [p 13 0]) [(p 1 0,bJ "a" (.str "a" (p 1 1)) 0),(p 3 0,ab [] 0),(p 4 0,aw w [] (0)),(p 13 0,aJ (.ref (p 15 0))),(p 15 0,aZ w fun i=>p 15 (i+1))] (fun c=>(.next,[bJ "a" .none 1,ab (di "a" fun i=>p 15 (i+1)) 1,aw w [("sign",c 0,.str (c0 "a") (c 1))] (1),aJ (.ref (p 15 0)),aZ w fun i=>p 15 (i+1)],[])):=
 aA (orcs:=[ca w 4 "a" fun g=>cg g 97]) (aa (ck fun g=>by kernel_rfl) aq) 56 1 [0,1,0,1,0,87,1,1,1,0,3,2,4,3,5,5,5,2,0,2,0,26,2,1,2,0,1,0,1,0,87,1,1,1,0,7] [0,1,2,3,4] (fun n a f=>aB [a+1,a+0]) (hc:=aS (bv _ _ _ _ _ _))
theorem Jj (b:Bool) (w:Yc) (p:af):aC (B0 (W b true w)) 2 (bj (c4 w) (p 1 0) (p 3 0) (p 4 0) (p 6 0) [p 13 0]) [(p 1 0,bJ "/" (.str "/" (p 1 1)) 0),(p 3 0,ab [] 0),(p 4 0,aw w [] (0)),(p 13 0,aJ (.ref (p 15 0))),(p 15 0,aZ w fun i=>p 15 (i+1))] (fun c=>(.next,[bJ "/" .none 1,ab (di "/" fun i=>p 15 (i+1)) 1,aw w [("sign",c 0,.str (c0 "/") (c 1))] (1),aJ (.ref (p 15 0)),aZ w fun i=>p 15 (i+1)],[])):=
 aA (orcs:=[ca w 4 "/" fun g=>cg g 47]) (aa (ck fun g=>by kernel_rfl) aq) 56 1 [0,1,0,1,0,87,1,1,1,0,3,2,4,3,5,5,5,2,0,2,0,26,2,1,2,0,1,0,1,0,87,1,1,1,0,7] [0,1,2,3,4] (fun n a f=>aB [a+1,a+0]) (hc:=aS (bv _ _ _ _ _ _))
theorem Jk (b:Bool) (w:Yc) (p:af):aC (B0 (W b true w)) 2 (bj (c4 w) (p 1 0) (p 3 0) (p 4 0) (p 6 0) [p 13 0]) [(p 1 0,bJ "." (.str "." (p 1 1)) 0),(p 3 0,ab [] 0),(p 4 0,aw w [] (0)),(p 13 0,aJ (.ref (p 15 0))),(p 15 0,aZ w fun i=>p 15 (i+1))] (fun c=>(.next,[bJ "." .none 1,ab (di "." fun i=>p 15 (i+1)) 1,aw w [("sign",c 0,.str (c0 ".") (c 1))] (1),aJ (.ref (p 15 0)),aZ w fun i=>p 15 (i+1)],[])):=
 aA (orcs:=[ca w 4 "." fun g=>cg g 46]) (aa (ck fun g=>by kernel_rfl) aq) 56 1 [0,1,0,1,0,87,1,1,1,0,3,2,4,3,5,5,5,2,0,2,0,26,2,1,2,0,1,0,1,0,87,1,1,1,0,7] [0,1,2,3,4] (fun n a f=>aB [a+1,a+0]) (hc:=aS (bv _ _ _ _ _ _))
theorem Jl (b:Bool) (w:Yc) (p:af):aC (B0 (W b true w)) 2 (bj (c4 w) (p 1 0) (p 3 0) (p 4 0) (p 6 0) [p 13 0]) [(p 1 0,bJ "=" (.str "=" (p 1 1)) 0),(p 3 0,ab [] 0),(p 4 0,aw w [] (0)),(p 13 0,aJ (.ref (p 15 0))),(p 15 0,aZ w fun i=>p 15 (i+1))] (fun c=>(.next,[bJ "=" .none 1,ab (di "=" fun i=>p 15 (i+1)) 1,aw w [("sign",c 0,.str (c0 "=") (c 1))] (1),aJ (.ref (p 15 0)),aZ w fun i=>p 15 (i+1)],[])):=
 aA (orcs:=[ca w 4 "=" fun g=>cg g 61]) (aa (ck fun g=>by kernel_rfl) aq) 56 1 [0,1,0,1,0,87,1,1,1,0,3,2,4,3,5,5,5,2,0,2,0,26,2,1,2,0,1,0,1,0,87,1,1,1,0,7] [0,1,2,3,4] (fun n a f=>aB [a+1,a+0]) (hc:=aS (bv _ _ _ _ _ _))
theorem Jm (b:Bool) (w:Yc) (p:af):aC (B0 (W b true w)) 2 (bj (c4 w) (p 1 0) (p 3 0) (p 4 0) (p 6 0) [p 13 0]) [(p 1 0,bJ " " (.str " " (p 1 1)) 0),(p 3 0,ab [] 0),(p 4 0,aw w [] (0)),(p 13 0,aJ (.ref (p 15 0))),(p 15 0,aZ w fun i=>p 15 (i+1))] (fun c=>(.next,[bJ " " .none 1,ab (di " " fun i=>p 15 (i+1)) 1,aw w [("sign",c 0,.str (c0 " ") (c 1))] (1),aJ (.ref (p 15 0)),aZ w fun i=>p 15 (i+1)],[])):=
 aA (orcs:=[ca w 4 " " fun g=>cg g 32]) (aa (ck fun g=>by kernel_rfl) aq) 56 1 [0,1,0,1,0,87,1,1,1,0,3,2,4,3,5,5,5,2,0,2,0,26,2,1,2,0,1,0,1,0,87,1,1,1,0,7] [0,1,2,3,4] (fun n a f=>aB [a+1,a+0]) (hc:=aS (bv _ _ _ _ _ _))
theorem Jn (b:Bool) (w:Yc) (p:af):aC (B0 (W b true w)) 2 (bj (c4 w) (p 1 0) (p 3 0) (p 4 0) (p 6 0) [p 13 0]) [(p 1 0,bJ "é" (.str "é" (p 1 1)) 0),(p 3 0,ab [] 0),(p 4 0,aw w [] (0)),(p 13 0,aJ (.ref (p 15 0))),(p 15 0,aZ w fun i=>p 15 (i+1))] (fun c=>(.next,[bJ "é" .none 1,ab (di "é" fun i=>p 15 (i+1)) 1,aw w [("sign",c 0,.str (c0 "é") (c 1))] (1),aJ (.ref (p 15 0)),aZ w fun i=>p 15 (i+1)],[])):=
 aA (orcs:=[ca w 4 "é" fun g=>cg g 233]) (aa (ck fun g=>by kernel_rfl) aq) 56 1 [0,1,0,1,0,76,1,1,1,0,3,2,4,3,5,5,5,2,0,2,0,26,2,1,2,0,1,0,1,0,76,1,1,1,0,7] [0,1,2,3,4] (fun n a f=>aB [a+1,a+0]) (hc:=aS (bv _ _ _ _ _ _))
theorem Jo (b:Bool) (w:Yc) (p:af):aC (B0 (W b true w)) 2 (bj (c4 w) (p 1 0) (p 3 0) (p 4 0) (p 6 0) [p 13 0]) [(p 1 0,bJ "a/" (.str "a/" (p 1 1)) 0),(p 3 0,ab [] 0),(p 4 0,aw w [] (0)),(p 13 0,aJ (.ref (p 15 0))),(p 15 0,aZ w fun i=>p 15 (i+1))] (fun a=>(.next,[bJ "a/" .none 2,ab (di "a/" fun i=>p 15 (i+1)) 2,aw w [("sign",a 0,.str (c0 "a/") (a 1))] (1),aJ (.ref (p 15 0)),aZ w fun i=>p 15 (i+1)],[])):=
 aA (orcs:=[ca w 4 "a" fun g=>cg g 97,ca w 4 "/" fun g=>cg g 47]) (aa (ck fun g=>by kernel_rfl) (aa (ck fun g=>by kernel_rfl) aq)) 91 2 [0,1,0,1,0,87,1,1,1,0,3,2,4,3,5,5,5,2,0,2,0,26,2,1,2,0,1,0,1,0,87,1,1,1,0,3,2,4,3,5,5,5,3,0,2,0,26,2,1,2,0,1,0,1,0,87,1,1,1,0,7] [0,1,2,3,4] (fun n c f=>aB [c+1,(f 0).2.1+0]) (hc:=aS (bv _ _ _ _ _ _))
theorem Jp (b:Bool) (w:Yc) (p:af):aC (B0 (W b true w)) 2 (bj (c4 w) (p 1 0) (p 3 0) (p 4 0) (p 6 0) [p 13 0]) [(p 1 0,bJ "/." (.str "/." (p 1 1)) 0),(p 3 0,ab [] 0),(p 4 0,aw w [] (0)),(p 13 0,aJ (.ref (p 15 0))),(p 15 0,aZ w fun i=>p 15 (i+1))] (fun a=>(.next,[bJ "/." .none 2,ab (di "/." fun i=>p 15 (i+1)) 2,aw w [("sign",a 0,.str (c0 "/.") (a 1))] (1),aJ (.ref (p 15 0)),aZ w fun i=>p 15 (i+1)],[])):=
 aA (orcs:=[ca w 4 "/" fun g=>cg g 47,ca w 4 "." fun g=>cg g 46]) (aa (ck fun g=>by kernel_rfl) (aa (ck fun g=>by kernel_rfl) aq)) 91 2 [0,1,0,1,0,87,1,1,1,0,3,2,4,3,5,5,5,2,0,2,0,26,2,1,2,0,1,0,1,0,87,1,1,1,0,3,2,4,3,5,5,5,3,0,2,0,26,2,1,2,0,1,0,1,0,87,1,1,1,0,7] [0,1,2,3,4] (fun n c f=>aB [c+1,(f 0).2.1+0]) (hc:=aS (bv _ _ _ _ _ _))
theorem Jq (b:Bool) (w:Yc) (p:af):aC (B0 (W b true w)) 2 (bj (c4 w) (p 1 0) (p 3 0) (p 4 0) (p 6 0) [p 13 0]) [(p 1 0,bJ ".=" (.str ".=" (p 1 1)) 0),(p 3 0,ab [] 0),(p 4 0,aw w [] (0)),(p 13 0,aJ (.ref (p 15 0))),(p 15 0,aZ w fun i=>p 15 (i+1))] (fun a=>(.next,[bJ ".=" .none 2,ab (di ".=" fun i=>p 15 (i+1)) 2,aw w [("sign",a 0,.str (c0 ".=") (a 1))] (1),aJ (.ref (p 15 0)),aZ w fun i=>p 15 (i+1)],[])):=
 aA (orcs:=[ca w 4 "." fun g=>cg g 46,ca w 4 "=" fun g=>cg g 61]) (aa (ck fun g=>by kernel_rfl) (aa (ck fun g=>by kernel_rfl) aq)) 91 2 [0,1,0,1,0,87,1,1,1,0,3,2,4,3,5,5,5,2,0,2,0,26,2,1,2,0,1,0,1,0,87,1,1,1,0,3,2,4,3,5,5,5,3,0,2,0,26,2,1,2,0,1,0,1,0,87,1,1,1,0,7] [0,1,2,3,4] (fun n c f=>aB [c+1,(f 0).2.1+0]) (hc:=aS (bv _ _ _ _ _ _))
theorem Jr (b:Bool) (w:Yc) (p:af):aC (B0 (W b true w)) 2 (bj (c4 w) (p 1 0) (p 3 0) (p 4 0) (p 6 0) [p 13 0]) [(p 1 0,bJ "= " (.str "= " (p 1 1)) 0),(p 3 0,ab [] 0),(p 4 0,aw w [] (0)),(p 13 0,aJ (.ref (p 15 0))),(p 15 0,aZ w fun i=>p 15 (i+1))] (fun a=>(.next,[bJ "= " .none 2,ab (di "= " fun i=>p 15 (i+1)) 2,aw w [("sign",a 0,.str (c0 "= ") (a 1))] (1),aJ (.ref (p 15 0)),aZ w fun i=>p 15 (i+1)],[])):=
 aA (orcs:=[ca w 4 "=" fun g=>cg g 61,ca w 4 " " fun g=>cg g 32]) (aa (ck fun g=>by kernel_rfl) (aa (ck fun g=>by kernel_rfl) aq)) 91 2 [0,1,0,1,0,87,1,1,1,0,3,2,4,3,5,5,5,2,0,2,0,26,2,1,2,0,1,0,1,0,87,1,1,1,0,3,2,4,3,5,5,5,3,0,2,0,26,2,1,2,0,1,0,1,0,87,1,1,1,0,7] [0,1,2,3,4] (fun n c f=>aB [c+1,(f 0).2.1+0]) (hc:=aS (bv _ _ _ _ _ _))
theorem Js (b:Bool) (w:Yc) (p:af):aC (B0 (W b true w)) 2 (bj (c4 w) (p 1 0) (p 3 0) (p 4 0) (p 6 0) [p 13 0]) [(p 1 0,bJ " é" (.str " é" (p 1 1)) 0),(p 3 0,ab [] 0),(p 4 0,aw w [] (0)),(p 13 0,aJ (.ref (p 15 0))),(p 15 0,aZ w fun i=>p 15 (i+1))] (fun a=>(.next,[bJ " é" .none 2,ab (di " é" fun i=>p 15 (i+1)) 2,aw w [("sign",a 0,.str (c0 " é") (a 1))] (1),aJ (.ref (p 15 0)),aZ w fun i=>p 15 (i+1)],[])):=
 aA (orcs:=[ca w 4 " " fun g=>cg g 32,ca w 4 "é" fun g=>cg g 233]) (aa (ck fun g=>by kernel_rfl) (aa (ck fun g=>by kernel_rfl) aq)) 91 2 [0,1,0,1,0,76,1,1,1,0,3,2,4,3,5,5,5,2,0,2,0,26,2,1,2,0,1,0,1,0,76,1,1,1,0,3,2,4,3,5,5,5,3,0,2,0,26,2,1,2,0,1,0,1,0,76,1,1,1,0,7] [0,1,2,3,4] (fun n c f=>aB [c+1,(f 0).2.1+0]) (hc:=aS (bv _ _ _ _ _ _))
theorem Jt (b:Bool) (w:Yc) (p:af):aC (B0 (W b true w)) 2 (bj (c4 w) (p 1 0) (p 3 0) (p 4 0) (p 6 0) [p 13 0]) [(p 1 0,bJ "éa" (.str "éa" (p 1 1)) 0),(p 3 0,ab [] 0),(p 4 0,aw w [] (0)),(p 13 0,aJ (.ref (p 15 0))),(p 15 0,aZ w fun i=>p 15 (i+1))] (fun a=>(.next,[bJ "éa" .none 2,ab (di "éa" fun i=>p 15 (i+1)) 2,aw w [("sign",a 0,.str (c0 "éa") (a 1))] (1),aJ (.ref (p 15 0)),aZ w fun i=>p 15 (i+1)],[])):=
 aA (orcs:=[ca w 4 "é" fun g=>cg g 233,ca w 4 "a" fun g=>cg g 97]) (aa (ck fun g=>by kernel_rfl) (aa (ck fun g=>by kernel_rfl) aq)) 91 2 [0,1,0,1,0,76,1,1,1,0,3,2,4,3,5,5,5,2,0,2,0,26,2,1,2,0,1,0,1,0,76,1,1,1,0,3,2,4,3,5,5,5,3,0,2,0,26,2,1,2,0,1,0,1,0,76,1,1,1,0,7] [0,1,2,3,4] (fun n c f=>aB [c+1,(f 0).2.1+0]) (hc:=aS (bv _ _ _ _ _ _))
end
def wa (x:Str):String:=if x.cps.all (· < 128) then "str_ascii_iterator" else "str_iterator"
def wb (x:Str):aH:={code:=fun p=>.call (.builtin "str.__iter__") ⟨[.str x (p 0 0)],[]⟩,strm:=true,out:=fun p a=>(.ret (.ref (a 0)),[],[(a 0,bJ x (.str x (p 0 0)) 0)])}
theorem Ju {B:bf} {m:Nat} {x:Str} (e:wa x=ed x):(wb x).Sure B m:=by
 refine ⟨List.nodup_nil,fun p A o h a t d s g l k Q E nd u j f=>d8 ?_⟩
 refine wpAny_call_entry F.slot_str_iter (typeIs_str _ x (p 0 0)) F.entry_str_iter ?_ (F.args_str_iter_1 _)
 show wpAny _ _ (do ret (←newFields (if (true&&x.cps.all (· < 128))=true then "str_ascii_iterator" else "str_iterator") [.str x (p 0 0),rawInt 0])) _ _ _
 have c:(if (true&&x.cps.all (· < 128))=true then "str_ascii_iterator" else "str_iterator")=ed x:=by rw [←e,Bool.true_and];rfl
 rw [c]
 refine wpAny_bind (wpAny_newObj_type (wpAny_pure ⟨_,rfl,?_⟩))
 exact f (h.push (bJ x (.str x (p 0 0)) 0)) a (fun _=>h.objs.size) (fun e=>by cases e) (by show h.objs.size≤(h.objs.push _).size;rw [Array.size_push];lia) (fun b n e _=>Heap.get?_push_of_some _ e) (fun _ hx=>nomatch hx)
  (fun q i=>by
   have:q=(h.objs.size,bJ x (.str x (p 0 0)) 0):=by simpa [wb] using i
   rw [this];exact ⟨Heap.get?_push_size _ rfl,Nat.le_refl _⟩) (by simp [wb])
def i4:Yg:=["a","/",".","="," ","é"]
def i5:Yg:=["a/","/.",".=","= "," é","éa"]
def A0 (c:Nat):Str:=if c==97 then "a" else if c==47 then "=2F" else if c==46 then "=2E" else if c==61 then "=3D" else if c==32 then "=20" else "=E9"
def kA (x:Str):Str:=A0 ((bW x.cps.toList 0).getD 0)
def kB (x:Str):Str:=A0 ((bW x.cps.toList 1).getD 0)
def A1 (w:Yc) (x:Str) (p:af):Ya:=[(p 1 0,bJ x (.str x (p 1 1)) 0),(p 3 0,ab [] 0),(p 4 0,aw w [] 0),(p 13 0,aJ (.ref (p 15 0))),(p 15 0,aZ w fun i=>p 15 (i+1))]
def Jv (w:Yc) (x:Str) (p:af) (a:Ye):Flow×Yf×Ya:=(.next,[bJ x .none 1,ab [.str (ao x) (a 2)] 1,aw w [("sign",a 0,.str (c0 x) (a 1))] 1,aJ (.ref (p 15 0)),aZ w fun i=>p 15 (i+1)],[])
def Jw (w:Yc) (x:Str) (p:af) (a:Ye):Flow×Yf×Ya:=(.next,[bJ x .none 2,ab [.str (kA x) (a 2),.str (kB x) (a 3)] 2,aw w [("sign",a 0,.str (c0 x) (a 1))] 1,aJ (.ref (p 15 0)),aZ w fun i=>p 15 (i+1)],[])
section
def A2 (w:Yc) (p:af):Code:=bj (c4 w) (p 1 0) (p 3 0) (p 4 0) (p 6 0) [p 13 0]
def f9 (a b c d:Nat):Nat→Nat:=fun i=>match i with | 0=>a | 1=>b | 2=>c | _=>d
theorem g9 {B:bf} {m:Nat} {c:Code} {b:Ya} {o g:Ye→Flow×Yf×Ya} (h:aC B m c b o) (e:∀d,∃f,g f=o d):aC B m c b g:=aL.re (out:=_) h fun d=>by
 obtain ⟨a,i⟩:=e d
 exact ⟨a,by show lP (g a)=lP (o d);rw [i]⟩
theorem Jx (b c:Bool) (w:Yc) (p:af):∀x∈i4,aC (B0 (W b c w)) 2 (A2 w p) (A1 w x p) (Jv w x p):=by
 unfold i4
 refine fc (g9 (by cases c;exact I6 b w p;exact Ji b w p) fun a=>⟨f9 (a 0) (a 1) (p 15 2) 0,by kernel_rfl⟩) ?_
 refine fc (g9 (by cases c;exact I7 b w p;exact Jj b w p) fun a=>⟨f9 (a 0) (a 1) (p 15 4) 0,by kernel_rfl⟩) ?_
 refine fc (g9 (by cases c;exact I8 b w p;exact Jk b w p) fun a=>⟨f9 (a 0) (a 1) (p 15 6) 0,by kernel_rfl⟩) ?_
 refine fc (g9 (by cases c;exact I9 b w p;exact Jl b w p) fun a=>⟨f9 (a 0) (a 1) (p 15 8) 0,by kernel_rfl⟩) ?_
 refine fc (g9 (by cases c;exact Ja b w p;exact Jm b w p) fun a=>⟨f9 (a 0) (a 1) (p 15 10) 0,by kernel_rfl⟩) ?_
 refine fc (g9 (by cases c;exact Jb b w p;exact Jn b w p) fun a=>⟨f9 (a 0) (a 1) (p 15 12) 0,by kernel_rfl⟩) ?_
 exact fn
theorem Jy (b c:Bool) (w:Yc) (p:af):∀x∈i5,aC (B0 (W b c w)) 2 (A2 w p) (A1 w x p) (Jw w x p):=by
 unfold i5
 refine fc (g9 (by cases c;exact Jc b w p;exact Jo b w p) fun a=>⟨f9 (a 0) (a 1) (p 15 2) (p 15 4),by kernel_rfl⟩) ?_
 refine fc (g9 (by cases c;exact Jd b w p;exact Jp b w p) fun a=>⟨f9 (a 0) (a 1) (p 15 4) (p 15 6),by kernel_rfl⟩) ?_
 refine fc (g9 (by cases c;exact Je b w p;exact Jq b w p) fun a=>⟨f9 (a 0) (a 1) (p 15 6) (p 15 8),by kernel_rfl⟩) ?_
 refine fc (g9 (by cases c;exact Jf b w p;exact Jr b w p) fun a=>⟨f9 (a 0) (a 1) (p 15 8) (p 15 10),by kernel_rfl⟩) ?_
 refine fc (g9 (by cases c;exact Jg b w p;exact Js b w p) fun a=>⟨f9 (a 0) (a 1) (p 15 10) (p 15 12),by kernel_rfl⟩) ?_
 refine fc (g9 (by cases c;exact Jh b w p;exact Jt b w p) fun a=>⟨f9 (a 0) (a 1) (p 15 12) (p 15 2),by kernel_rfl⟩) ?_
 exact fn
def pC (a:String) (v:Yd) (i:Nat):Obj:={cls:=.type a,data:=.fields #[v,.int (i:Int) 0]}
def jI (b:String) (x:Str):aH:={code:=fun p=>.call (.builtin "str.__iter__") ⟨[.str x (p 0 0)],[]⟩,strm:=true,out:=fun p a=>(.ret (.ref (a 0)),[],[(a 0,pC b (.str x (p 0 0)) 0)])}
theorem kC {B:bf} {m:Nat} {a:String} {x:Str} (e:wa x=ed x∧ed x=a):(jI a x).Sure B m:=by
 obtain ⟨e,rfl⟩:=e
 exact Ju e
def pE (w:Yc) (b:String) (x:Str) (c:Yh):aH:=bA (fun p=>bj (c4 w) (p 1 0) (p 2 0) (p 3 0) (p 0 3) [p 4 0]) c
 (fun p=>[(p 1 0,pC b (.str x (p 1 1)) 0),(p 2 0,ab [] 0),(p 3 0,aw w [] 0),(p 4 0,aJ (.ref (p 5 0))),(p 5 0,aZ w fun i=>p 5 (i+2))])
 (fun p a=>(.next,[pC b .none 1,ab [.str (ao x) (a 2)] 1,aw w [("sign",a 0,.str (c0 x) (a 1))] 1,aJ (.ref (p 5 0)),aZ w fun i=>p 5 (i+2)],[]))
def pF (w:Yc) (b:String) (x:Str) (c:Yh):aH:=bA (fun p=>bj (c4 w) (p 1 0) (p 2 0) (p 3 0) (p 0 3) [p 4 0]) c
 (fun p=>[(p 1 0,pC b (.str x (p 1 1)) 0),(p 2 0,ab [] 0),(p 3 0,aw w [] 0),(p 4 0,aJ (.ref (p 5 0))),(p 5 0,aZ w fun i=>p 5 (i+2))])
 (fun p a=>(.next,[pC b .none 2,ab [.str (kA x) (a 2),.str (kB x) (a 3)] 2,aw w [("sign",a 0,.str (c0 x) (a 1))] 1,aJ (.ref (p 5 0)),aZ w fun i=>p 5 (i+2)],[]))
def A3 (p:af):af:=fun j i=>match j,i with | 3,_=>p 2 0 | 4,_=>p 3 0 | 6,_=>p 0 3 | 13,_=>p 4 0 | 15,0=>p 5 0 | 15,i+1=>p 5 (i+2) | j,i=>p j i
theorem td {b c:Bool} {w:Yc} {m:Nat} {a:String} {x:Str} {d:Yh} (f:d.Nodup) (hx:x∈i4) (e:ed x=a) (g:2≤m):(pE w a x d).Sure (B0 (W b c w)) m:=by
 subst e
 exact (bS f fun p=>Jx b c w (A3 p) x hx).le g
theorem te {b c:Bool} {w:Yc} {m:Nat} {a:String} {x:Str} {d:Yh} (f:d.Nodup) (hx:x∈i5) (e:ed x=a) (g:2≤m):(pF w a x d).Sure (B0 (W b c w)) m:=by
 subst e
 exact (bS f fun p=>Jy b c w (A3 p) x hx).le g
theorem tf:∀x∈b1,ed x="str_ascii_iterator"∨ed x="str_iterator" := by decide +kernel
theorem kD:∀x∈i4,Txt.join "" [ao x]=ao x∧JoinOk "" [ao x]=true:=by decide +kernel
theorem kE:∀x∈i5,Txt.join "" [kA x,kB x]=ao x∧JoinOk "" [kA x,kB x]=true:=by decide +kernel
theorem kF:∀x∈b1,wa x=ed x:=by decide +kernel
theorem A4:∀x∈b1,x=""∨x∈i4∨x∈i5:=by decide +kernel
theorem kG:∀x∈i4,x∈b1∧(x.cps.toList==("" : Str).cps.toList)=false:=by decide +kernel
theorem kH:∀x∈i5,x∈b1∧(x.cps.toList==("" : Str).cps.toList)=false:=by decide +kernel
end
section
theorem Jz (b c:Bool) (w:Yc) (g i:Nat) (d a:Yb) (p:af) (j:d[i]? = some (.str "" g)) (h:a.length≤1000):aL (B0 (W b c w)) 4 (bI (cF w) (p 1 0) (p 3 0) (p 4 0) (p 6 0) [p 13 0]) [(p 1 0,am (.ref (p 2 0)) i),(p 2 0,ab d (p 2 1)),(p 3 0,ab a (p 3 1)),(p 4 0,aw w [] (0)),(p 13 0,aJ (.ref (p 15 0))),(p 15 0,aZ w fun i=>p 15 (i+1))] (fun e=>(.error (bI (cF w) (p 1 0) (p 3 0) (p 4 0) (p 6 0) [p 13 0]),[am (.ref (p 2 0)) (i+1),ab d (p 2 1),ab (a++[.str "=" (e 2)]) (e 0),aw w [("name",e 1,.str "" g)] 1,aJ (.ref (p 15 0)),aZ w fun i=>p 15 (i+1)],[])):=
 aA (orcs:=[cD 0 1 d i (.str "" g),o2 "str.__eq__" "" "" fun _=>.bool true,f3 2 a "="]) (aa (cT (by decide) j) (aa (cy (by kernel_rfl)) (aa (gA h) aq))) 21 3 [1,2,4,3,4,3,4,1] [0,1,2,3,4,5] (fun n k f i=>match i with | 0=>(f 2).2.2 1 | 1=>(f 0).2.1+0 | _=>(f 1).2.1+0) (hc:=aS (dL _ _ _ _ _ _))
theorem JA (b c:Bool) (w:Yc) (h:Yd) (e i:Nat) (d a:Yb) (p:af) (k:d[i]? = some (.str "" e)) (j:a.length≤1000):aL (B0 (W b c w)) 4 (bI (cF w) (p 1 0) (p 3 0) (p 4 0) (p 6 0) [p 13 0]) [(p 1 0,am (.ref (p 2 0)) i),(p 2 0,ab d (p 2 1)),(p 3 0,ab a (p 3 1)),(p 4 0,aw w [("name",p 4 2,h)] (p 4 1)),(p 13 0,aJ (.ref (p 15 0))),(p 15 0,aZ w fun i=>p 15 (i+1))] (fun g=>(.error (bI (cF w) (p 1 0) (p 3 0) (p 4 0) (p 6 0) [p 13 0]),[am (.ref (p 2 0)) (i+1),ab d (p 2 1),ab (a++[.str "=" (g 2)]) (g 0),aw w [("name",p 4 2,.str "" e)] (p 4 1),aJ (.ref (p 15 0)),aZ w fun i=>p 15 (i+1)],[])):=
 aA (orcs:=[cD 0 1 d i (.str "" e),o2 "str.__eq__" "" "" fun _=>.bool true,f3 2 a "="]) (aa (cT (by decide) k) (aa (cy (by kernel_rfl)) (aa (gA j) aq))) 21 3 [1,2,4,3,4,3,4,1] [0,1,2,3,4,5] (fun n m f i=>match i with | 0=>(f 2).2.2 1 | 1=>(f 0).2.1+0 | _=>(f 1).2.1+0) (hc:=aS (dL _ _ _ _ _ _))
theorem JB (b c:Bool) (w:Yc) (x:Str) (g i:Nat) (d a:Yb) (p:af) (k:d[i]? = some (.str x g)) (j:a.length≤1000) (hx:x∈i4) (h:ed x="str_ascii_iterator"):aL (B0 (W b c w)) 4 (bI (cF w) (p 1 0) (p 3 0) (p 4 0) (p 6 0) [p 13 0]) [(p 1 0,am (.ref (p 2 0)) i),(p 2 0,ab d (p 2 1)),(p 3 0,ab a (p 3 1)),(p 4 0,aw w [] (0)),(p 13 0,aJ (.ref (p 15 0))),(p 15 0,aZ w fun i=>p 15 (i+1))] (fun e=>(.error (bI (cF w) (p 1 0) (p 3 0) (p 4 0) (p 6 0) [p 13 0]),[am (.ref (p 2 0)) (i+1),ab d (p 2 1),ab (a++[.str (ao x) (e 2)]) (e 0),aw w [("name",e 1,.str x g)] 1,aJ (.ref (p 15 0)),aZ w fun i=>p 15 (i+1)],[])):=
 aA (orcs:=[cD 0 1 d i (.str x g),o2 "str.__eq__" x "" fun _=>.bool false,jI "str_ascii_iterator" x,pE w "str_ascii_iterator" x [6,7,8,4,5],bx 7 "" [ao x] (ao x),f3 2 a (ao x)]) (aa (cT (by decide) k) (aa (cy (kG x hx).2) (aa (kC ⟨kF x (kG x hx).1,h⟩) (aa (td (by decide) hx h (by decide)) (aa (bB (kD x hx).1 (kD x hx).2) (aa (gA j) aq)))))) 40 6 [1,2,4,3,4,3,4,4,7,5,9,9,8,6,7,1] [0,1,2,3,4,5] (fun n m f i=>match i with | 0=>(f 5).2.2 1 | 1=>(f 0).2.1+0 | _=>(f 4).2.2 0) (hc:=aS (dL _ _ _ _ _ _))
theorem JC (b c:Bool) (w:Yc) (j:Yd) (x:Str) (e i:Nat) (d a:Yb) (p:af) (m:d[i]? = some (.str x e)) (k:a.length≤1000) (hx:x∈i4) (h:ed x="str_ascii_iterator"):aL (B0 (W b c w)) 4 (bI (cF w) (p 1 0) (p 3 0) (p 4 0) (p 6 0) [p 13 0]) [(p 1 0,am (.ref (p 2 0)) i),(p 2 0,ab d (p 2 1)),(p 3 0,ab a (p 3 1)),(p 4 0,aw w [("name",p 4 2,j)] (p 4 1)),(p 13 0,aJ (.ref (p 15 0))),(p 15 0,aZ w fun i=>p 15 (i+1))] (fun g=>(.error (bI (cF w) (p 1 0) (p 3 0) (p 4 0) (p 6 0) [p 13 0]),[am (.ref (p 2 0)) (i+1),ab d (p 2 1),ab (a++[.str (ao x) (g 2)]) (g 0),aw w [("name",p 4 2,.str x e)] (p 4 1),aJ (.ref (p 15 0)),aZ w fun i=>p 15 (i+1)],[])):=
 aA (orcs:=[cD 0 1 d i (.str x e),o2 "str.__eq__" x "" fun _=>.bool false,jI "str_ascii_iterator" x,pE w "str_ascii_iterator" x [6,7,8,4,5],bx 7 "" [ao x] (ao x),f3 2 a (ao x)]) (aa (cT (by decide) m) (aa (cy (kG x hx).2) (aa (kC ⟨kF x (kG x hx).1,h⟩) (aa (td (by decide) hx h (by decide)) (aa (bB (kD x hx).1 (kD x hx).2) (aa (gA k) aq)))))) 40 6 [1,2,4,3,4,3,4,4,7,5,9,9,8,6,7,1] [0,1,2,3,4,5] (fun n o f i=>match i with | 0=>(f 5).2.2 1 | 1=>(f 0).2.1+0 | _=>(f 4).2.2 0) (hc:=aS (dL _ _ _ _ _ _))
theorem JD (b c:Bool) (w:Yc) (x:Str) (g i:Nat) (d a:Yb) (p:af) (k:d[i]? = some (.str x g)) (j:a.length≤1000) (hx:x∈i5) (h:ed x="str_ascii_iterator"):aL (B0 (W b c w)) 4 (bI (cF w) (p 1 0) (p 3 0) (p 4 0) (p 6 0) [p 13 0]) [(p 1 0,am (.ref (p 2 0)) i),(p 2 0,ab d (p 2 1)),(p 3 0,ab a (p 3 1)),(p 4 0,aw w [] (0)),(p 13 0,aJ (.ref (p 15 0))),(p 15 0,aZ w fun i=>p 15 (i+1))] (fun e=>(.error (bI (cF w) (p 1 0) (p 3 0) (p 4 0) (p 6 0) [p 13 0]),[am (.ref (p 2 0)) (i+1),ab d (p 2 1),ab (a++[.str (ao x) (e 2)]) (e 0),aw w [("name",e 1,.str x g)] 1,aJ (.ref (p 15 0)),aZ w fun i=>p 15 (i+1)],[])):=
 aA (orcs:=[cD 0 1 d i (.str x g),o2 "str.__eq__" x "" fun _=>.bool false,jI "str_ascii_iterator" x,pF w "str_ascii_iterator" x [6,7,8,4,5],bx 7 "" [kA x,kB x] (ao x),f3 2 a (ao x)]) (aa (cT (by decide) k) (aa (cy (kH x hx).2) (aa (kC ⟨kF x (kH x hx).1,h⟩) (aa (te (by decide) hx h (by decide)) (aa (bB (kE x hx).1 (kE x hx).2) (aa (gA j) aq)))))) 40 6 [1,2,4,3,4,3,4,4,7,5,9,9,8,6,7,1] [0,1,2,3,4,5] (fun n m f i=>match i with | 0=>(f 5).2.2 1 | 1=>(f 0).2.1+0 | _=>(f 4).2.2 0) (hc:=aS (dL _ _ _ _ _ _))
theorem JE (b c:Bool) (w:Yc) (j:Yd) (x:Str) (e i:Nat) (d a:Yb) (p:af) (m:d[i]? = some (.str x e)) (k:a.length≤1000) (hx:x∈i5) (h:ed x="str_ascii_iterator"):aL (B0 (W b c w)) 4 (bI (cF w) (p 1 0) (p 3 0) (p 4 0) (p 6 0) [p 13 0]) [(p 1 0,am (.ref (p 2 0)) i),(p 2 0,ab d (p 2 1)),(p 3 0,ab a (p 3 1)),(p 4 0,aw w [("name",p 4 2,j)] (p 4 1)),(p 13 0,aJ (.ref (p 15 0))),(p 15 0,aZ w fun i=>p 15 (i+1))] (fun g=>(.error (bI (cF w) (p 1 0) (p 3 0) (p 4 0) (p 6 0) [p 13 0]),[am (.ref (p 2 0)) (i+1),ab d (p 2 1),ab (a++[.str (ao x) (g 2)]) (g 0),aw w [("name",p 4 2,.str x e)] (p 4 1),aJ (.ref (p 15 0)),aZ w fun i=>p 15 (i+1)],[])):=
 aA (orcs:=[cD 0 1 d i (.str x e),o2 "str.__eq__" x "" fun _=>.bool false,jI "str_ascii_iterator" x,pF w "str_ascii_iterator" x [6,7,8,4,5],bx 7 "" [kA x,kB x] (ao x),f3 2 a (ao x)]) (aa (cT (by decide) m) (aa (cy (kH x hx).2) (aa (kC ⟨kF x (kH x hx).1,h⟩) (aa (te (by decide) hx h (by decide)) (aa (bB (kE x hx).1 (kE x hx).2) (aa (gA k) aq)))))) 40 6 [1,2,4,3,4,3,4,4,7,5,9,9,8,6,7,1] [0,1,2,3,4,5] (fun n o f i=>match i with | 0=>(f 5).2.2 1 | 1=>(f 0).2.1+0 | _=>(f 4).2.2 0) (hc:=aS (dL _ _ _ _ _ _))
theorem JF (b c:Bool) (w:Yc) (x:Str) (g i:Nat) (d a:Yb) (p:af) (k:d[i]? = some (.str x g)) (j:a.length≤1000) (hx:x∈i4) (h:ed x="str_iterator"):aL (B0 (W b c w)) 4 (bI (cF w) (p 1 0) (p 3 0) (p 4 0) (p 6 0) [p 13 0]) [(p 1 0,am (.ref (p 2 0)) i),(p 2 0,ab d (p 2 1)),(p 3 0,ab a (p 3 1)),(p 4 0,aw w [] (0)),(p 13 0,aJ (.ref (p 15 0))),(p 15 0,aZ w fun i=>p 15 (i+1))] (fun e=>(.error (bI (cF w) (p 1 0) (p 3 0) (p 4 0) (p 6 0) [p 13 0]),[am (.ref (p 2 0)) (i+1),ab d (p 2 1),ab (a++[.str (ao x) (e 2)]) (e 0),aw w [("name",e 1,.str x g)] 1,aJ (.ref (p 15 0)),aZ w fun i=>p 15 (i+1)],[])):=
 aA (orcs:=[cD 0 1 d i (.str x g),o2 "str.__eq__" x "" fun _=>.bool false,jI "str_iterator" x,pE w "str_iterator" x [6,7,8,4,5],bx 7 "" [ao x] (ao x),f3 2 a (ao x)]) (aa (cT (by decide) k) (aa (cy (kG x hx).2) (aa (kC ⟨kF x (kG x hx).1,h⟩) (aa (td (by decide) hx h (by decide)) (aa (bB (kD x hx).1 (kD x hx).2) (aa (gA j) aq)))))) 40 6 [1,2,4,3,4,3,4,4,7,5,9,9,8,6,7,1] [0,1,2,3,4,5] (fun n m f i=>match i with | 0=>(f 5).2.2 1 | 1=>(f 0).2.1+0 | _=>(f 4).2.2 0) (hc:=aS (dL _ _ _ _ _ _))
theorem JG (b c:Bool) (w:Yc) (j:Yd) (x:Str) (e i:Nat) (d a:Yb) (p:af) (m:d[i]? = some (.str x e)) (k:a.length≤1000) (hx:x∈i4) (h:ed x="str_iterator"):aL (B0 (W b c w)) 4 (bI (cF w) (p 1 0) (p 3 0) (p 4 0) (p 6 0) [p 13 0]) [(p 1 0,am (.ref (p 2 0)) i),(p 2 0,ab d (p 2 1)),(p 3 0,ab a (p 3 1)),(p 4 0,aw w [("name",p 4 2,j)] (p 4 1)),(p 13 0,aJ (.ref (p 15 0))),(p 15 0,aZ w fun i=>p 15 (i+1))] (fun g=>(.error (bI (cF w) (p 1 0) (p 3 0) (p 4 0) (p 6 0) [p 13 0]),[am (.ref (p 2 0)) (i+1),ab d (p 2 1),ab (a++[.str (ao x) (g 2)]) (g 0),aw w [("name",p 4 2,.str x e)] (p 4 1),aJ (.ref (p 15 0)),aZ w fun i=>p 15 (i+1)],[])):=
 aA (orcs:=[cD 0 1 d i (.str x e),o2 "str.__eq__" x "" fun _=>.bool false,jI "str_iterator" x,pE w "str_iterator" x [6,7,8,4,5],bx 7 "" [ao x] (ao x),f3 2 a (ao x)]) (aa (cT (by decide) m) (aa (cy (kG x hx).2) (aa (kC ⟨kF x (kG x hx).1,h⟩) (aa (td (by decide) hx h (by decide)) (aa (bB (kD x hx).1 (kD x hx).2) (aa (gA k) aq)))))) 40 6 [1,2,4,3,4,3,4,4,7,5,9,9,8,6,7,1] [0,1,2,3,4,5] (fun n o f i=>match i with | 0=>(f 5).2.2 1 | 1=>(f 0).2.1+0 | _=>(f 4).2.2 0) (hc:=aS (dL _ _ _ _ _ _))
theorem JH (b c:Bool) (w:Yc) (x:Str) (g i:Nat) (d a:Yb) (p:af) (k:d[i]? = some (.str x g)) (j:a.length≤1000) (hx:x∈i5) (h:ed x="str_iterator"):aL (B0 (W b c w)) 4 (bI (cF w) (p 1 0) (p 3 0) (p 4 0) (p 6 0) [p 13 0]) [(p 1 0,am (.ref (p 2 0)) i),(p 2 0,ab d (p 2 1)),(p 3 0,ab a (p 3 1)),(p 4 0,aw w [] (0)),(p 13 0,aJ (.ref (p 15 0))),(p 15 0,aZ w fun i=>p 15 (i+1))] (fun e=>(.error (bI (cF w) (p 1 0) (p 3 0) (p 4 0) (p 6 0) [p 13 0]),[am (.ref (p 2 0)) (i+1),ab d (p 2 1),ab (a++[.str (ao x) (e 2)]) (e 0),aw w [("name",e 1,.str x g)] 1,aJ (.ref (p 15 0)),aZ w fun i=>p 15 (i+1)],[])):=
 aA (orcs:=[cD 0 1 d i (.str x g),o2 "str.__eq__" x "" fun _=>.bool false,jI "str_iterator" x,pF w "str_iterator" x [6,7,8,4,5],bx 7 "" [kA x,kB x] (ao x),f3 2 a (ao x)]) (aa (cT (by decide) k) (aa (cy (kH x hx).2) (aa (kC ⟨kF x (kH x hx).1,h⟩) (aa (te (by decide) hx h (by decide)) (aa (bB (kE x hx).1 (kE x hx).2) (aa (gA j) aq)))))) 40 6 [1,2,4,3,4,3,4,4,7,5,9,9,8,6,7,1] [0,1,2,3,4,5] (fun n m f i=>match i with | 0=>(f 5).2.2 1 | 1=>(f 0).2.1+0 | _=>(f 4).2.2 0) (hc:=aS (dL _ _ _ _ _ _))
theorem JI (b c:Bool) (w:Yc) (j:Yd) (x:Str) (e i:Nat) (d a:Yb) (p:af) (m:d[i]? = some (.str x e)) (k:a.length≤1000) (hx:x∈i5) (h:ed x="str_iterator"):aL (B0 (W b c w)) 4 (bI (cF w) (p 1 0) (p 3 0) (p 4 0) (p 6 0) [p 13 0]) [(p 1 0,am (.ref (p 2 0)) i),(p 2 0,ab d (p 2 1)),(p 3 0,ab a (p 3 1)),(p 4 0,aw w [("name",p 4 2,j)] (p 4 1)),(p 13 0,aJ (.ref (p 15 0))),(p 15 0,aZ w fun i=>p 15 (i+1))] (fun g=>(.error (bI (cF w) (p 1 0) (p 3 0) (p 4 0) (p 6 0) [p 13 0]),[am (.ref (p 2 0)) (i+1),ab d (p 2 1),ab (a++[.str (ao x) (g 2)]) (g 0),aw w [("name",p 4 2,.str x e)] (p 4 1),aJ (.ref (p 15 0)),aZ w fun i=>p 15 (i+1)],[])):=
 aA (orcs:=[cD 0 1 d i (.str x e),o2 "str.__eq__" x "" fun _=>.bool false,jI "str_iterator" x,pF w "str_iterator" x [6,7,8,4,5],bx 7 "" [kA x,kB x] (ao x),f3 2 a (ao x)]) (aa (cT (by decide) m) (aa (cy (kH x hx).2) (aa (kC ⟨kF x (kH x hx).1,h⟩) (aa (te (by decide) hx h (by decide)) (aa (bB (kE x hx).1 (kE x hx).2) (aa (gA k) aq)))))) 40 6 [1,2,4,3,4,3,4,4,7,5,9,9,8,6,7,1] [0,1,2,3,4,5] (fun n o f i=>match i with | 0=>(f 5).2.2 1 | 1=>(f 0).2.1+0 | _=>(f 4).2.2 0) (hc:=aS (dL _ _ _ _ _ _))
theorem JJ (b c:Bool) (w:Yc) (e:Yd) (i:Nat) (a d:Yb) (f:a.length≤i) (p:af):aC (B0 (W b c w)) 4 (bI (cF w) (p 1 0) (p 3 0) (p 4 0) (p 6 0) [p 13 0]) [(p 1 0,am (.ref (p 2 0)) i),(p 2 0,ab a (p 2 1)),(p 3 0,ab d (p 3 1)),(p 4 0,aw w [("name",p 4 2,e)] (p 4 1))] (fun g=>(.next,[am .none i,ab a (p 2 1),ab d (p 3 1),aw w [("name",p 4 2,e)] (p 4 1)],[])):=
 aA (orcs:=[fK 0 1 a i]) (aa (iR (by decide) f) aq) 7 1 [1,2,5] [0,1,2,3] (fun _ _ _ _=>0) (hc:=aS (dL _ _ _ _ _ _))
theorem JK (b:Bool) (w:Yc) (c a:Yb) (p:af):aL (B0 (W b false w)) 4 (bj (cF w) (p 1 0) (p 3 0) (p 4 0) (p 6 0) [p 13 0]) [(p 1 0,am (.ref (p 2 0)) 0),(p 2 0,ab c (p 2 1)),(p 3 0,ab a (p 3 1)),(p 4 0,aw w [] (0))] (fun d=>(.error (bI (cF w) (p 1 0) (p 3 0) (p 4 0) (p 6 0) [p 13 0]),[am (.ref (p 2 0)) 0,ab c (p 2 1),ab a (p 3 1),aw w [] (0)],[])):=
 aA (orcs:=[]) aq 14 0 [1,1,0,1,0,43,1,1] [0,1,2,3] (fun _ _ _ _=>0) (hc:=aS (bv _ _ _ _ _ _))
theorem JL (b:Bool) (w:Yc) (c a:Yb) (p:af):aL (B0 (W b true w)) 4 (bj (cF w) (p 1 0) (p 3 0) (p 4 0) (p 6 0) [p 13 0]) [(p 1 0,am (.ref (p 2 0)) 0),(p 2 0,ab c (p 2 1)),(p 3 0,ab a (p 3 1)),(p 4 0,aw w [] (0))] (fun d=>(.error (bI (cF w) (p 1 0) (p 3 0) (p 4 0) (p 6 0) [p 13 0]),[am (.ref (p 2 0)) 0,ab c (p 2 1),ab a (p 3 1),aw w [] (0)],[])):=
 aA (orcs:=[]) aq 4 0 [1] [0,1,2,3] (fun _ _ _ _=>0) (hc:=aS (bv _ _ _ _ _ _))
end
abbrev SD:=Str×Nat
def pH (d:SD):Yd:=.str d.1 d.2
def pI (d:SD) (a:Ye):Yd:=.str (ao d.1) (a 2)
def nu {δ : Type} (_ : δ) (_:Ye):Ya:=[]
def pJ (r:Yg) (g:Ye) (a:Ye):ij:=b5 (d1 pH pI) (dh r (fun i=>g (i+1)) 0) ⟨[],0,none⟩ a
def nv (r:Yg) (g a:Ye):Obj:=ab (c2 pI (dh r (fun i=>g (i+1)) 0) a) (pJ r g a).t
theorem pK (g:Ye):∀(r:Yg) (i:Nat),(dh r g i).length=r.length
 | [],_=>rfl
 | _::r,i=>by show (dh r g (i+1)).length+1=_;rw [pK g r];rfl
theorem A5 (g:Ye):∀(r:Yg) (i:Nat),cR r g i=(dh r g i).map pH
 | [],_=>rfl
 | x::r,i=>by show Value.str x (g i)::cR r g (i+1)=Value.str x (g i)::(dh r g (i+1)).map pH;rw [A5 g r]
theorem wc (g:Ye):∀(r:Yg) (i:Nat) (d:SD),d∈dh r g i→d.1∈r
 | [],_,_,h=>by cases h
 | x::r,i,d,h=>by
  rcases List.mem_cons.mp h with rfl | h
  ·exact .head _
  ·exact .tail _ (wc g r (i+1) d h)
theorem A6:∀(b:List SD) (a:Ye),StrsAre (c2 pI b a) (b.map fun d=>ao d.1)
 | [],_=>.nil
 | d::r,a=>.cons _ _ (A6 r (od a))
theorem A7 (g:Ye):∀(r:Yg) (i:Nat),(dh r g i).map (fun d=>ao d.1)=r.map ao
 | [],_=>rfl
 | x::r,i=>by show ao x::(dh r g (i+1)).map _=ao x::r.map ao;rw [A7 g r]
theorem pL {δ : Type}:∀(b:List δ) (a:Ye),fP nu b a=[]
 | [],_=>rfl
 | _::r,a=>pL r (od a)
def JM:Option (Nat×Nat×Yd)→Nat
 | none=>0
 | some (k,_,_)=>k
def JN:Option (Nat×Nat×Yd)→Nat
 | none=>0
 | some (_,n,_)=>n
def JO:Option (Nat×Nat×Yd)→Yd
 | none=>.none
 | some (_,_,v)=>v
def ee (w:Yc) (a:Str) (v:Option (Nat×Nat×Yd)):Obj:=aw w [(a,JM v,JO v)] (JN v)
theorem A8 {δ : Type} (a : δ→Yd) (b : δ→Ye→Yd):∀(e:List δ) (s:ij) (c:Ye),s.v.isSome=true→(b5 (d1 a b) e s c).v.isSome=true
 | [],_,_,h=>h
 | d::r,s,c,h=>A8 a b r _ _ (by
  show (lr s.v (a d) (ev c 1)).isSome=true
  cases s.v <;> rfl)
theorem pM {δ : Type} (w:Yc) (f:Str) (a : δ→Yd) (b : δ→Ye→Yd) (c:List δ) (t:Nat) (e:Ye) (g:0<c.length):eP w f (b5 (d1 a b) c ⟨[],t,none⟩ e).v=ee w f (b5 (d1 a b) c ⟨[],t,none⟩ e).v:=by
 have h:(b5 (d1 a b) c ⟨[],t,none⟩ e).v.isSome=true:=by
  cases c with
  | nil=>exact absurd g (Nat.lt_irrefl _)
  | cons d r=>exact A8 a b r _ _ rfl
 revert h
 cases (b5 (d1 a b) c ⟨[],t,none⟩ e).v with
 | none=>intro h;cases h
 | some x=>intro _;rfl
def JP (b:af→Code) (w:Yc) (c:Yh) (r:Yg) (g:Ye):aH:=bA b c
 (fun p=>[(p 1 0,am (.ref (p 2 0)) 0),(p 2 0,(aE r g).2),(p 3 0,ab [] 0),(p 4 0,aw w [] 0),(p 5 0,aJ (.ref (p 6 0))),(p 6 0,aZ w fun i=>p 6 (i+2))])
 (fun p a=>(.next,[am .none r.length,(aE r g).2,nv r g a,ee w "name" (pJ r g a).v,aJ (.ref (p 6 0)),aZ w fun i=>p 6 (i+2)],[]))
section
def th (w:Yc) (a:Yh) (r:Yg) (g:Ye):aH:=JP (fun p=>bj (cF w) (p 1 0) (p 3 0) (p 4 0) (p 0 3) [p 5 0]) w a r g
def gM (p:af) (t n k:Nat):af:=fun j i=>match j,i with | 3,1=>t | 4,1=>n | 4,2=>k | 6,_=>p 0 3 | 13,_=>p 5 0 | 15,0=>p 6 0 | 15,i+1=>p 6 (i+2) | j,i=>p j i
theorem JQ (b c:Bool) (w:Yc) (p:af) {x:Str} (hx:x∈b1) (f i t n k:Nat) (d a:Yb) (g:d[i]? = some (.str x f)) (j:a.length≤1000) :
  aL (B0 (W b c w)) 4 (bI (cF w) (p 1 0) (p 3 0) (p 4 0) (p 0 3) [p 5 0]) [(p 1 0,am (.ref (p 2 0)) i),(p 2 0,ab d (p 2 1)),(p 3 0,ab a t),(p 4 0,aw w [] 0),(p 5 0,aJ (.ref (p 6 0))),(p 6 0,aZ w fun i=>p 6 (i+2))] fun m=>
   (.error (bI (cF w) (p 1 0) (p 3 0) (p 4 0) (p 0 3) [p 5 0]),[am (.ref (p 2 0)) (i+1),ab d (p 2 1),ab (a++[.str (ao x) (m 2)]) (m 0),aw w [("name",m 1,.str x f)] 1,aJ (.ref (p 6 0)),aZ w fun i=>p 6 (i+2)],[]):=by
 rcases A4 x hx with rfl | h | h
 ·exact Jz b c w f i d a (gM p t n k) g j
 ·rcases tf x hx with e | e
  ·exact JB b c w x f i d a (gM p t n k) g j h e
  ·exact JF b c w x f i d a (gM p t n k) g j h e
 ·rcases tf x hx with e | e
  ·exact JD b c w x f i d a (gM p t n k) g j h e
  ·exact JH b c w x f i d a (gM p t n k) g j h e
theorem JR (b c:Bool) (w:Yc) (p:af) {x:Str} (hx:x∈b1) (g:Yd) (f i t n k:Nat) (d a:Yb) (j:d[i]? = some (.str x f)) (m:a.length≤1000) :
  aL (B0 (W b c w)) 4 (bI (cF w) (p 1 0) (p 3 0) (p 4 0) (p 0 3) [p 5 0]) [(p 1 0,am (.ref (p 2 0)) i),(p 2 0,ab d (p 2 1)),(p 3 0,ab a t),(p 4 0,aw w [("name",k,g)] n),(p 5 0,aJ (.ref (p 6 0))),(p 6 0,aZ w fun i=>p 6 (i+2))] fun o=>
   (.error (bI (cF w) (p 1 0) (p 3 0) (p 4 0) (p 0 3) [p 5 0]),[am (.ref (p 2 0)) (i+1),ab d (p 2 1),ab (a++[.str (ao x) (o 2)]) (o 0),aw w [("name",k,.str x f)] n,aJ (.ref (p 6 0)),aZ w fun i=>p 6 (i+2)],[]):=by
 rcases A4 x hx with rfl | h | h
 ·exact JA b c w g f i d a (gM p t n k) j m
 ·rcases tf x hx with e | e
  ·exact JC b c w g x f i d a (gM p t n k) j m h e
  ·exact JG b c w g x f i d a (gM p t n k) j m h e
 ·rcases tf x hx with e | e
  ·exact JE b c w g x f i d a (gM p t n k) j m h e
  ·exact JI b c w g x f i d a (gM p t n k) j m h e
def kI (w:Yc) (p:af):Ya:=[(p 5 0,aJ (.ref (p 6 0))),(p 6 0,aZ w fun i=>p 6 (i+2))]
theorem A9 {b c:Bool} {w:Yc} {m:Nat} {C:Yh} {r:Yg} {g:Nat→Nat} (L:C.Nodup) (z:b7 r) (Z:4≤m):(th w C r g).Sure (B0 (W b c w)) m:=by
 refine (aH.Sure.le ?_ Z:aH.Sure (B0 (W b c w)) m _)
 refine ⟨L,fun p A O h H S d P g' l k Q E nd U G Y=>x_call (hd:=none) ?_ (by intro e;cases e)⟩
 have s:∀a∈r,a∈b1:=vZ z
 have F:0<r.length:=by rcases z with ⟨a,_,rfl⟩ | ⟨a,_,d,_,rfl⟩ <;> simp
 have N:r.length≤500:=by rcases z with ⟨a,_,rfl⟩ | ⟨a,_,d,_,rfl⟩ <;> simp
 have ndS:((kI w p).map (·.1)).Nodup:=by
  have:(kI w p).Sublist ((th w C r g).objs p):=by
   show (kI w p).Sublist ([_,_,_,_]++kI w p)
   exact List.sublist_append_right _ _
  exact List.Sublist.nodup (this.map _) nd
 have B:=pk (bG (W b c w)) (m:=4) (st:=bj (cF w) (p 1 0) (p 3 0) (p 4 0) (p 0 3) [p 5 0]) (lp:=bI (cF w) (p 1 0) (p 3 0) (p 4 0) (p 0 3) [p 5 0]) w "name" (p 1 0) (p 2 0) (p 3 0) (p 4 0) r.length 0 (cR r (fun i=>g (i+1)) 0) (kI w p) pH (fun _=>kI w p) pI nu (dh r (fun i=>g (i+1)) 0) (A5 _ _ _) (by rw [pK];exact F) (by rw [pK];exact N)
  (by
   cases c
   ·exact JK b w _ [] (fun j i=>match j,i with | 2,1=>r.length | j,i=>gM p 0 0 0 j i)
   ·exact JL b w _ [] (fun j i=>match j,i with | 2,1=>r.length | j,i=>gM p 0 0 0 j i))
  (fun i d o t u hx y=>JQ b c w (fun j i=>match j,i with | 2,1=>r.length | j,i=>p j i) (s _ (wc _ _ _ d u)) d.2 i t 0 0 _ o hx y)
  (fun i d o t k n v u hx y=>JR b c w (fun j i=>match j,i with | 2,1=>r.length | j,i=>p j i) (s _ (wc _ _ _ d u)) v d.2 i t n k _ o hx y)
  (fun i o t k n v R=>JJ b c w v i _ o R (fun j i=>match j,i with | 2,1=>r.length | j,i=>gM p t n k j i))
  (fun d u=>⟨fun q X=>X,ndS⟩)
 refine B A O h H S d P _ nd U G fun J D f le V I y K => ?_
 refine Y J D f (fun e=>by cases e) le V (fun x hx=>I x ?_) (fun _ h=>nomatch h) List.nodup_nil
 show x∈((([(p 1 0,am (.ref (p 2 0)) 0),(p 2 0,(aE r g).2),(p 3 0,ab [] 0),(p 4 0,aw w [] 0)]++kI w p).map (·.1)).zip ([am .none (dh r (fun i=>g (i+1)) 0).length,(aE r g).2,nv r g f,eP w "name" (pJ r g f).v]++bH (kI w p)))
 have T:eP w "name" (pJ r g f).v=ee w "name" (pJ r g f).v:=pM w "name" pH pI _ 0 f (by rw [pK];exact F)
 rw [pK,T]
 exact hx
end
section
theorem JS (b c:Bool) (w:Yc) (r:Yg) (i:Nat) (e d:Yb) (p:af) (k:e[i]? = some (.ref (p 5 0))) (h:d.length≤1000) (g:b7 r):aL (B0 (W b c w)) 5 (bI (g7 w) (p 1 0) (p 3 0) (p 4 0) (p 6 0) [p 13 0]) [(p 1 0,am (.ref (p 2 0)) i),(p 2 0,ab e (p 2 1)),(p 3 0,ab d (p 3 1)),(p 4 0,aw w [] (0)),aE r (p 5),(p 13 0,aJ (.ref (p 15 0))),(p 15 0,aZ w fun i=>p 15 (i+1))] (fun a=>(.error (bI (g7 w) (p 1 0) (p 3 0) (p 4 0) (p 6 0) [p 13 0]),[am (.ref (p 2 0)) (i+1),ab e (p 2 1),ab (d++[.ref (a 2)]) (a 0),aw w [("row",a 1,.ref (p 5 0))] 1,(aE r (p 5)).2,aJ (.ref (p 15 0)),aZ w fun i=>p 15 (i+1)],[(a 2,nv r (p 5) fun i=>a (i+3))])):=
 aA (orcs:=[cD 0 1 e i (.ref (p 5 0)),th w [7,4,8,9,5,6] r (p 5),lm 2 d]) (aa (cT (by decide) k) (aa (A9 (by decide) g (by decide)) (aa (m0 h) aq))) 34 3 [1,2,4,3,4,5,5,0,5,0,23,8,3,10,10,9,4,1] [0,1,2,3,4,5,6,8] (fun n m f i=>match i with | 0=>(f 2).2.2 1 | 1=>(f 0).2.1+0 | 2=>(f 0).1+1 | j+3=>(f 1).2.2 j) (hc:=aS (dL _ _ _ _ _ _))
theorem JT (b c:Bool) (w:Yc) (h:Yd) (r:Yg) (i:Nat) (d a:Yb) (p:af) (m:d[i]? = some (.ref (p 5 0))) (k:a.length≤1000) (g:b7 r):aL (B0 (W b c w)) 5 (bI (g7 w) (p 1 0) (p 3 0) (p 4 0) (p 6 0) [p 13 0]) [(p 1 0,am (.ref (p 2 0)) i),(p 2 0,ab d (p 2 1)),(p 3 0,ab a (p 3 1)),(p 4 0,aw w [("row",p 4 2,h)] (p 4 1)),aE r (p 5),(p 13 0,aJ (.ref (p 15 0))),(p 15 0,aZ w fun i=>p 15 (i+1))] (fun e=>(.error (bI (g7 w) (p 1 0) (p 3 0) (p 4 0) (p 6 0) [p 13 0]),[am (.ref (p 2 0)) (i+1),ab d (p 2 1),ab (a++[.ref (e 2)]) (e 0),aw w [("row",p 4 2,.ref (p 5 0))] (p 4 1),(aE r (p 5)).2,aJ (.ref (p 15 0)),aZ w fun i=>p 15 (i+1)],[(e 2,nv r (p 5) fun i=>e (i+3))])):=
 aA (orcs:=[cD 0 1 d i (.ref (p 5 0)),th w [7,4,8,9,5,6] r (p 5),lm 2 a]) (aa (cT (by decide) m) (aa (A9 (by decide) g (by decide)) (aa (m0 k) aq))) 34 3 [1,2,4,3,4,5,5,0,5,0,23,8,3,10,10,9,4,1] [0,1,2,3,4,5,6,8] (fun n o f i=>match i with | 0=>(f 2).2.2 1 | 1=>(f 0).2.1+0 | 2=>(f 0).1+1 | j+3=>(f 1).2.2 j) (hc:=aS (dL _ _ _ _ _ _))
theorem JU (b c:Bool) (w:Yc) (e:Yd) (i:Nat) (a d:Yb) (f:a.length≤i) (p:af):aC (B0 (W b c w)) 5 (bI (g7 w) (p 1 0) (p 3 0) (p 4 0) (p 6 0) [p 13 0]) [(p 1 0,am (.ref (p 2 0)) i),(p 2 0,ab a (p 2 1)),(p 3 0,ab d (p 3 1)),(p 4 0,aw w [("row",p 4 2,e)] (p 4 1))] (fun g=>(.next,[am .none i,ab a (p 2 1),ab d (p 3 1),aw w [("row",p 4 2,e)] (p 4 1)],[])):=
 aA (orcs:=[fK 0 1 a i]) (aa (iR (by decide) f) aq) 7 1 [1,2,5] [0,1,2,3] (fun _ _ _ _=>0) (hc:=aS (dL _ _ _ _ _ _))
theorem JV (b:Bool) (w:Yc) (c a:Yb) (p:af):aL (B0 (W b false w)) 5 (bj (g7 w) (p 1 0) (p 3 0) (p 4 0) (p 6 0) [p 13 0]) [(p 1 0,am (.ref (p 2 0)) 0),(p 2 0,ab c (p 2 1)),(p 3 0,ab a (p 3 1)),(p 4 0,aw w [] (0))] (fun d=>(.error (bI (g7 w) (p 1 0) (p 3 0) (p 4 0) (p 6 0) [p 13 0]),[am (.ref (p 2 0)) 0,ab c (p 2 1),ab a (p 3 1),aw w [] (0)],[])):=
 aA (orcs:=[]) aq 14 0 [1,1,0,1,0,43,1,1] [0,1,2,3] (fun _ _ _ _=>0) (hc:=aS (bv _ _ _ _ _ _))
theorem JW (b:Bool) (w:Yc) (c a:Yb) (p:af):aL (B0 (W b true w)) 5 (bj (g7 w) (p 1 0) (p 3 0) (p 4 0) (p 6 0) [p 13 0]) [(p 1 0,am (.ref (p 2 0)) 0),(p 2 0,ab c (p 2 1)),(p 3 0,ab a (p 3 1)),(p 4 0,aw w [] (0))] (fun d=>(.error (bI (g7 w) (p 1 0) (p 3 0) (p 4 0) (p 6 0) [p 13 0]),[am (.ref (p 2 0)) 0,ab c (p 2 1),ab a (p 3 1),aw w [] (0)],[])):=
 aA (orcs:=[]) aq 4 0 [1] [0,1,2,3] (fun _ _ _ _=>0) (hc:=aS (bv _ _ _ _ _ _))
end
theorem aL.nd {B:bf} {m:Nat} {c:Code} {a:Ya} {out:Ye→e4} (h:(a.map (·.1)).Nodup→aL B m c a out):aL B m c a out:=
 fun A e i b g d f R nd=>h nd A e i b g d f R nd
theorem JX {R:Yi} {g:Nat→Nat} {x:Addr×Obj} (h:x∈be R g) {l:Ya} (nd:((l++be R g).map (·.1)).Nodup):((x::l).map (·.1)).Nodup:=by
 rw [List.map_append,List.nodup_append] at nd
 rw [List.map_cons,List.nodup_cons]
 exact ⟨fun a=>nd.2.2 _ a _ (List.mem_map_of_mem h) rfl,nd.1⟩
def nw (d:RD) (a:Ye):Ya:=[(a 2,nv d.1 d.2 fun i=>a (i+3))]
def nx (R:Yi) (g:Ye) (b:Nat) (a:Ye):ij:=b5 (d1 f4 eQ) (b9 R g) ⟨[],b,none⟩ a
def JY (b:af→Code) (w:Yc) (c:Yh) (R:Yi) (g:Ye):aH:=bA b c
 (fun p=>[(p 1 0,am (.ref (p 2 0)) 0),(p 2 0,ab (aT R g) (p 2 1)),(p 3 0,ab [] (p 3 1)),(p 4 0,aw w [] 0),(p 5 0,aJ (.ref (p 6 0))),(p 6 0,aZ w fun i=>p 6 (i+2))])
 (fun p a=>(.next,[am .none R.length,ab (aT R g) (p 2 1),ab (c2 eQ (b9 R g) a) (nx R g (p 3 1) a).t,ee w "row" (nx R g (p 3 1) a).v,aJ (.ref (p 6 0)),aZ w fun i=>p 6 (i+2)],fP nw (b9 R g) a))
section
def Ba (w:Yc) (a:Yh) (R:Yi) (g:Ye):aH:=JY (fun p=>bj (g7 w) (p 1 0) (p 3 0) (p 4 0) (p 0 3) [p 5 0]) w a R g
def pN (p:af) (d:Ye) (t n k:Nat):af:=fun j i=>match j,i with | 3,1=>t | 4,1=>n | 4,2=>k | 5,i=>d i | 6,_=>p 0 3 | 13,_=>p 5 0 | 15,0=>p 6 0 | 15,i+1=>p 6 (i+2) | j,i=>p j i
theorem JZ {b c:Bool} {w:Yc} {m:Nat} {y:Yh} {R:Yi} {g:Nat→Nat} (z:y.Nodup) (u:∀r∈R,b7 r) (x:0<R.length) (A:R.length≤500) (D:5≤m):(Ba w y R g).SureF (B0 (W b c w)) m (be R g):=by
 refine (pe z (fun _ _=>rfl) fun p=>aL.nd fun nd => ?_:aH.SureF (B0 (W b c w)) 5 _ _).le D
 have o:(([(p 5 0,aJ (.ref (p 6 0))),(p 6 0,aZ w fun i=>p 6 (i+2))]++be R g).map (·.1)).Nodup:=by
  refine List.Sublist.nodup (List.Sublist.map _ ?_) nd
  show List.Sublist _ ([_,_,_,_]++([_,_]++be R g))
  exact List.sublist_append_right _ _
 have h:=pk (bG (W b c w)) (m:=5) (st:=bj (g7 w) (p 1 0) (p 3 0) (p 4 0) (p 0 3) [p 5 0]) (lp:=bI (g7 w) (p 1 0) (p 3 0) (p 4 0) (p 0 3) [p 5 0]) w "row" (p 1 0) (p 2 0) (p 3 0) (p 4 0) (p 2 1) (p 3 1) (aT R g) ([(p 5 0,aJ (.ref (p 6 0))),(p 6 0,aZ w fun i=>p 6 (i+2))]++be R g) f4 (fun d=>[aE d.1 d.2,(p 5 0,aJ (.ref (p 6 0))),(p 6 0,aZ w fun i=>p 6 (i+2))]) eQ nw (b9 R g) (sJ _ _).symm (by rw [f5];exact x) (by rw [f5];exact A)
  (by
   cases c
   ·exact JV b w _ [] (pN p id (p 3 1) 0 0)
   ·exact JW b w _ [] (pN p id (p 3 1) 0 0))
  (fun i d f t a hx s=>JS b c w d.1 i _ f (pN p d.2 t 0 0) hx s (u _ (iV _ _ d a).2))
  (fun i d f t k n v a hx s=>JT b c w v d.1 i _ f (pN p d.2 t n k) hx s (u _ (iV _ _ d a).2))
  (fun i f t k n v B=>JU b c w v i _ f B (pN p id t n k))
  (fun d a=>⟨fun q j=>by
   rcases List.mem_cons.mp j with rfl | j
   ·exact List.mem_append_right _ (iV _ _ d a).1
   ·exact List.mem_append_left _ j,JX (iV _ _ d a).1 o⟩)
 refine aL.re (out:=_) h fun e=>⟨e,?_⟩
 have C:eP w "row" (nx R g (p 3 1) e).v=ee w "row" (nx R g (p 3 1) e).v:=pM w "row" f4 eQ _ _ e (by rw [f5];exact x)
 show (_,[am .none R.length,_,_,ee w "row" (nx R g (p 3 1) e).v,_,_]++_,_)=_
 rw [f5,←C]
 rfl
end
def bT (R:Yi) (g:Ye) (b:Nat) (a:Ye):ij:=b5 (d1 f4 eQ) (b9 R g) ⟨[],b,none⟩ a
def J0 (b:af→Code) (w:Yc) (c:Yh) (R:Yi) (g:Ye):aH:=bA b c
 (fun p=>[(p 1 0,am (.ref (p 2 0)) 0),(p 2 0,ab (aT R g) (p 2 1)),(p 3 0,ab [] (p 3 1)),(p 4 0,aw w [] 0)])
 (fun p a=>(.next,[am .none R.length,ab (aT R g) (p 2 1),ab (aT (R.map (·.map ao)) a) (bT R g (p 3 1) a).t,ee w "row" (bT R g (p 3 1) a).v],be (R.map (·.map ao)) a))
section
def Bb (w:Yc) (a:Yh) (R:Yi) (g:Ye):aH:=J0 (fun p=>ff (fN w) (p 1 0) (p 3 0) (p 4 0) (p 0 3)) w a R g
theorem J1 {b c:Bool} {w:Yc} {m:Nat} {y:Yh} {R:Yi} {g:Nat→Nat} (z:y.Nodup) (u:∀r∈R,b7 r) (x:0<R.length) (A:R.length≤500) (D:3≤m):(Bb w y R g).SureF (B0 (W b c w)) m (be R g):=by
 refine (pe z (fun _ _=>rfl) fun p => ?_:aH.SureF (B0 (W b c w)) 3 _ _).le D
 have s:=pk (bG (W b c w)) (m:=3) (st:=ff (fN w) (p 1 0) (p 3 0) (p 4 0) (p 0 3)) (lp:=d0 (fN w) (p 1 0) (p 3 0) (p 4 0) (p 0 3)) w "row" (p 1 0) (p 2 0) (p 3 0) (p 4 0) (p 2 1) (p 3 1) (aT R g) (be R g) f4 m2 eQ (sI fun d=>d.1.map ao) (b9 R g) (sJ _ _).symm (by rw [f5];exact x) (by rw [f5];exact A)
  (by
   cases c
   ·exact F0 b w _ [] (fun j i=>match j,i with | 6,_=>p 0 3 | j,i=>p j i)
   ·exact F1 b w _ [] (fun j i=>match j,i with | 6,_=>p 0 3 | j,i=>p j i))
  (fun i d f t h hx o=>FX b c w d.1 i _ f (fun j k=>match j,k with | 3,1=>t | 5,k=>d.2 k | 6,_=>p 0 3 | j,k=>p j k) hx o (u _ (iV _ _ d h).2))
  (fun i d f t k n v h hx o=>FY b c w v d.1 i _ f (fun j a=>match j,a with | 3,1=>t | 4,1=>n | 4,2=>k | 5,a=>d.2 a | 6,_=>p 0 3 | j,a=>p j a) hx o (u _ (iV _ _ d h).2))
  (fun i f t k n v B=>FZ b c w v i _ f B (fun j a=>match j,a with | 3,1=>t | 4,1=>n | 4,2=>k | 6,_=>p 0 3 | j,a=>p j a))
  (fun d h=>⟨fun q E=>by
   have:q=aE d.1 d.2:=by simpa [m2] using E
   rw [this]
   exact (iV _ _ d h).1,by simp [m2]⟩)
 refine aL.re (out:=_) s fun e=>⟨e,?_⟩
 have C:eP w "row" (bT R g (p 3 1) e).v=ee w "row" (bT R g (p 3 1) e).v:=pM w "row" f4 eQ _ _ e (by rw [f5];exact x)
 rw [vf fun d=>d.1.map ao,vg,zD (fun r=>r.map ao),f5]
 show (_,[_,_,_,ee w "row" (bT R g (p 3 1) e).v]++_,_)=_
 rw [←C]
 rfl
end
def gc:Yi→Ye→Ye→List i3
 | [],_,_=>[]
 | r::l,g,g'=>(r,(fun i=>ev g (i+2)),(fun i=>ev g' (i+2)))::gc l (od g) (od g')
theorem nz:∀(R:Yi) (g a:Ye),(gc R g a).length=R.length
 | [],_,_=>rfl
 | _::l,g,a=>by show (gc l (od g) (od a)).length+1=_;rw [nz l];rfl
theorem wd:∀(R:Yi) (g a:Ye),(gc R g a).map (fun d=>Value.ref (d.2.1 0))=aT R g
 | [],_,_=>rfl
 | r::l,g,a=>by show Value.ref (ev g 2)::(gc l (od g) (od a)).map _=Value.ref (ev g 2)::aT l (od g);rw [wd l]
theorem Bc:∀(R:Yi) (g a:Ye),(gc R g a).map (fun d=>Value.ref (d.2.2 0))=aT (R.map (·.map ao)) a
 | [],_,_=>rfl
 | r::l,g,a=>by show Value.ref (ev a 2)::(gc l (od g) (od a)).map _=Value.ref (ev a 2)::aT (l.map (·.map ao)) (od a);rw [Bc l]
theorem Bd:∀(R:Yi) (g e:Ye) (d:i3),d∈gc R g e→aE d.1 d.2.1∈be R g∧aE (d.1.map ao) d.2.2∈be (R.map (·.map ao)) e∧d.1∈R
 | [],_,_,_,h=>by cases h
 | r::l,g,e,d,h=>by
  rcases List.mem_cons.mp h with rfl | h
  ·exact ⟨.head _,.head _,.head _⟩
  ·obtain ⟨a,b,c⟩:=Bd l (od g) (od e) d h
   exact ⟨.tail _ a,.tail _ b,.tail _ c⟩
theorem Be (f:Yg→Str):∀(R:Yi) (g a:Ye),(gc R g a).map (fun d=>f d.1)=R.map f
 | [],_,_=>rfl
 | r::l,g,a=>by show f r::(gc l (od g) (od a)).map _=f r::l.map f;rw [Be f l]
def kT (j:Nat):Option (Nat×Nat×Nat×Yd×Yd×Yd)→Nat
 | none=>0
 | some (a,b,c,_,_,_)=>aB [a,b,c] j
def kV (j:Nat):Option (Nat×Nat×Nat×Yd×Yd×Yd)→Yd
 | none=>.none
 | some (_,_,_,a,b,c)=>match j with | 0=>a | 1=>b | _=>c
def ti (p:af) (k:Option (Nat×Nat×Nat×Yd×Yd×Yd)):List (Str×Nat×Yd):=[("script",p 8 2,.ref (p 8 3)),("rows",p 8 4,.ref (p 6 0)),("written",p 8 6,.ref (p 7 0)),("row",kT 0 k,kV 0 k),("parts",kT 1 k,kV 1 k),("path",kT 2 k,kV 2 k)]
theorem J2 (p:af) {k:Option (Nat×Nat×Nat×Yd×Yd×Yd)} (h:k.isSome=true):kz p k=ti p k:=by
 cases k with
 | none=>cases h
 | some x=>rfl
def gN (d:i3) (s:gL) (a:Ye):gL:=nr d s (nt s.k a)
theorem Bf:∀(b:List i3) (s:gL) (a:Ye),s.k.isSome=true→(b5 gN b s a).k.isSome=true
 | [],_,_,h=>h
 | d::r,s,a,h=>Bf r _ _ (by
  show (nr d s (nt s.k (ev a))).k.isSome=true
  obtain ⟨u,v,c,e,k,n⟩:=s
  cases k <;> rfl)
theorem J3 (a:List i3) (s:gL) (b:Ye) (c:0<a.length):(b5 gN a s b).k.isSome=true:=by
 cases a with
 | nil=>exact absurd c (Nat.lt_irrefl _)
 | cons d r=>exact Bf r _ _ (by
   show (nr d s (nt s.k (ev b))).k.isSome=true
   obtain ⟨u,v,e,f,k,n⟩:=s
   cases k <;> rfl)
theorem Bg {a:Yb} (h:Hp a) (d:bk a) (e:a.length≤90) (x:Str) (t:Nat):Hp (i0 a x t)∧bk (i0 a x t)∧(i0 a x t).length=a.length+1∧((i0 a x t).map sv).Perm (a.map sv++[x]):=by
 obtain ⟨q1,q2⟩:=Hx h d e x t
 refine ⟨q1,fun v b => ?_,?_,?_⟩
 ·rcases List.mem_append.mp (q2.mem_iff.mp b) with c | c
  ·exact d v c
  ·exact ⟨x,t,by simpa using c⟩
 ·have:=q2.length_eq
  rw [List.length_append] at this
  exact this
 ·have:=q2.map sv
  rw [List.map_append] at this
  exact this
theorem Bh:∀(b:List i3) (s:gL) (a:Ye),Hp s.hv→bk s.hv→s.hv.length+b.length≤90→
  Hp (b5 gN b s a).hv∧bk (b5 gN b s a).hv∧(b5 gN b s a).hv.length=s.hv.length+b.length∧((b5 gN b s a).hv.map sv).Perm (s.hv.map sv++b.map fun d=>aU (d.1.map ao))
 | [],s,a,h,c,_=>⟨h,c,rfl,by rw [List.map_nil,List.append_nil];exact List.Perm.refl _⟩
 | d::r,s,a,h,c,hb=>by
  rw [List.length_cons] at hb
  obtain ⟨i,m,e,f⟩:=Bg h c (by lia) (aU (d.1.map ao)) (nt s.k (ev a) 3)
  obtain ⟨g,k,j,n⟩:=Bh r (gN d s (ev a)) (od a) i m (by
   show (i0 s.hv _ _).length+_≤90
   rw [e];lia)
  refine ⟨g,k,?_,?_⟩
  ·show (b5 gN r (gN d s (ev a)) (od a)).hv.length=_
   rw [j]
   show (i0 s.hv _ _).length+_=_
   rw [e,List.length_cons];lia
  ·show ((b5 gN r (gN d s (ev a)) (od a)).hv.map sv).Perm _
   refine n.trans ?_
   rw [List.map_cons]
   have:=f.append_right (r.map fun d=>aU (d.1.map ao))
   rw [List.append_assoc] at this
   exact this
section
def qD (p:af):af:=fun j i=>match j,i with | 13,_=>p 0 4 | j,i=>p j i
def tj (p:af):gL:=⟨.none,.none,[],p 10 1,none,p 8 1⟩
def fD (R:Yi) (g b:Ye) (p:af) (a:Ye):gL:=b5 gN (gc R g b) (tj p) a
def J4 (c:af→Code) (w:Yc) (d:Yh) (R:Yi) (g a:Ye):aH:=bA c d
 (fun p=>ir w (qD p) (aT R g) (aT (R.map (·.map ao)) a) 0 (tj p))
 (fun p b=>(.next,[ba (p 2 0) (p 3 0),az [.ref (p 4 0),.ref (p 5 0)] 0,az [(fD R g a p b).u,(fD R g a p b).v] 0,am .none R.length,am (.ref (p 7 0)) R.length,ab (aT R g) (p 6 1),ab (aT (R.map (·.map ao)) a) (p 7 1),aG w (ti p (fD R g a p b).k) (fD R g a p b).n,aJ (.ref (p 10 0)),ab (fD R g a p b).hv (fD R g a p b).hn],[]))
def Bi (w:Yc) (a:Yh) (R:Yi) (g b:Ye):aH:=J4 (fun p=>it w (qD p)) w a R g b
theorem J5 {b c:Bool} {w:Yc} {m:Nat} {A:Yh} {R:Yi} {g a:Nat→Nat} (E:A.Nodup) (B:∀r∈R,b7 r) (F:0<R.length) (O:R.length≤90) (N:5≤m):(Bi w A R g a).SureF (B0 (W b c w)) m (be R g++be (R.map (·.map ao)) a):=by
 refine (pe E (fun _ _=>rfl) fun p=>aL.nd fun nd => ?_:aH.SureF (B0 (W b c w)) 5 _ _).le N
 have ndS:((be R g++be (R.map (·.map ao)) a).map (·.1)).Nodup:=List.Sublist.nodup (List.Sublist.map _ (List.sublist_append_right _ _)) nd
 have x:(aT R g).length=R.length:=by rw [←wd R g a,List.length_map,nz]
 have L:=sH (bG (W b c w)) (m:=5) (code:=it w (qD p)) (be R g++be (R.map (·.map ao)) a) (fun i s=>ir w (qD p) (aT R g) (aT (R.map (·.map ao)) a) i s) (fun s=>AU w (qD p) (aT R g) (aT (R.map (·.map ao)) a) s) gN jH nu
  (fun i d _=>d∈gc R g a∧(aT R g)[i]? = some (.ref (d.2.1 0))∧(aT (R.map (·.map ao)) a)[i]? = some (.ref (d.2.2 0))) (fun i s=>s.hv.length=i∧Hp s.hv∧bk s.hv) R.length (fun _ _ _ _=>rfl)
  (fun i d s P o u=>by
   obtain ⟨z,y,K⟩:=Bd R g a d u.1
   refine ⟨fun q t => ?_,?_,fun n => ?_,IS b c w (qD p) (B _ K) (by have:=o.1;lia) o.2.2 u.2.1 u.2.2⟩
   ·rcases List.mem_cons.mp t with rfl | t
    ·exact List.mem_append_left _ z
    ·have:q=aE (d.1.map ao) d.2.2:=by simpa using t
     rw [this];exact List.mem_append_right _ y
   ·rw [List.map_append,List.nodup_append] at ndS
    have D:=ndS.2.2 _ (List.mem_map_of_mem (f:=(·.1)) z) _ (List.mem_map_of_mem (f:=(·.1)) y)
    show [(aE d.1 d.2.1).1,(aE (d.1.map ao) d.2.2).1].Nodup
    rw [List.nodup_cons]
    exact ⟨fun h=>D (by simpa using h),by simp⟩
   ·obtain ⟨C,I,J,_⟩:=Bg o.2.1 o.2.2 (by have:=o.1;lia) (aU (d.1.map ao)) (nt s.k n 3)
    exact ⟨by show (i0 s.hv _ _).length=i+1;rw [J,o.1],C,I⟩)
  (fun s o=>by
   have:=IT b c w (qD p) s (aT R g) (aT (R.map (·.map ao)) a)
   rw [x] at this
   exact this)
  (fun _ _=>rfl) (gc R g a) 0 (tj p) (by rw [nz];lia) ⟨rfl,(fun j _ H=>absurd H (Nat.not_lt_zero j)),fun _ h=>nomatch h⟩
  (fun k d e _=>⟨List.mem_of_getElem? e,by rw [←wd R g a,Nat.zero_add,List.getElem?_map,e];rfl,by rw [←Bc R g a,Nat.zero_add,List.getElem?_map,e];rfl⟩)
 refine aL.re (out:=_) L fun n=>⟨n,?_⟩
 rw [pL]
 have G:kz (qD p) (fD R g a p n).k=ti p (fD R g a p n).k:=J2 (qD p) (J3 _ _ n (by rw [nz];exact F))
 show (_,[_,_,_,am .none R.length,am _ R.length,_,_,aG w (ti p (fD R g a p n).k) _,_,_]++_,_)=(_,[_,_,_,am .none (aT R g).length,am _ (aT R g).length,_,_,aG w (kz (qD p) (fD R g a p n).k) _,_,_]++_,_)
 rw [x,G]
 rfl
end
section
open PySem PySem.W PySem.W.X PyProof.Rows Srt
section
def lC (b:Yh) (R:Yi) (g:Ye):aH:=bA (fun p=>.call (.builtin "sorted") ⟨[.ref (p 1 0)],[]⟩) b (fun p=>[(p 1 0,ab (aT R g) (p 1 1))])
 (fun p a=>(.ret (.ref (a 0)),[ab (aT R g) (p 1 1)],[(a 0,ab (f8 (aT R g) (perm R)) (a 1))]))
theorem we {B:bf} {m:Nat} {J:Yh} {R:Yi} {g:Nat→Nat} (U:J.Nodup) (h2:2≤R.length) (h64:R.length<64) (hm:1≤m):(lC J R g).SureF B m (be R g):=by
 refine ⟨U,fun p A V h t I d F g' l k Q E nd Z hB hS _ _ hR=>d8 ?_⟩
 have D:h.get? (p 1 0)=some (ab (aT R g) (p 1 1)):=(Z _ (.head _)).1
 have Y:=ly R g
 have c:∀i,i<R.length→∃a y,(aT R g).getD i .none = .ref a∧h.get? a=some (ab (cR (R.getD i []) y 0) (R.getD i []).length):=fun i f=>by
  obtain ⟨G,e1,L,e3,_⟩:=vI R g i R[i] (List.getElem?_eq_getElem f)
  have q:=(hS _ e3).1
  refine ⟨G.2 0,fun j=>G.2 (j+1),?_,?_⟩
  ·simp [List.getD,L]
  ·have:R.getD i []=R[i]:=by simp [List.getD,f]
   rw [this];exact q
 have hu:A.units<9100:=by have:=V.2.2;lia
 refine Hu (s:=⟨h,I,d,t,F⟩) (vs:=aT R g) (n:=p 1 1) (lt:=fun i j=>aP (R.getD i []) (R.getD j [])) D (by lia) (by lia) (vD fun i=>R.getD i []) (fun H hH i j f hj C hC => ?_) (fun v T => ?_) (fun N e K sz o => ?_)
 ·obtain ⟨a,y,z,w⟩:=c i (by lia)
  obtain ⟨b,gj,P,O⟩:=c j (by lia)
  unfold kas_ask
  rw [z,P]
  refine HX (s:=⟨H,I,d,t,F⟩) ?_ (hH _ _ w) (hH _ _ O) hC
  show A.units+1+1<cLine
  have:cLine=9900:=rfl
  lia
 ·obtain ⟨i,f,e⟩:=List.getElem_of_mem T
  obtain ⟨a,y,z,w⟩:=c i (by lia)
  refine ⟨a,_,?_,w,rfl⟩
  rw [←e,←z]
  simp [List.getD,f]
 ·have X:fg (fun i j=>aP (R.getD i []) (R.getD j [])) (kas_sort (aT R g).length)=fg (fun i j=>aP (R.getD i []) (R.getD j [])) (kas_sort R.length):=by rw [Y]
  rw [X] at o
  refine hR N t (fun i=>match i with | 0=>h.objs.size+1 | _=>e) (fun e=>by cases e) sz (fun b S q _=>K b S q) (fun x hx => ?_) (fun x hx => ?_) (by simp [lC,bA])
  ·have u:x=(p 1 0,ab (aT R g) (p 1 1)):=by simpa [lC,bA] using hx
   rw [u]
   exact K _ _ D
  ·have:x=(h.objs.size+1,ab (f8 (aT R g) (perm R)) e):=by simpa [lC,bA] using hx
   subst this
   exact ⟨o,Nat.le_succ _⟩
def cC (R:Yi) (g:Ye):List RD:=(perm R).map fun i=>(b9 R g).getD i ([],id)
theorem wf {R:Yi} (h:0<R.length) {i:Nat} (a:i∈perm R):i<R.length:=List.mem_range.mp ((nj R h).mem_iff.mp a)
theorem Bj {R:Yi} (h:0<R.length):(perm R).length=R.length:=by rw [(nj R h).length_eq,List.length_range]
theorem wg {R:Yi} (g:Ye) (h:0<R.length):(cC R g).map f4=f8 (aT R g) (perm R):=by
 unfold cC f8
 rw [List.map_map]
 refine List.map_congr_left fun i c => ?_
 have b:=wf h c
 show f4 ((b9 R g).getD i ([],id))=(aT R g).getD i .none
 rw [←sJ]
 have a:i<(b9 R g).length:=by rw [f5];exact b
 simp [List.getD,a]
theorem pO {R:Yi} {g:Nat→Nat} (h:0<R.length) {d:RD} (c:d∈cC R g):aE d.1 d.2∈be R g∧d.1∈R:=by
 obtain ⟨i,b,rfl⟩:=List.mem_map.mp c
 have a:i<(b9 R g).length:=by rw [f5];exact wf h b
 have:(b9 R g).getD i ([],id)=(b9 R g)[i]:=by simp [List.getD,a]
 rw [this]
 exact iV R g _ (List.getElem_mem a)
theorem wh:∀(R:Yi) (g:Ye) (i:Nat),((b9 R g)[i]?).map (·.1)=R[i]?
 | [],_,_=>rfl
 | r::l,g,0=>rfl
 | r::l,g,i+1=>wh l (od g) i
theorem Bk {R:Yi} (g:Ye) (h:0<R.length):(cC R g).map (·.1)=io R:=by
 unfold cC io
 rw [List.map_map]
 refine List.map_congr_left fun i c => ?_
 show ((b9 R g).getD i ([],id)).1=R.getD i []
 have:=wh R g i
 have b:=wf h c
 have a:i<(b9 R g).length:=by rw [f5];exact b
 rw [List.getElem?_eq_getElem a,List.getElem?_eq_getElem b] at this
 have e:((b9 R g)[i]).1=R[i]:=Option.some.inj this
 simp only [List.getD,List.getElem?_eq_getElem a,List.getElem?_eq_getElem b,Option.getD_some]
 exact e
theorem jK {R:Yi} (g:Ye) (h:0<R.length):(cC R g).length=R.length:=by unfold cC;rw [List.length_map,Bj h]
def gd (d:RD) (ax:Ye):Yd:=.str (aU d.1) (ax 2)
theorem Bl:∀(b:List RD) (a:Ye),StrsAre (c2 gd b a) (b.map fun d=>aU d.1)
 | [],_=>.nil
 | d::r,a=>.cons _ _ (Bl r (od a))
def eT (R:Yi) (g:Ye) (b:Nat) (a:Ye):ij:=b5 (d1 f4 gd) (cC R g) ⟨[],b,none⟩ a
def J6 (b:af→Code) (w:Yc) (c:Yh) (R:Yi) (g:Ye):aH:=bA b c
 (fun p=>[(p 1 0,am (.ref (p 2 0)) 0),(p 2 0,ab (f8 (aT R g) (perm R)) (p 2 1)),(p 3 0,ab [] (p 3 1)),(p 4 0,aw w [] 0)])
 (fun p a=>(.next,[am .none R.length,ab (f8 (aT R g) (perm R)) (p 2 1),ab (c2 gd (cC R g) a) (eT R g (p 3 1) a).t,ee w "parts" (eT R g (p 3 1) a).v],[]))
def Bm (w:Yc) (a:Yh) (R:Yi) (g:Ye):aH:=J6 (fun p=>bj (g8 w) (p 1 0) (p 3 0) (p 4 0) (p 0 3) []) w a R g
def qE (p:af) (d:Ye) (t n k:Nat):af:=fun j i=>match j,i with | 3,1=>t | 4,1=>n | 4,2=>k | 5,i=>d i | 6,_=>p 0 3 | j,i=>p j i
theorem J7 {b c:Bool} {w:Yc} {m:Nat} {u:Yh} {R:Yi} {g:Nat→Nat} (x:u.Nodup) (s:∀r∈R,cE r) (a:0<R.length) (y:R.length≤500) (B:4≤m):(Bm w u R g).SureF (B0 (W b c w)) m (be R g):=by
 refine (pe x (fun _ _=>rfl) fun p => ?_:aH.SureF (B0 (W b c w)) 4 _ _).le B
 have o:=pk (bG (W b c w)) (m:=4) (st:=bj (g8 w) (p 1 0) (p 3 0) (p 4 0) (p 0 3) []) (lp:=bI (g8 w) (p 1 0) (p 3 0) (p 4 0) (p 0 3) []) w "parts" (p 1 0) (p 2 0) (p 3 0) (p 4 0) (p 2 1) (p 3 1) (f8 (aT R g) (perm R)) (be R g) f4 m2 gd nu (cC R g) (wg g a).symm (by rw [jK g a];exact a) (by rw [jK g a];exact y)
  (by
   cases c
   ·exact IY b w _ [] (qE p id (p 3 1) 0 0)
   ·exact IZ b w _ [] (qE p id (p 3 1) 0 0))
  (fun i d f t h hx j=>IV b c w d.1 i _ f (qE p d.2 t 0 0) hx j (s _ (pO a h).2))
  (fun i d f t k n v h hx j=>IW b c w v d.1 i _ f (qE p d.2 t n k) hx j (s _ (pO a h).2))
  (fun i f t k n v z=>IX b c w v i _ f z (qE p id t n k))
  (fun d h=>⟨fun q C=>by
   have:q=aE d.1 d.2:=by simpa [m2] using C
   rw [this]
   exact (pO a h).1,by simp [m2]⟩)
 refine aL.re (out:=_) o fun e=>⟨e,?_⟩
 have A:eP w "parts" (eT R g (p 3 1) e).v=ee w "parts" (eT R g (p 3 1) e).v:=pM w "parts" f4 gd _ _ e (by rw [jK g a];exact a)
 rw [jK g a,pL]
 show (_,[_,_,_,ee w "parts" (eT R g (p 3 1) e).v]++_,_)=_
 rw [←A]
 rfl
end
end
section
open PySem PySem.W PySem.W.X PyProof.Rows Srt
structure nA where
 c:ij
 L:Yb
 hn:Nat
def he (d:Yd) (s:nA) (a:Ye):nA:=⟨⟨s.c.as++[dP s.L],a 0,lr s.c.v d (a 1)⟩,dC s.L,a 2⟩
theorem Bn:∀(b:Yb) (s:nA) (a:Ye),(b5 he b s a).L=fU b.length s.L∧(b5 he b s a).c.as=s.c.as++fS b.length s.L
 | [],s,_=>⟨rfl,(List.append_nil _).symm⟩
 | d::r,s,a=>by
  obtain ⟨f,e⟩:=Bn r (he d s (ev a)) (od a)
  refine ⟨f,?_⟩
  show (b5 he r (he d s (ev a)) (od a)).c.as=s.c.as++(dP s.L::fS r.length (dC s.L))
  rw [e]
  show s.c.as++[dP s.L]++_=_
  rw [←List.append_cons]
  rfl
theorem Bp:∀(b:Yb) (s:nA) (a:Ye),s.c.v.isSome=true→(b5 he b s a).c.v.isSome=true
 | [],_,_,h=>h
 | d::r,s,a,h=>Bp r _ _ (by
  show (lr s.c.v d (ev a 1)).isSome=true
  cases s.c.v <;> rfl)
theorem J8 (w:Yc) (e:Str) (a:Yb) (s:nA) (b:Ye) (f:0<a.length):eP w e (b5 he a s b).c.v=ee w e (b5 he a s b).c.v:=by
 have h:(b5 he a s b).c.v.isSome=true:=by
  cases a with
  | nil=>exact absurd f (Nat.lt_irrefl _)
  | cons d r=>exact Bp r _ _ (by
   show (lr s.c.v d (ev b 1)).isSome=true
   cases s.c.v <;> rfl)
 revert h
 cases (b5 he a s b).c.v with
 | none=>intro h;cases h
 | some x=>intro _;rfl
section
def eR (p:af) (b L:Yb) (a:Ye):nA:=b5 he b ⟨⟨[],p 3 1,none⟩,L,p 6 1⟩ a
def J9 (d:af→Code) (w:Yc) (e:Yh) (a L:Yb):aH:=bA d e
 (fun p=>[(p 1 0,am (.ref (p 2 0)) 0),(p 2 0,ab a (p 2 1)),(p 3 0,ab [] (p 3 1)),(p 4 0,aw w [] 0),(p 5 0,aJ (.ref (p 6 0))),(p 6 0,ab L (p 6 1))])
 (fun p b=>(.next,[am .none a.length,ab a (p 2 1),ab (fS a.length L) (eR p a L b).c.t,ee w "row" (eR p a L b).c.v,aJ (.ref (p 6 0)),ab (fU a.length L) (eR p a L b).hn],[]))
def Bq (w:Yc) (b:Yh) (a L:Yb):aH:=J9 (fun p=>bj (gK w) (p 1 0) (p 3 0) (p 4 0) (p 0 3) [p 5 0]) w b a L
def qF (p:af) (a t n k b:Nat):af:=fun j i=>match j,i with | 3,1=>t | 4,1=>n | 4,2=>k | 5,_=>a | 6,_=>p 0 3 | 7,_=>p 5 0 | 8,0=>p 6 0 | 8,1=>b | j,i=>p j i
theorem Ka {b c:Bool} {w:Yc} {m:Nat} {N:Yh} {f L:Yb} (S:N.Nodup) (R:∀v∈f,∃a,v = .ref a) (J:0<f.length) (hl:L.length=f.length) (hb:L.length≤90) (Q:Hp L) (V:bk L) (Z:5≤m):(Bq w N f L).Sure (B0 (W b c w)) m:=by
 refine (bS S fun p => ?_:aH.Sure (B0 (W b c w)) 5 _).le Z
 have O:=bG (W b c w)
 have T:=sH O (m:=5) (code:=bI (gK w) (p 1 0) (p 3 0) (p 4 0) (p 0 3) [p 5 0]) [] (fun i s=>[(p 1 0,am (.ref (p 2 0)) i),(p 2 0,ab f (p 2 1)),(p 3 0,ab s.c.as s.c.t),(p 4 0,eP w "row" s.c.v),(p 5 0,aJ (.ref (p 6 0))),(p 6 0,ab s.L s.hn)])
  (fun s=>[am .none f.length,ab f (p 2 1),ab s.c.as s.c.t,eP w "row" s.c.v,aJ (.ref (p 6 0)),ab s.L s.hn]) he (fun _=>[]) nu (fun i d _=>d∈f∧f[i]? = some d) (fun i s=>s.c.as.length=i∧(0<i→s.c.v.isSome=true)∧s.L.length+i=f.length∧Hp s.L∧bk s.L) f.length (fun _ _ _ _=>rfl)
  (fun i d s hi C I=>by
   obtain ⟨⟨y,t,v⟩,j,E⟩:=s
   obtain ⟨H,i2,G,Y,D⟩:=C
   have A:0<j.length:=by simp only at G;lia
   have B:j.length≤90:=by simp only at G;lia
   obtain ⟨q1,q2⟩:=vF Y D A B
   have ql:(dC j).length+1=j.length:=by have:=q2.length_eq;rw [List.length_cons] at this;exact this
   obtain ⟨x,K,hx⟩:=IU A D
   obtain ⟨a,ha⟩:=R d I.1
   refine ⟨(fun _ h=>nomatch h),List.nodup_nil,fun q=>⟨?_,fun _ => ?_,?_,q1,fun u hu=>D u (q2.mem_iff.mp (.tail _ hu))⟩,?_⟩
   ·show (y++[dP j]).length=i+1
    rw [List.length_append];simp only at H;rw [H];rfl
   ·show (lr v d (q 1)).isSome=true
    cases v <;> rfl
   ·show (dC j).length+(i+1)=f.length
    simp only at G;lia
   ·subst ha
    have F:y.length≤1000:=by simp only at H;lia
    cases v with
    | none=>
     have:=I0 b c w x K j i f y (qF p a t 0 0 E) I.2 F A B D hx
     show aL _ _ _ _ fun q=>(_,[_,_,ab (y++[dP j]) _,_,_,_]++[],[])
     rw [hx]
     exact this
    | some z=>
     obtain ⟨k,n,v⟩:=z
     have:=I1 b c w v x K j i f y (qF p a t n k E) I.2 F A B D hx
     show aL _ _ _ _ fun q=>(_,[_,_,ab (y++[dP j]) _,_,_,_]++[],[])
     rw [hx]
     exact this)
  (fun s C=>by
   obtain ⟨⟨y,t,v⟩,j,E⟩:=s
   cases v with
   | none=>have:=C.2.1 J;cases this
   | some z=>
    obtain ⟨k,n,v⟩:=z
    exact aL.lift (need:=[(p 1 0,am (.ref (p 2 0)) f.length),(p 2 0,ab f (p 2 1)),(p 3 0,ab y t),(p 4 0,aw w [("row",k,v)] n)]) (src:=[]) [(p 5 0,aJ (.ref (p 6 0))),(p 6 0,ab j E)] (k:=fun _=>.ok .next) (o:=fun _=>[am .none f.length,ab f (p 2 1),ab y t,aw w [("row",k,v)] n]) (ads:=fun _=>[]) (I2 b c w v f.length f y (Nat.le_refl _) (qF p 0 t n k E)) (fun _=>rfl) (fun _ h=>nomatch h) List.nodup_nil)
  (fun _ _=>rfl) f 0 ⟨⟨[],p 3 1,none⟩,L,p 6 1⟩ (by lia) ⟨rfl,fun h=>absurd h (Nat.lt_irrefl _),by lia,Q,V⟩ (fun k d e _=>⟨List.mem_of_getElem? e,by rw [Nat.zero_add];exact e⟩)
 have SS:aL (B0 (W b c w)) 5 (bj (gK w) (p 1 0) (p 3 0) (p 4 0) (p 0 3) [p 5 0]) ([(p 1 0,am (.ref (p 2 0)) 0),(p 2 0,ab f (p 2 1)),(p 3 0,ab [] (p 3 1)),(p 4 0,aw w [] 0)]++[(p 5 0,aJ (.ref (p 6 0))),(p 6 0,ab L (p 6 1))]) fun _=>(.error (bI (gK w) (p 1 0) (p 3 0) (p 4 0) (p 0 3) [p 5 0]),[am (.ref (p 2 0)) 0,ab f (p 2 1),ab [] (p 3 1),aw w [] 0]++[aJ (.ref (p 6 0)),ab L (p 6 1)],[]):=
  aL.lift [(p 5 0,aJ (.ref (p 6 0))),(p 6 0,ab L (p 6 1))] (src:=[]) (k:=fun _=>.error _) (o:=fun _=>[am (.ref (p 2 0)) 0,ab f (p 2 1),ab [] (p 3 1),aw w [] 0]) (ads:=fun _=>[]) (by
   cases c
   ·exact I3 b w f [] (qF p 0 (p 3 1) 0 0 (p 6 1))
   ·exact I4 b w f [] (qF p 0 (p 3 1) 0 0 (p 6 1))) (fun _=>rfl) (fun _ h=>nomatch h) List.nodup_nil
 refine aL.andThen O SS (fun _=>rfl) (fun _=>rfl) (out2:=fun _ q=>(.ok .next,[am .none f.length,ab f (p 2 1),ab (eR p f L q).c.as (eR p f L q).c.t,eP w "row" (eR p f L q).c.v,aJ (.ref (p 6 0)),ab (eR p f L q).L (eR p f L q).hn],[])) (fun _ => ?_) (fun _ g=>⟨g,?_⟩)
 ·exact aL.re T fun q=>⟨q,by rw [pL];rfl⟩
 ·obtain ⟨U,P⟩:=Bn f ⟨⟨[],p 3 1,none⟩,L,p 6 1⟩ g
  have X:=J8 w "row" f ⟨⟨[],p 3 1,none⟩,L,p 6 1⟩ g J
  show (_,[_,_,ab (fS f.length L) _,ee w "row" (eR p f L g).c.v,_,ab (fU f.length L) _],_)=(_,[_,_,ab (eR p f L g).c.as _,eP w "row" (eR p f L g).c.v,_,ab (eR p f L g).L _],_)
  rw [show (eR p f L g).c.as=fS f.length L from P,show (eR p f L g).L=fU f.length L from U,show eP w "row" (eR p f L g).c.v=_ from X]
  rfl
end
end
section
open SeqAt MeetsSeq3
abbrev da:=Int×Nat
abbrev bu:=Yi
section
variable {B:bf} {m:Nat}
def lD (e d:Nat) (a b:af→Yb):aH:=
 {code:=fun p=>.call (.builtin "list.__add__") ⟨[.ref (p 1 0),.ref (p 2 0)],[]⟩,pl:=[e,d],objs:=fun p=>[(p 1 0,ab (a p) (p 1 1)),(p 2 0,ab (b p) (p 2 1))],strm:=true,
  out:=fun p c=>(.ret (.ref (c 0)),[ab (a p) (p 1 1),ab (b p) (p 2 1)],[(c 0,ab (a p++b p) 0)])}
theorem Br {n w:Nat} {c a:af→Yb} (x:n≠w) (z:∀p,(c p).length+(a p).length≤1000):(lD n w c a).Sure B m:=by
 refine ⟨by simp [lD,x],fun p A G h f s d o g H k Q E nd u _ C=>d8 ?_⟩
 have i:h.get? (p 1 0)=some (ab (c p) (p 1 1)):=(u _ (.head _)).1
 have t:h.get? (p 2 0)=some (ab (a p) (p 2 1)):=(u _ (.tail _ (.head _))).1
 refine call_meets F.slot_list_add (show Shared.TypeIs ⟨h,s,d,f,o⟩ (.ref (p 1 0)) "list" from ⟨_,i,rfl⟩) F.entry_list_add (F.args_list_add_2 _ _) (AutoSeq1.list___add___list_list_0 (p 1 0) (c p).toArray (p 1 1) (p 2 0) (a p).toArray (p 2 1) (by rw [List.size_toArray,List.size_toArray];exact Nat.le_trans (z p) (by decide))) ⟨i,t,?_⟩
 have e:({cls:=.type "list",data:=.seq ((c p).toArray++(a p).toArray)}:Obj)=ab (c p++a p) 0:=by unfold ab;simp
 show wpAny B.M A (k (.ok (.ret (.ref h.objs.size)))) Q E ⟨h.push {cls:=.type "list",data:=.seq ((c p).toArray++(a p).toArray)},s,d,f,o⟩
 rw [e]
 refine C _ f (fun _=>h.objs.size) (fun e=>by cases e) (by rw [Heap.size_push];exact Nat.le_succ _) (fun b D q _=>Heap.get?_push_of_some _ q) (fun y j => ?_) (fun y j => ?_) (by simp [lD])
 ·have:y=(p 1 0,ab (c p) (p 1 1))∨y=(p 2 0,ab (a p) (p 2 1)):=by simpa [lD] using j
  rcases this with rfl | rfl
  ·exact Heap.get?_push_of_some _ i
  ·exact Heap.get?_push_of_some _ t
 ·have:y=(h.objs.size,ab (c p++a p) 0):=by simpa [lD] using j
  subst this
  exact ⟨Heap.get?_push_size _ rfl,Nat.le_refl _⟩
end
def Kb:List Int:=[131,6,14,8,37,75]
def jL (f:Ye):List da:=[(131,f 2),(6,f 3),(14,f 4),(8,f 5),(37,f 6),(75,f 7)]
def kJ (f:Ye):Yb:=[.int 131 (f 2),.int 6 (f 3),.int 14 (f 4),.int 8 (f 5),.int 37 (f 6),.int 75 (f 7)]
theorem Kc (f:Ye):(jL f).map cA=kJ f:=rfl
def eU (a:List da):Yi:=((a.take 6).map (·.1)++Kb).map fL
def nB (l:List da) (a:List da) (c:Nat) (b:Ye):ij:=b5 (d1 cA eQ) (a.take 6++l) ⟨[],c,none⟩ b
def Kd (c:af→Code) (w:Yc) (d:Yh) (a:List da):aH:=bA c d
 (fun p=>[(p 1 0,am (.ref (p 2 0)) 0),(p 2 0,ab ((a.take 6).map cA++kJ (p 5)) (p 2 1)),(p 3 0,ab [] (p 3 1)),(p 4 0,aw w [] 0),(p 5 0,ab (kJ (p 5)) (p 5 1))])
 (fun p b=>(.next,[am .none (eU a).length,ab ((a.take 6).map cA++kJ (p 5)) (p 2 1),ab (aT (eU a) b) (nB (jL (p 5)) a (p 3 1) b).t,ee w "x" (nB (jL (p 5)) a (p 3 1) b).v,ab (kJ (p 5)) (p 5 1)],be (eU a) b))
theorem Bs (f:Ye) (a:List da):(a.take 6++jL f).map (fun d=>fL d.1)=eU a:=by
 unfold eU
 rw [List.map_append,List.map_append,List.map_map]
 rfl
theorem pS (f:Ye) (a:List da):(a.take 6++jL f).length=(eU a).length:=by rw [←Bs f a,List.length_map]
theorem wi (a:List da):6≤(eU a).length∧(eU a).length≤12:=by
 rw [←pS id a,List.length_append,List.length_take]
 show 6≤min 6 a.length+6∧min 6 a.length+6≤12
 lia
theorem Ke (a:List da):slicePick (a.map cA).toArray none (some 6) none=((a.take 6).map cA).toArray:=by
 have:=slicePick_upto' (a.map cA).toArray 6
 rw [List.map_take]
 exact this
theorem wj {R:Yi} (a:∀r∈R,b7 r):∀r∈R.map (·.map ao),cE r:=fun r h=>by
 obtain ⟨q,b,rfl⟩:=List.mem_map.mp h
 exact gG (a q b)
theorem Bt (D:Yb):slicePick D.toArray (some 1) none none=(D.drop 1).toArray:=slicePick_from' D.toArray 1
theorem Bu:∀(R:Yi) (g:Ye),∀v∈aT R g,∃a,v = .ref a
 | [],_,_,h=>by cases h
 | _::l,g,v,h=>by
  rcases List.mem_cons.mp h with rfl | h
  ·exact ⟨_,rfl⟩
  ·exact Bu l (od g) v h
def Bv (L:Yb) (y x:Str) (b j:Nat):aH:=bA (fun p=>.call (.ref 121) ⟨[.ref (p 1 0),.str y (p 0 1)],[]⟩) [j] (fun p=>[(p 1 0,ab L (p 1 1))]) (fun p a=>(.ret (.str x b),[ab (cL L y (p 0 1)) (a 0)],[]))
theorem Kf {b c:Bool} {w:Yc} {m:Nat} {L:Yb} {y x:Str} {a j:Nat} (g:0<L.length) (d:L.length≤90) (f:bk L) (hx:dP L = .str x a) (e:4≤m):(Bv L y x a j).Sure (B0 (W b c w)) m:=by
 have:=HJ (b:=b) (c:=c) (w:=w) (y:=y) (j:=j) g d f e
 unfold Ay at this
 rw [hx] at this
 exact this
section
def Bw (w:Yc) (b:Yh) (a:List da):aH:=Kd (fun p=>ff (fM w) (p 1 0) (p 3 0) (p 4 0) (p 0 3)) w b a
theorem Kg {b c:Bool} {w:Yc} {m:Nat} {s:Yh} {a:List da} (u:s.Nodup) (A:2≤m):(Bw w s a).Sure (B0 (W b c w)) m:=by
 refine (bS u fun p => ?_:aH.Sure (B0 (W b c w)) 2 _).le A
 have y:=wi a
 have q:=pk (bG (W b c w)) (m:=2) (st:=ff (fM w) (p 1 0) (p 3 0) (p 4 0) (p 0 3)) (lp:=d0 (fM w) (p 1 0) (p 3 0) (p 4 0) (p 0 3)) w "x" (p 1 0) (p 2 0) (p 3 0) (p 4 0) (p 2 1) (p 3 1) ((a.take 6).map cA++kJ (p 5)) [(p 5 0,ab (kJ (p 5)) (p 5 1))] cA (fun _=>[]) eQ (sI fun d=>fL d.1) (a.take 6++jL (p 5)) (by rw [List.map_append,Kc]) (by rw [pS];lia) (by rw [pS];lia)
  (by
   cases c
   ·exact FQ b w _ [] (fun j i=>match j,i with | 5,_=>p 0 3 | j,i=>p j i)
   ·exact FR b w _ [] (fun j i=>match j,i with | 5,_=>p 0 3 | j,i=>p j i))
  (fun i d g t C hx o=>FN b c w d.1 d.2 i _ g hx o (fun j k=>match j,k with | 3,1=>t | 5,_=>p 0 3 | j,k=>p j k))
  (fun i d g t k n v C hx o=>FO b c w v d.1 d.2 i _ g hx o (fun j e=>match j,e with | 3,1=>t | 4,1=>n | 4,2=>k | 5,_=>p 0 3 | j,e=>p j e))
  (fun i g t k n v x=>FP b c w v i _ g x (fun j e=>match j,e with | 3,1=>t | 4,1=>n | 4,2=>k | 5,_=>p 0 3 | j,e=>p j e))
  (fun d _=>⟨(fun _ h=>nomatch h),List.nodup_nil⟩)
 refine aL.re (out:=_) q fun f=>⟨f,?_⟩
 have z:eP w "x" (nB (jL (p 5)) a (p 3 1) f).v=ee w "x" (nB (jL (p 5)) a (p 3 1) f).v:=pM w "x" cA eQ _ _ f (by rw [pS];lia)
 rw [vf fun d=>fL d.1,vg,Bs,pS]
 show (_,[_,_,_,ee w "x" (nB (jL (p 5)) a (p 3 1) f).v,_],_)=_
 rw [←z]
 rfl
end
end
section
open SeqAt MeetsSeq3
open AutoSeq1 (wpAny_loadPart')
theorem Kh (a:Yg):aP a []=false:=by cases a <;> rfl
theorem Ki (l b:Addr) (a j:Yb) (m H:Yg) (n n2:Nat) (L:StrsAre a m) (O:StrsAre j H) (k:Nat) :
  ∀i:Nat,i≤m.length→i≤H.length→m.length-i=k→Meets (Builtin.«list.__eq__.loop» ⟨[.ref l,.ref b,rawInt i,rawInt 4],[]⟩)
   (fun A R s=>s.heap.get? l=some (ab a n)∧s.heap.get? b=some (ab j n2)∧R (.ok (.ret (.bool (aP (H.drop i) (m.drop i))))) s):=by
 have lv:=ig L
 have lw:=ig O
 induction k with
 | zero=>
  intro i hx Y Z prog w A R s h
  obtain ⟨S,g,d,P,V⟩:=s;obtain ⟨f,c,h⟩:=h
  unfold ab at f c
  wp_walk using wpAny_loadPart' f,wpAny_loadPart' c
  have K:a[i]? = none:=List.getElem?_eq_none (by omega)
  have C:a.toArray[((i:Nat):Int).toNat]? = none:=by rw [Int.toNat_natCast,List.getElem?_toArray];exact K
  have U:m.drop i=[]:=List.drop_of_length_le (by omega)
  rw [U,Kh] at h
  rw [C]
  wp_walk using wpAny_loadPart' f,wpAny_loadPart' c
  show R (.ok (.ret (.bool (decide (j.toArray.size<a.toArray.size))))) _
  have:decide (j.toArray.size<a.toArray.size)=false:=by
   rw [List.size_toArray,List.size_toArray]
   exact decide_eq_false (by omega)
  rw [this]
  exact h
 | succ k X=>
  intro i hx Y Z prog w A R s h
  obtain ⟨S,g,d,P,V⟩:=s;obtain ⟨f,c,h⟩:=h
  have J:=f
  have D:=c
  unfold ab at f c
  wp_walk using wpAny_loadPart' f,wpAny_loadPart' c
  obtain ⟨x,t,ev,N⟩:∃x t,a[i]? = some (.str x t)∧m[i]? = some x:=by
   rcases mT L i with h | h
   ·have:=List.getElem?_eq_none_iff.mp h.2;omega
   ·exact h
  have C:a.toArray[((i:Nat):Int).toNat]? = some (.str x t):=by rw [Int.toNat_natCast,List.getElem?_toArray];exact ev
  rw [sx N] at h
  rw [C]
  rcases mT O i with ⟨G,p⟩ | ⟨y,u,G,p⟩
  ·have B:j.toArray[((i:Nat):Int).toNat]? = none:=by rw [Int.toNat_natCast,List.getElem?_toArray];exact G
   rw [B]
   rw [zb p,mU] at h
   wp_walk using wpAny_loadPart' f,wpAny_loadPart' c
   show R (.ok (.ret (.bool (decide (j.toArray.size<a.toArray.size))))) _
   have:decide (j.toArray.size<a.toArray.size)=decide (0<(x::m.drop (i+1)).length):=by
    rw [List.size_toArray,List.size_toArray]
    have:=List.getElem?_eq_none_iff.mp p
    have ix:=(List.getElem?_eq_some_iff.mp N).1
    rw [List.length_cons]
    exact decide_eq_decide.mpr (by omega)
   rw [this]
   exact h
  ·have B:j.toArray[((i:Nat):Int).toNat]? = some (.str y u):=by rw [Int.toNat_natCast,List.getElem?_toArray];exact G
   rw [B]
   rw [sx p] at h
   have T:((i:Int)+1)=((i+1:Nat):Int):=by push_cast;rfl
   refine wpAny_bind (eqBool_str ?_)
   have I:(y==x)=(x==y):=by
    by_cases e:x=y
    ·subst e;rfl
    ·rw [beq_eq_false_iff_ne.mpr e,beq_eq_false_iff_ne.mpr fun q=>e q.symm]
   unfold aP at h
   rw [I] at h
   cases o:x==y with
   | true=>
    rw [o,if_pos rfl] at h
    wp_walk
    rw [T]
    exact ⟨plainId_quiet plain_eq_loop _,codeAny_builtin entry_eq_loop (by
     rw [Around.under_plainId plain_eq_loop _]
     have iy:=(List.getElem?_eq_some_iff.mp p).1
     exact X (i+1) (by omega) (by omega) (by omega) prog w A R _ ⟨J,D,h⟩)⟩
   | false=>
    rw [o,if_neg (by decide)] at h
    wp_walk using wpAny_loadPart' f,wpAny_loadPart' c
    rw [C,B]
    refine wpAny_bind (richCompare_gives (op:=.Gt) (typeIs_str _ _ _) (typeIs_str _ _ _) F.slot_str_gt F.entry_str_gt (F.args_str_gt_2 _ _) (gives_str_gt _ _ _ _) (fun z=>nomatch z) ?_)
    exact wpAny_pure h
theorem Kj (l b:Addr) (j c:Yb) (e i:Yg) (n n2:Nat) (m:StrsAre j e) (o:StrsAre c i) :
  Meets (Builtin.«list.__gt__» ⟨[.ref l,.ref b],[]⟩)
   (fun A R s=>s.heap.get? l=some (ab j n)∧s.heap.get? b=some (ab c n2)∧R (.ok (.ret (.bool (aP i e)))) s):=by
 intro prog w A R s h
 obtain ⟨q,g,d,p,u⟩:=s;obtain ⟨f,a,h⟩:=h
 have k:=And.intro f a
 unfold ab at f a
 have t:=AutoSeq1.sub_list_list
 wp_walk using wpAny_loadPart' f,wpAny_loadPart' a
 exact ⟨plainId_quiet plain_eq_loop _,codeAny_builtin entry_eq_loop (by
  rw [Around.under_plainId plain_eq_loop _]
  exact Ki l b j c e i n n2 m o _ 0 (Nat.zero_le _) (Nat.zero_le _) rfl prog w A R _ ⟨k.1,k.2,h⟩)⟩
section
variable {prog:Program} {w:Yc} {A:Around} {E:Yd→Shared→Prop} {Q:Yd→Shared→Prop}
theorem Kk {s:Shared} {l a b:Addr} {vs ws:Yb} {xs ys:Yg} {n n2 ln:Nat} (hh:A.handled=none) (hu:A.units+10<cLine) (hl:s.heap.get? l=some (ab [.ref a,.ref b] ln)) (ha:s.heap.get? a=some (ab vs n)) (hb:s.heap.get? b=some (ab ws n2)) (hv:StrsAre vs xs) (hw:StrsAre ws ys)
  (L:∀z,(∀c o,s.heap.get? c=some o→z.get? c=some o)→s.heap.objs.size≤z.objs.size→Q (.ref (match (aP ys xs) with | true=>b | false=>a)) {s with heap:=z}):wpAny (model prog w) A (call (.builtin "min") [.ref l]) Q E s:=by
 have i:(toString "min" ++ toString ".loop" : String)="min.loop" := by decide
 have hL:s.heap.IsList l #[.ref a,.ref b]:=⟨_,hl,rfl,ln,rfl⟩
 have hu1:A.in1.units<cLine:=by
  show A.units+1<cLine
  omega
 refine call_function_tree F.kind_min F.plain_min F.entry_min (F.args_min1 _) ?_
 show wpAny _ A.in1 (Builtin.Builtins.bindParams "min" ["key","default"] 0 ⟨[],[]⟩ >>= _) _ _ s
 refine wpAny_bind (wpAny_of_eq (show Builtin.Builtins.bindParams "min" ["key","default"] 0 ⟨[],[]⟩=pure [none,none] from rfl) ?_)
 refine wpAny_bind (wpAny_pure ?_)
 refine wpAny_bind (wpAny_pyIter_list hL ?_)
 refine wpAny_bind (wpAny_newObj_type ?_)
 rw [i]
 generalize B:(s.heap.push {cls:=.type "list_iterator",data:=.fields #[.ref l,.int 0 0]})=g
 have Y:g.objs.size=s.heap.objs.size+1:=by rw [←B];exact Heap.size_push _ _
 have D:∀c o,s.heap.get? c=some o→g.get? c=some o:=fun c o e=>by rw [←B];exact Heap.get?_push_of_some _ e
 have hI1:g.IsListIter s.heap.objs.size l 0:=by rw [←B];exact ⟨_,Heap.get?_push_size _ rfl,rfl,rfl⟩
 have lt:∀{c o},s.heap.get? c=some o→c<s.heap.objs.size:=fun e=>Heap.lt_size e
 have K:s.heap.objs.size≤g.objs.size:=by rw [Y];exact Nat.le_succ _
 have cS:∀{c o},s.heap.get? c=some o→c≠g.objs.size:=fun e=>Nat.ne_of_lt (Nat.lt_of_lt_of_le (lt e) K)
 have Iz:s.heap.objs.size≠g.objs.size:=by rw [Y];exact Nat.ne_of_lt (Nat.lt_succ_self _)
 have nS:g.objs.size≠s.heap.objs.size:=fun e=>Iz e.symm
 refine wpAny_pure ⟨plainId_quiet F.plain_min_loop _,?_⟩
 have G:(g.push {cls:=.type "list",data:=.seq #[]}).get? g.objs.size=some {cls:=.type "list",data:=.seq #[]}:=Heap.get?_push_size _ rfl
 have P:(g.push {cls:=.type "list",data:=.seq #[]}).IsListIter s.heap.objs.size l 0:=hI1.at fun o e=>Heap.get?_push_of_some _ e
 have m:∀c o,s.heap.get? c=some o→(g.push {cls:=.type "list",data:=.seq #[]}).get? c=some o:=fun c o e=>Heap.get?_push_of_some _ (D c o e)
 generalize (g.push {cls:=.type "list",data:=.seq #[]})=H2 at G P m ⊢
 refine codeAny_builtin F.entry_min_loop ?_
 rw [Around.under_plainId F.plain_min_loop _]
 show wpAny _ A.in1 (seqItems? (.ref g.objs.size) >>= _) _ _ _
 refine wpAny_bind (wpAny_seqItems G rfl ?_)
 show wpAny _ A.in1 (tryCatch (pyNext (.ref s.heap.objs.size)) _ >>= _) _ _ _
 refine wpAny_bind (wpAny_tryCatch (wpAny_pyNext_list_item P (hL.at fun o e=>m _ _ e) (x:=.ref a) rfl fun H hit3 R => ?_))
 have S:=(R.2 _ nS).trans G
 have C:∀c o,s.heap.get? c=some o→H.get? c=some o:=fun c o e=>(R.2 c (Nat.ne_of_lt (lt e))).trans (m c o e)
 show wpAny _ A.in1 (updateSeq g.objs.size (fun _=>#[.ref a,.ref a]) >>= _) _ _ _
 refine wpAny_bind ?_
 refine wpAny_updateSeq S rfl ?_
 rw [i]
 refine wpAny_pure ⟨plainId_quiet F.plain_min_loop _,?_⟩
 have N:=Heap.SameBut.update (h:=H) (a:=g.objs.size) (f:=Obj.mapSeq fun _=>#[.ref a,.ref a])
 have I:(H.update g.objs.size (Obj.mapSeq fun _=>#[.ref a,.ref a])).get? g.objs.size=some {cls:=.type "list",data:=.seq #[.ref a,.ref a] 1}:=Heap.get?_update_self _ S rfl
 have j:∀c o,s.heap.get? c=some o→(H.update g.objs.size (Obj.mapSeq fun _=>#[.ref a,.ref a])).get? c=some o:=fun c o e=>(N.2 c (cS e)).trans (C c o e)
 have y:(H.update g.objs.size (Obj.mapSeq fun _=>#[.ref a,.ref a])).IsListIter s.heap.objs.size l 1:=hit3.at fun o e=>(N.2 _ Iz).trans e
 show codeAny (model prog w) _ _ _ ⟨H.update g.objs.size (Obj.mapSeq fun _=>#[.ref a,.ref a]),_,_,_,_⟩
 generalize (H.update g.objs.size (Obj.mapSeq fun _=>#[.ref a,.ref a]))=H4 at I j y ⊢
 have t:∀(x:Addr) (k:Nat) (V:Heap),V.get? g.objs.size=some {cls:=.type "list",data:=.seq #[.ref x,.ref x] k}→(∀c o,s.heap.get? c=some o→V.get? c=some o)→V.IsListIter s.heap.objs.size l 2→(∀z,(∀c o,s.heap.get? c=some o→z.get? c=some o)→s.heap.objs.size≤z.objs.size→Q (.ref x) {s with heap:=z})→
   codeAny (model prog w) A (.builtin "min.loop" ⟨[.ref s.heap.objs.size,.none,.ref g.objs.size],[]⟩) (wants Q E) {s with heap:=V}:=fun x k V q d p hQ5=>by
  refine codeAny_builtin F.entry_min_loop ?_
  rw [Around.under_plainId F.plain_min_loop _]
  show wpAny _ A.in1 (seqItems? (.ref g.objs.size) >>= _) _ _ _
  refine wpAny_bind (wpAny_seqItems q rfl ?_)
  show wpAny _ A.in1 (tryCatch (pyNext (.ref s.heap.objs.size)) _ >>= _) _ _ _
  refine wpAny_bind (wpAny_tryCatch (wpAny_pyNext_list_end hh p (hL.at fun o e=>d _ _ e) rfl fun h6 T => ?_))
  have O:=T _ _ nS q
  have J:∀c o,s.heap.get? c=some o→h6.get? c=some o:=fun c o e=>T c o (Nat.ne_of_lt (lt e)) (d c o e)
  show wpAny _ A.in1 (updateSeq g.objs.size (fun _=>#[]) >>= _) _ _ _
  refine wpAny_bind ?_
  refine wpAny_updateSeq O rfl (wpAny_bind (PySem.wpAny_letGo (wpAny_pure ?_)))
  have Z:=Heap.SameBut.update (h:=h6) (a:=g.objs.size) (f:=Obj.mapSeq fun _=>#[])
  refine hQ5 _ (fun c o e=>(Z.2 c (cS e)).trans (J c o e)) ?_
  rw [Z.1]
  exact Nat.le_of_lt (Nat.lt_of_le_of_lt K (Heap.lt_size O))
 refine codeAny_builtin F.entry_min_loop ?_
 rw [Around.under_plainId F.plain_min_loop _]
 show wpAny _ A.in1 (seqItems? (.ref g.objs.size) >>= _) _ _ _
 refine wpAny_bind (wpAny_seqItems I rfl ?_)
 show wpAny _ A.in1 (tryCatch (pyNext (.ref s.heap.objs.size)) _ >>= _) _ _ _
 refine wpAny_bind (wpAny_tryCatch (wpAny_pyNext_list_item y (hL.at fun o e=>j _ _ e) (x:=.ref b) rfl fun h5 p U => ?_))
 have q:=(U.2 _ nS).trans I
 have d:∀c o,s.heap.get? c=some o→h5.get? c=some o:=fun c o e=>(U.2 c (Nat.ne_of_lt (lt e))).trans (j c o e)
 show wpAny _ A.in1 (tryCatch (holding [.ref b,.ref b] (richCompare .Lt (.ref b) (.ref a) >>= _)) _ >>= _) _ _ _
 refine wpAny_bind (wpAny_tryCatch (wpAny_holding (wpAny_bind (richCompare_meets_room (op:=.Lt) ⟨_,d _ _ hb,rfl⟩ ⟨_,d _ _ ha,rfl⟩ F.slot_list_lt F.entry_list_lt (F.args_list_lt_2 _ _) (zc b a ws vs ys xs n2 n hw hv) ⟨d _ _ hb,d _ _ ha,(fun x=>nomatch x),?_⟩ hu1))))
 refine wpAny_bind (wpAny_holding (wpAny_truthy_bool ?_))
 refine wpAny_bind (PySem.wpAny_letGo (wpAny_pure ?_))
 revert L
 cases (aP ys xs) with
 | true=>
  intro L
  simp only [if_true]
  refine wpAny_bind ?_
  refine wpAny_updateSeq q rfl (wpAny_bind (PySem.wpAny_letGo ?_))
  rw [i]
  have X:=Heap.SameBut.update (h:=h5) (a:=g.objs.size) (f:=Obj.mapSeq fun _=>#[.ref b,.ref b])
  exact wpAny_pure ⟨plainId_quiet F.plain_min_loop _,t b _ _ (Heap.get?_update_self _ q rfl) (fun c o e=>(X.2 c (cS e)).trans (d c o e)) (p.at fun o e=>(X.2 _ Iz).trans e) L⟩
 | false=>
  intro L
  simp only [Bool.false_eq_true,if_false]
  refine wpAny_bind (PySem.wpAny_letGo ?_)
  rw [i]
  exact wpAny_pure ⟨plainId_quiet F.plain_min_loop _,t a _ _ q d p L⟩
end
section
variable {prog:Program} {w:Yc} {A:Around} {E:Yd→Shared→Prop} {Q:Yd→Shared→Prop}
theorem Kl {s:Shared} {l a b:Addr} {vs ws:Yb} {xs ys:Yg} {n n2 ln:Nat} (hh:A.handled=none) (hu:A.units+10<cLine) (hl:s.heap.get? l=some (ab [.ref a,.ref b] ln)) (ha:s.heap.get? a=some (ab vs n)) (hb:s.heap.get? b=some (ab ws n2)) (hv:StrsAre vs xs) (hw:StrsAre ws ys)
  (L:∀z,(∀c o,s.heap.get? c=some o→z.get? c=some o)→s.heap.objs.size≤z.objs.size→Q (.ref (match (aP xs ys) with | true=>b | false=>a)) {s with heap:=z}):wpAny (model prog w) A (call (.builtin "max") [.ref l]) Q E s:=by
 have i:(toString "max" ++ toString ".loop" : String)="max.loop" := by decide
 have hL:s.heap.IsList l #[.ref a,.ref b]:=⟨_,hl,rfl,ln,rfl⟩
 have hu1:A.in1.units<cLine:=by
  show A.units+1<cLine
  omega
 refine call_function_tree F.kind_max F.plain_max F.entry_max (F.args_max1 _) ?_
 show wpAny _ A.in1 (Builtin.Builtins.bindParams "max" ["key","default"] 0 ⟨[],[]⟩ >>= _) _ _ s
 refine wpAny_bind (wpAny_of_eq (show Builtin.Builtins.bindParams "max" ["key","default"] 0 ⟨[],[]⟩=pure [none,none] from rfl) ?_)
 refine wpAny_bind (wpAny_pure ?_)
 refine wpAny_bind (wpAny_pyIter_list hL ?_)
 refine wpAny_bind (wpAny_newObj_type ?_)
 rw [i]
 generalize B:(s.heap.push {cls:=.type "list_iterator",data:=.fields #[.ref l,.int 0 0]})=g
 have Y:g.objs.size=s.heap.objs.size+1:=by rw [←B];exact Heap.size_push _ _
 have D:∀c o,s.heap.get? c=some o→g.get? c=some o:=fun c o e=>by rw [←B];exact Heap.get?_push_of_some _ e
 have hI1:g.IsListIter s.heap.objs.size l 0:=by rw [←B];exact ⟨_,Heap.get?_push_size _ rfl,rfl,rfl⟩
 have lt:∀{c o},s.heap.get? c=some o→c<s.heap.objs.size:=fun e=>Heap.lt_size e
 have K:s.heap.objs.size≤g.objs.size:=by rw [Y];exact Nat.le_succ _
 have cS:∀{c o},s.heap.get? c=some o→c≠g.objs.size:=fun e=>Nat.ne_of_lt (Nat.lt_of_lt_of_le (lt e) K)
 have Iz:s.heap.objs.size≠g.objs.size:=by rw [Y];exact Nat.ne_of_lt (Nat.lt_succ_self _)
 have nS:g.objs.size≠s.heap.objs.size:=fun e=>Iz e.symm
 refine wpAny_pure ⟨plainId_quiet F.plain_max_loop _,?_⟩
 have G:(g.push {cls:=.type "list",data:=.seq #[]}).get? g.objs.size=some {cls:=.type "list",data:=.seq #[]}:=Heap.get?_push_size _ rfl
 have P:(g.push {cls:=.type "list",data:=.seq #[]}).IsListIter s.heap.objs.size l 0:=hI1.at fun o e=>Heap.get?_push_of_some _ e
 have m:∀c o,s.heap.get? c=some o→(g.push {cls:=.type "list",data:=.seq #[]}).get? c=some o:=fun c o e=>Heap.get?_push_of_some _ (D c o e)
 generalize (g.push {cls:=.type "list",data:=.seq #[]})=H2 at G P m ⊢
 refine codeAny_builtin F.entry_max_loop ?_
 rw [Around.under_plainId F.plain_max_loop _]
 show wpAny _ A.in1 (seqItems? (.ref g.objs.size) >>= _) _ _ _
 refine wpAny_bind (wpAny_seqItems G rfl ?_)
 show wpAny _ A.in1 (tryCatch (pyNext (.ref s.heap.objs.size)) _ >>= _) _ _ _
 refine wpAny_bind (wpAny_tryCatch (wpAny_pyNext_list_item P (hL.at fun o e=>m _ _ e) (x:=.ref a) rfl fun H hit3 R => ?_))
 have S:=(R.2 _ nS).trans G
 have C:∀c o,s.heap.get? c=some o→H.get? c=some o:=fun c o e=>(R.2 c (Nat.ne_of_lt (lt e))).trans (m c o e)
 show wpAny _ A.in1 (updateSeq g.objs.size (fun _=>#[.ref a,.ref a]) >>= _) _ _ _
 refine wpAny_bind ?_
 refine wpAny_updateSeq S rfl ?_
 rw [i]
 refine wpAny_pure ⟨plainId_quiet F.plain_max_loop _,?_⟩
 have N:=Heap.SameBut.update (h:=H) (a:=g.objs.size) (f:=Obj.mapSeq fun _=>#[.ref a,.ref a])
 have I:(H.update g.objs.size (Obj.mapSeq fun _=>#[.ref a,.ref a])).get? g.objs.size=some {cls:=.type "list",data:=.seq #[.ref a,.ref a] 1}:=Heap.get?_update_self _ S rfl
 have j:∀c o,s.heap.get? c=some o→(H.update g.objs.size (Obj.mapSeq fun _=>#[.ref a,.ref a])).get? c=some o:=fun c o e=>(N.2 c (cS e)).trans (C c o e)
 have y:(H.update g.objs.size (Obj.mapSeq fun _=>#[.ref a,.ref a])).IsListIter s.heap.objs.size l 1:=hit3.at fun o e=>(N.2 _ Iz).trans e
 show codeAny (model prog w) _ _ _ ⟨H.update g.objs.size (Obj.mapSeq fun _=>#[.ref a,.ref a]),_,_,_,_⟩
 generalize (H.update g.objs.size (Obj.mapSeq fun _=>#[.ref a,.ref a]))=H4 at I j y ⊢
 have t:∀(x:Addr) (k:Nat) (V:Heap),V.get? g.objs.size=some {cls:=.type "list",data:=.seq #[.ref x,.ref x] k}→(∀c o,s.heap.get? c=some o→V.get? c=some o)→V.IsListIter s.heap.objs.size l 2→(∀z,(∀c o,s.heap.get? c=some o→z.get? c=some o)→s.heap.objs.size≤z.objs.size→Q (.ref x) {s with heap:=z})→
   codeAny (model prog w) A (.builtin "max.loop" ⟨[.ref s.heap.objs.size,.none,.ref g.objs.size],[]⟩) (wants Q E) {s with heap:=V}:=fun x k V q d p hQ5=>by
  refine codeAny_builtin F.entry_max_loop ?_
  rw [Around.under_plainId F.plain_max_loop _]
  show wpAny _ A.in1 (seqItems? (.ref g.objs.size) >>= _) _ _ _
  refine wpAny_bind (wpAny_seqItems q rfl ?_)
  show wpAny _ A.in1 (tryCatch (pyNext (.ref s.heap.objs.size)) _ >>= _) _ _ _
  refine wpAny_bind (wpAny_tryCatch (wpAny_pyNext_list_end hh p (hL.at fun o e=>d _ _ e) rfl fun h6 T => ?_))
  have O:=T _ _ nS q
  have J:∀c o,s.heap.get? c=some o→h6.get? c=some o:=fun c o e=>T c o (Nat.ne_of_lt (lt e)) (d c o e)
  show wpAny _ A.in1 (updateSeq g.objs.size (fun _=>#[]) >>= _) _ _ _
  refine wpAny_bind ?_
  refine wpAny_updateSeq O rfl (wpAny_bind (PySem.wpAny_letGo (wpAny_pure ?_)))
  have Z:=Heap.SameBut.update (h:=h6) (a:=g.objs.size) (f:=Obj.mapSeq fun _=>#[])
  refine hQ5 _ (fun c o e=>(Z.2 c (cS e)).trans (J c o e)) ?_
  rw [Z.1]
  exact Nat.le_of_lt (Nat.lt_of_le_of_lt K (Heap.lt_size O))
 refine codeAny_builtin F.entry_max_loop ?_
 rw [Around.under_plainId F.plain_max_loop _]
 show wpAny _ A.in1 (seqItems? (.ref g.objs.size) >>= _) _ _ _
 refine wpAny_bind (wpAny_seqItems I rfl ?_)
 show wpAny _ A.in1 (tryCatch (pyNext (.ref s.heap.objs.size)) _ >>= _) _ _ _
 refine wpAny_bind (wpAny_tryCatch (wpAny_pyNext_list_item y (hL.at fun o e=>j _ _ e) (x:=.ref b) rfl fun h5 p U => ?_))
 have q:=(U.2 _ nS).trans I
 have d:∀c o,s.heap.get? c=some o→h5.get? c=some o:=fun c o e=>(U.2 c (Nat.ne_of_lt (lt e))).trans (j c o e)
 show wpAny _ A.in1 (tryCatch (holding [.ref b,.ref b] (richCompare .Gt (.ref b) (.ref a) >>= _)) _ >>= _) _ _ _
 refine wpAny_bind (wpAny_tryCatch (wpAny_holding (wpAny_bind (richCompare_meets_room (op:=.Gt) ⟨_,d _ _ hb,rfl⟩ ⟨_,d _ _ ha,rfl⟩ F.slot_list_gt F.entry_list_gt (F.args_list_gt_2 _ _) (Kj b a ws vs ys xs n2 n hw hv) ⟨d _ _ hb,d _ _ ha,(fun x=>nomatch x),?_⟩ hu1))))
 refine wpAny_bind (wpAny_holding (wpAny_truthy_bool ?_))
 refine wpAny_bind (PySem.wpAny_letGo (wpAny_pure ?_))
 revert L
 cases (aP xs ys) with
 | true=>
  intro L
  simp only [if_true]
  refine wpAny_bind ?_
  refine wpAny_updateSeq q rfl (wpAny_bind (PySem.wpAny_letGo ?_))
  rw [i]
  have X:=Heap.SameBut.update (h:=h5) (a:=g.objs.size) (f:=Obj.mapSeq fun _=>#[.ref b,.ref b])
  exact wpAny_pure ⟨plainId_quiet F.plain_max_loop _,t b _ _ (Heap.get?_update_self _ q rfl) (fun c o e=>(X.2 c (cS e)).trans (d c o e)) (p.at fun o e=>(X.2 _ Iz).trans e) L⟩
 | false=>
  intro L
  simp only [Bool.false_eq_true,if_false]
  refine wpAny_bind (PySem.wpAny_letGo ?_)
  rw [i]
  exact wpAny_pure ⟨plainId_quiet F.plain_max_loop _,t a _ _ q d p L⟩
end
end
def Km:Stmt→List Stmt
 | .Try b _ _ _ _=>b
 | _=>[]
section
variable {B:bf} {m:Nat}
theorem Bx {A:Around} (h:Lv m A):A.units+10<cLine:=by
 have:=h.2.2
 have e:cLine=9900:=rfl
 lia
def eV (pl:Yh) (b a:Yg):aH:=
 {code:=fun p=>.call (.builtin "min") ⟨[.ref (p 1 0)],[]⟩,pl,objs:=fun p=>[(p 1 0,ab [.ref (p 2 0),.ref (p 3 0)] (p 1 1)),(p 2 0,ab (bc p 2 b 2) (p 2 1)),(p 3 0,ab (bc p 3 a 2) (p 3 1))],strm:=true,
  out:=fun p c=>(.ret (.ref (p 2 0)),[ab [.ref (p 2 0),.ref (p 3 0)] (p 1 1),ab (bc p 2 b 2) (p 2 1),ab (bc p 3 a 2) (p 3 1)],[])}
theorem fj {o:Yh} {c g:Yg} (y:o.Nodup) (h:aP g c=false):(eV o c g).Sure B m:=by
 refine ⟨y,fun p A j H i D d C J l k Q E nd a I F=>d8 ?_⟩
 have z:=(a _ (.head _)).1
 have t:=(a _ (.tail _ (.head _))).1
 have G:=(a _ (.tail _ (.tail _ (.head _)))).1
 refine Kk (s:=⟨H,D,d,i,C⟩) j.1 (Bx j) z t G (pc _ _ _ _) (pc _ _ _ _) fun u n le => ?_
 rw [h]
 exact F u i id (fun e=>by cases e) le (fun b w q _=>n b w q) (fun x hx=>n _ _ (a x (by
  have f:x∈[(p 1 0,ab [.ref (p 2 0),.ref (p 3 0)] (p 1 1)),(p 2 0,ab (bc p 2 c 2) (p 2 1)),(p 3 0,ab (bc p 3 g 2) (p 3 1))]:=hx
  exact f)).1) (fun _ hx=>nomatch hx) List.nodup_nil
def eW (pl:Yh) (b a:Yg) (g:Bool):aH:=
 {code:=fun p=>.call (.builtin "max") ⟨[.ref (p 1 0)],[]⟩,pl,objs:=fun p=>[(p 1 0,ab [.ref (p 2 0),.ref (p 3 0)] (p 1 1)),(p 2 0,ab (bc p 2 b 2) (p 2 1)),(p 3 0,ab (bc p 3 a 2) (p 3 1))],strm:=true,
  out:=fun p c=>(.ret (.ref (match g with | true=>p 3 0 | false=>p 2 0)),[ab [.ref (p 2 0),.ref (p 3 0)] (p 1 1),ab (bc p 2 b 2) (p 2 1),ab (bc p 3 a 2) (p 3 1)],[])}
theorem fk {t:Yh} {c i:Yg} {g:Bool} (z:t.Nodup) (h:aP c i=g):(eW t c i g).Sure B m:=by
 refine ⟨z,fun p A n I j F d D K l k Q E nd a J G=>d8 ?_⟩
 have C:=(a _ (.head _)).1
 have u:=(a _ (.tail _ (.head _))).1
 have H:=(a _ (.tail _ (.tail _ (.head _)))).1
 refine Kl (s:=⟨I,F,d,j,D⟩) n.1 (Bx n) C u H (pc _ _ _ _) (pc _ _ _ _) fun w o le => ?_
 rw [h]
 exact G w j id (fun e=>by cases e) le (fun b y q _=>o b y q) (fun x hx=>o _ _ (a x (by
  have f:x∈[(p 1 0,ab [.ref (p 2 0),.ref (p 3 0)] (p 1 1)),(p 2 0,ab (bc p 2 c 2) (p 2 1)),(p 3 0,ab (bc p 3 i 2) (p 3 1))]:=hx
  exact f)).1) (fun _ hx=>nomatch hx) List.nodup_nil
end
def b8 (a:Nat) (i:Int) (x:Yd):Obj:=aW 1 .none [.bool false,.ref a,.int i 0,.none,x]
section
def Kq:Code:=.call (.ref 269) ⟨[.ref 900],[]⟩
def Kr:Kn:=[(900,ab [] 0)]
end
section
variable {B:bf} {m:Nat} {α β : Type}
theorem By (O:B.Ok) {elts:List Expr} {x1:Nat} {pt:Pos} {z:Addr} {i:List Stmt} {j:Env} {e:Nat} {rest:Yb} {T:Ya} {Z0:Obj} {o1:Ye→Yf} {V1:Ye→Obj} {o2:Ye→Ye→Yf} {V2:Ye→Ye→Obj} {o3:Ye→Ye→Ye→Yf} {N3:Ye→Ye→Ye→Ya} {y:Ye→e4}
  (P:fX (.forLoop (.Tuple elts x1 pt) (.ref z) i [] j))
  (J:aI B m (pyNext (.ref z)) ((z,Z0)::T) fun c=>(some (.ref (c 0)),aW e (rawInt (c 0)) rest::o1 c,[(c 0,V1 c)])) (n:∀c,(o1 c).length=T.length)
  (L:∀c,aI B m (assign (.Tuple elts x1 pt) j (.ref (c 0))) ((z,aW e .none rest)::((T.map (·.1)).zip (o1 c)++[(c 0,V1 c)])) fun b=>((),aW e .none rest::(o2 c b++[V2 c b]),[])) (t:∀c b,(o2 c b).length=T.length)
  (K:∀c b,aI B m (execs i j) ((z,aW e .none rest)::(T.map (·.1)).zip (o2 c b)) fun d=>(Flow.brk,aW e .none rest::o3 c b d,N3 c b d)) (l3:∀c b d,(o3 c b d).length=T.length)
  (E:∀c,y c=(.ok .next,aW e .none rest::o3 (ev c) (ev (od c)) (od (od c)),N3 (ev c) (ev (od c)) (od (od c)))) :
  aL B (m+1) (.forLoop (.Tuple elts x1 pt) (.ref z) i [] j) ((z,Z0)::T) y:=by
 have C:∀{l:Yf},l.length=T.length→((T.map (·.1)).zip l).length=T.length:=fun h=>by rw [List.length_zip,List.length_map,h,Nat.min_self]
 have I:∀{l:Yf},l.length=T.length→((T.map (·.1)).zip l).map (·.2)=l:=fun h=>List.map_snd_zip (by rw [List.length_map,h];exact Nat.le_refl _)
 have D:∀{l:Yf},l.length=T.length→((T.map (·.1)).zip l).map (·.1)=T.map (·.1):=fun h=>jq h
 have q:∀c b,aI B m (do
   match ←execs i j with
   | .next | .cont=>again (.forLoop (.Tuple elts x1 pt) (.ref z) i [] j)
   | .brk=>pure (.done .next)
   | .ret v=>pure (.done (.ret v))) ((z,aW e .none rest)::(T.map (·.1)).zip (o2 c b)) fun d=>(Fin.done .next,aW e .none rest::o3 c b d,N3 c b d):=fun c b=>by
  refine (aI.bind O (K c b) (fun d=>by rw [List.length_cons,List.length_cons,l3,C (t _ _)]) (u:=fun _ _=>Fin.done .next) (o2:=fun d _=>aW e .none rest::o3 c b d) (d2:=fun d _=>(N3 c b d).map (·.2)) (N2:=fun _ _=>[]) (fun d => ?_) (fun d _=>by rw [List.length_cons,List.length_cons,l3,C (t _ _)]) fun _ _=>List.length_map _).co fun d=>⟨ev d,rfl,rfl,by rw [s9,List.append_nil];exact List.Sublist.refl _⟩
  have h:=aI.pur (B:=B) (m:=m) (Fin.done .next) ((((z,aW e .none rest)::(T.map (·.1)).zip (o2 c b)).map (·.1)).zip (aW e .none rest::o3 c b d)++N3 c b d)
  refine h.co fun A=>⟨A,rfl,?_,List.Sublist.refl _⟩
  show aW e .none rest::o3 c b d++(N3 c b d).map (·.2)=_
  rw [List.map_append,List.map_cons,List.zip_cons_cons,List.map_cons,D (t _ _),I (l3 _ _ _)]
 have p:∀c,aI B m (do
   assign (.Tuple elts x1 pt) j (.ref (c 0))
   match ←execs i j with
   | .next | .cont=>again (.forLoop (.Tuple elts x1 pt) (.ref z) i [] j)
   | .brk=>pure (.done .next)
   | .ret v=>pure (.done (.ret v))) ((z,aW e .none rest)::((T.map (·.1)).zip (o1 c)++[(c 0,V1 c)])) fun b=>(Fin.done .next,aW e .none rest::(o3 c (ev b) (od b)++[V2 c (ev b)]),N3 c (ev b) (od b)):=fun c=>by
  have H:∀{l:Yf} {V:Obj},l.length=T.length→(aW e .none rest::(l++[V])).length=((z,aW e .none rest)::((T.map (·.1)).zip (o1 c)++[(c 0,V1 c)])).length:=fun h=>by simp [h,n]
  refine (aI.bind O (L c) (fun b=>H (t _ _)) (u:=fun _ _=>Fin.done .next) (o2:=fun b d=>aW e .none rest::(o3 c b d++[V2 c b])) (d2:=fun _ _=>[]) (N2:=fun b d=>N3 c b d) (fun b => ?_) (fun b d=>H (l3 _ _ _)) fun _ _=>rfl).co fun b=>⟨b,rfl,rfl,List.Sublist.refl _⟩
  have h:=(q c b).frame (fun d=>by rw [List.length_cons,List.length_cons,l3,C (t _ _)]) [(c 0,V2 c b)]
  have eT:(((z,aW e .none rest)::((T.map (·.1)).zip (o1 c)++[(c 0,V1 c)])).map (·.1)).zip (aW e .none rest::(o2 c b++[V2 c b]))++[]=((z,aW e .none rest)::(T.map (·.1)).zip (o2 c b))++[(c 0,V2 c b)]:=by
   rw [List.append_nil,List.map_cons,List.zip_cons_cons,List.map_append,D (n _),iT (by rw [List.length_map,t])]
   rfl
  rw [eT]
  refine h.co fun d=>⟨d,rfl,?_,List.Sublist.refl _⟩
  show aW e .none rest::(o3 c b d++[V2 c b])++[]=(aW e .none rest::o3 c b d)++[V2 c b]
  rw [List.append_nil];rfl
 have s:∀c,aI B m (do
   letOwnedTupleGo (.Tuple elts x1 pt) (.ref z) (.ref (c 0))
   assign (.Tuple elts x1 pt) j (.ref (c 0))
   match ←execs i j with
   | .next | .cont=>again (.forLoop (.Tuple elts x1 pt) (.ref z) i [] j)
   | .brk=>pure (.done .next)
   | .ret v=>pure (.done (.ret v))) ((((z,Z0)::T).map (·.1)).zip (aW e (rawInt (c 0)) rest::o1 c)++[(c 0,V1 c)]) fun b=>(Fin.done .next,(aW e .none rest::o3 c (ev b) (od b))++[V2 c (ev b)],N3 c (ev b) (od b)):=fun c=>by
  have g:=(aI.letGo (B:=B) (m:=m) (elts:=elts) (x1:=x1) (pt:=pt) (z:=z) (a:=c 0) (e:=e) (rest:=rest)).frame (fun _=>rfl) ((T.map (·.1)).zip (o1 c)++[(c 0,V1 c)])
  have Q:∀V:Obj,(([aW e .none rest]:Yf)++((T.map (·.1)).zip (o1 c)++[(c 0,V)]).map (·.2))=aW e .none rest::(o1 c++[V]):=fun V=>by rw [List.map_append,I (n _)];rfl
  refine (aI.bind O (v:=fun _=>()) (o:=fun _=>aW e .none rest::(o1 c++[V1 c])) (N:=fun _=>[]) (g.co fun a=>⟨a,rfl,(Q _).symm,List.Sublist.refl _⟩) (fun _=>by simp [n]) (u:=fun _ _=>Fin.done .next) (o2:=fun _ b=>aW e .none rest::(o3 c (ev b) (od b)++[V2 c (ev b)])) (d2:=fun _ _=>[]) (N2:=fun _ b=>N3 c (ev b) (od b)) (fun _ => ?_) (fun _ b=>by simp [n,l3]) fun _ _=>rfl).co fun b=>⟨od b,rfl,rfl,List.Sublist.refl _⟩
  have eT:(([(z,aW e (rawInt (c 0)) rest)]++((T.map (·.1)).zip (o1 c)++[(c 0,V1 c)])).map (·.1)).zip (aW e .none rest::(o1 c++[V1 c]))++[]=(z,aW e .none rest)::((T.map (·.1)).zip (o1 c)++[(c 0,V1 c)]):=by
   rw [List.append_nil,List.map_append,List.map_append,D (n _),List.map_cons,List.map_nil,List.singleton_append,List.zip_cons_cons,iT (by rw [List.length_map,n])]
   rfl
  rw [eT]
  refine (p c).co fun d=>⟨d,rfl,?_,List.Sublist.refl _⟩
  show aW e .none rest::(o3 c (ev d) (od d)++[V2 c (ev d)])++[]=_
  rw [List.append_nil]
 have F:∀{l:Yf} {V:Obj},l.length=T.length→(V::l).length=((z,Z0)::T).length:=fun h=>by rw [List.length_cons,List.length_cons,h]
 have all:=aI.bind O (J.onRaise (k:=fun _=>standAt {pt with line:=0})) (fun c=>F (n c)) (f:=fun r=>match r with
  | none=>again (.block [] j)
  | some v=>do
   letOwnedTupleGo (.Tuple elts x1 pt) (.ref z) v
   assign (.Tuple elts x1 pt) j v
   match ←execs i j with
   | .next | .cont=>again (.forLoop (.Tuple elts x1 pt) (.ref z) i [] j)
   | .brk=>pure (.done .next)
   | .ret v=>pure (.done (.ret v))) s (fun c b=>F (l3 _ _ _)) (fun _ _=>rfl)
 have w:aI B m (denote table (.forLoop (.Tuple elts x1 pt) (.ref z) i [] j)) ((z,Z0)::T) fun c=>(Fin.done .next,aW e .none rest::o3 (ev c) (ev (od c)) (od (od c)),N3 (ev c) (ev (od c)) (od (od c))):=by
  show aI B m ((forTurn (.Tuple elts x1 pt) (.ref z) i [] j).onRaise (fun x=>do noteFrame x j;theTreesLotGoes x)) _ _
  refine aI.onRaise ?_
  unfold forTurn
  exact aI.standAt (all.co fun c=>⟨c,rfl,rfl,List.sublist_append_right _ _⟩)
 exact aL.ofM P w fun c=>⟨by rw [E],by rw [E]⟩
end
section
def Bz (w:Yc):Code:=z1 (gw false false w [] 14 [0,0,2,1,0,1] 0 (fun _=>(0,0,id)) Kq Kr 1000 0)
def dp (w:Yc):Code:=vo (gH (Km (gH (iX (Bz w)) 3)) 6) (vn (Bz w))
def iu (w:Yc) (p:af):Env:=m9 (dp w) (p 8 0) [p 9 0,p 13 0]
theorem Ks (w:Yc):sQ (dp w)=true:=by kernel_rfl
theorem Kt (w:Yc):fO (dp w)=[]:=by kernel_rfl
theorem nC (w:Yc):fT (dp w) = .Tuple (nb (fT (dp w))) (nm (fT (dp w))) (nq (fT (dp w))):=by kernel_rfl
end
section
theorem BA (a:Yb) (i:Nat):slicePick a.toArray none (some (i:Int)) none=(a.take i).toArray:=slicePick_upto' a.toArray i
def BB (w:Yc) (c:Obj) (e:Yd) (b:Yb) (a:Str) (f:Nat) (p:af) (d:Ye):Yf:=[aW 1 (rawInt (d 0)) [.bool false,.ref (p 2 0),.int 1 0,.none,.str a f],am (.ref (p 3 0)) 1,ab b (p 3 1),c]
theorem Ku (b c:Bool) (w:Yc) (i:Obj) (d:Yd) (e:Yb) (a:Str) (h:Nat) (p:af) (j:e[0]? = some (.str a h)):aI (B0 (W b c w)) 3 (pyNext (.ref (p 1 0))) [(p 1 0,b8 (p 2 0) 0 d),(p 2 0,am (.ref (p 3 0)) 0),(p 3 0,ab e (p 3 1)),(p 8 0,i)] fun g=>((some (.ref (g 0))),BB w i d e a h p g,[(g 0,az [.int 0 (g 1),.str a h] 0)]++[]):=by
 rw [nl]
 exact bt (enc:=kf) mW (orcs:=[cD 1 2 e 0 (.str a h)]) (aa (cT (by decide) j) aq) 29 1 [1,0,1,0,53,1,2,2,1,1,1,0,1,0,1,1,1,0,1,0,1,0] [0,1,2,3,4] none (fun n k f=>aB [(f 0).1+0,(f 0).2.1+0])
def BC (w:Yc) (f d:Yd) (e:Yb) (a:Str) (b:Nat) (p:af) (c:Ye):Yf:=[aW 1 .none [.bool false,.ref (p 2 0),.int 1 0,.none,.str a b],am (.ref (p 3 0)) 1,ab e (p 3 1),aG w [("paths",p 8 2,f),("split_paths",p 8 4,d),("isabs",p 8 6,.bool true),("s1",p 8 8,.ref (p 3 0)),("s2",p 8 10,.ref (p 3 0)),("common",p 8 12,.ref (p 3 0)),("i",c 0,.int 0 (p 14 2)),("c",c 1,.str a b)] (p 8 1+1+1),az [.int 0 (p 14 2),.str a b] 0]
theorem Kv (b c:Bool) (w:Yc) (i g:Yd) (h:Yb) (a:Str) (d:Nat) (p:af):aI (B0 (W b c w)) 3 (assign (fT (dp w)) (iu w p) (.ref (p 14 0))) [(p 1 0,aW 1 .none [.bool false,.ref (p 2 0),.int 1 0,.none,.str a d]),(p 2 0,am (.ref (p 3 0)) 1),(p 3 0,ab h (p 3 1)),(p 8 0,aG w [("paths",p 8 2,i),("split_paths",p 8 4,g),("isabs",p 8 6,.bool true),("s1",p 8 8,.ref (p 3 0)),("s2",p 8 10,.ref (p 3 0)),("common",p 8 12,.ref (p 3 0))] (p 8 1)),(p 14 0,az [.int 0 (p 14 2),.str a d] 0)] fun j=>((),BC w i g h a d p j,[]++[]):=by
 rw [kw]
 exact bt (enc:=iU) kg (orcs:=[]) aq 63 0 [5,5,5,0,5,0,8,6,6,0,6,0,9,6,6,5,6,5,6,0,6,0,9,6,6,5,6,5,6,0,6,0,9,6,6,5,6,5,8,4,3,4,3] [0,1,2,3,4] none (fun n e f=>aB [e+0,e+1])
def BD (w:Yc) (e c:Yd) (d:Yb) (a:Str) (b:Nat) (p:af) (f:Ye):Yf:=[aW 1 .none [.bool false,.ref (p 2 0),.int 1 0,.none,.str a b],am (.ref (p 3 0)) 1,ab d (f 0),aG w [("paths",p 8 2,e),("split_paths",p 8 4,c),("isabs",p 8 6,.bool true),("s1",p 8 8,.ref (p 3 0)),("s2",p 8 10,.ref (p 3 0)),("common",p 8 12,.ref (p 3 0)),("i",p 8 14,.int 0 (p 14 2)),("c",p 8 16,.str a b)] (p 8 1)]
theorem Kw (b c:Bool) (w:Yc) (h g:Yd) (e:Yb) (a:Str) (d:Nat) (p:af) (j:e[(0:Int).toNat]? = some (.str a d)):aI (B0 (W b c w)) 3 (execs (fB (dp w)) (iu w p)) [(p 1 0,aW 1 .none [.bool false,.ref (p 2 0),.int 1 0,.none,.str a d]),(p 2 0,am (.ref (p 3 0)) 1),(p 3 0,ab e (p 3 1)),(p 8 0,aG w [("paths",p 8 2,h),("split_paths",p 8 4,g),("isabs",p 8 6,.bool true),("s1",p 8 8,.ref (p 3 0)),("s2",p 8 10,.ref (p 3 0)),("common",p 8 12,.ref (p 3 0)),("i",p 8 14,.int 0 (p 14 2)),("c",p 8 16,.str a d)] (p 8 1))] fun i=>(.next,BD w h g e a d p i,[]++[]):=by
 rw [cH]
 exact bt (enc:=cc) cG (orcs:=[cN 2 e 0 (.str a d),o2 "str.__ne__" a a fun _=>.bool false]) (aa (cU (by decide) (by decide) j) (aa (aQ (bne_self_eq_false _)) aq)) 18 2 [4,4,4,3,3,3,2,3] [0,1,2,3] none (fun n k f=>aB [(f 0).2.2 1])
def wk (w:Yc) (c:Obj) (f:Yd) (b d:Yb) (a:Str) (g:Nat) (p:af) (e:Ye):Yf:=[aW 1 (rawInt (e 0)) [.bool false,.ref (p 2 0),.int 1 0,.none,.str a g],am (.ref (p 3 0)) 1,ab b (p 3 1),ab d (p 4 1),c]
theorem BE (b c:Bool) (w:Yc) (j:Obj) (d:Yd) (e i:Yb) (a:Str) (h:Nat) (p:af) (k:e[0]? = some (.str a h)):aI (B0 (W b c w)) 3 (pyNext (.ref (p 1 0))) [(p 1 0,b8 (p 2 0) 0 d),(p 2 0,am (.ref (p 3 0)) 0),(p 3 0,ab e (p 3 1)),(p 4 0,ab i (p 4 1)),(p 8 0,j)] fun g=>((some (.ref (g 0))),wk w j d e i a h p g,[(g 0,az [.int 0 (g 1),.str a h] 0)]++[]):=by
 rw [nl]
 exact bt (enc:=kf) mW (orcs:=[cD 1 2 e 0 (.str a h)]) (aa (cT (by decide) k) aq) 29 1 [1,0,1,0,53,1,2,2,1,1,1,0,1,0,1,1,1,0,1,0,1,0] [0,1,2,3,4,5] none (fun n m f=>aB [(f 0).1+0,(f 0).2.1+0])
def wm (w:Yc) (g d:Yd) (e f:Yb) (a:Str) (b:Nat) (p:af) (c:Ye):Yf:=[aW 1 .none [.bool false,.ref (p 2 0),.int 1 0,.none,.str a b],am (.ref (p 3 0)) 1,ab e (p 3 1),ab f (p 4 1),aG w [("paths",p 8 2,g),("split_paths",p 8 4,d),("isabs",p 8 6,.bool true),("s1",p 8 8,.ref (p 3 0)),("s2",p 8 10,.ref (p 4 0)),("common",p 8 12,.ref (p 3 0)),("i",c 0,.int 0 (p 14 2)),("c",c 1,.str a b)] (p 8 1+1+1),az [.int 0 (p 14 2),.str a b] 0]
theorem BF (b c:Bool) (w:Yc) (j g:Yd) (h i:Yb) (a:Str) (d:Nat) (p:af):aI (B0 (W b c w)) 3 (assign (fT (dp w)) (iu w p) (.ref (p 14 0))) [(p 1 0,aW 1 .none [.bool false,.ref (p 2 0),.int 1 0,.none,.str a d]),(p 2 0,am (.ref (p 3 0)) 1),(p 3 0,ab h (p 3 1)),(p 4 0,ab i (p 4 1)),(p 8 0,aG w [("paths",p 8 2,j),("split_paths",p 8 4,g),("isabs",p 8 6,.bool true),("s1",p 8 8,.ref (p 3 0)),("s2",p 8 10,.ref (p 4 0)),("common",p 8 12,.ref (p 3 0))] (p 8 1)),(p 14 0,az [.int 0 (p 14 2),.str a d] 0)] fun k=>((),wm w j g h i a d p k,[]++[]):=by
 rw [kw]
 exact bt (enc:=iU) kg (orcs:=[]) aq 63 0 [6,6,6,0,6,0,8,7,7,0,7,0,9,7,7,6,7,6,7,0,7,0,9,7,7,6,7,6,7,0,7,0,9,7,7,6,7,6,9,5,4,5,4] [0,1,2,3,4,5] none (fun n e f=>aB [e+0,e+1])
def BG (w:Yc) (g c:Yd) (e f:Yb) (a:Str) (b:Nat) (d:Str) (i:Nat) (p:af) (h:Ye):Yf:=[aW 1 .none [.bool false,.ref (p 2 0),.int 1 0,.none,.str a b],am (.ref (p 3 0)) 1,ab e (p 3 1),ab f (h 0),aG w [("paths",p 8 2,g),("split_paths",p 8 4,c),("isabs",p 8 6,.bool true),("s1",p 8 8,.ref (p 3 0)),("s2",p 8 10,.ref (p 4 0)),("common",p 8 12,.ref (p 3 0)),("i",p 8 14,.int 0 (p 14 2)),("c",p 8 16,.str a b)] (p 8 1)]
theorem Kx (b c:Bool) (w:Yc) (i j:Yd) (k e:Yb) (a:Str) (h:Nat) (d:Str) (g:Nat) (p:af) (o:e[(0:Int).toNat]? = some (.str d g)) (q:(a.cps.toList != d.cps.toList)=false):aI (B0 (W b c w)) 3 (execs (fB (dp w)) (iu w p)) [(p 1 0,aW 1 .none [.bool false,.ref (p 2 0),.int 1 0,.none,.str a h]),(p 2 0,am (.ref (p 3 0)) 1),(p 3 0,ab k (p 3 1)),(p 4 0,ab e (p 4 1)),(p 8 0,aG w [("paths",p 8 2,i),("split_paths",p 8 4,j),("isabs",p 8 6,.bool true),("s1",p 8 8,.ref (p 3 0)),("s2",p 8 10,.ref (p 4 0)),("common",p 8 12,.ref (p 3 0)),("i",p 8 14,.int 0 (p 14 2)),("c",p 8 16,.str a h)] (p 8 1))] fun m=>(.next,BG w i j k e a h d g p m,[]++[]):=by
 rw [cH]
 exact bt (enc:=cc) cG (orcs:=[cN 3 e 0 (.str d g),o2 "str.__ne__" a d fun _=>.bool false]) (aa (cU (by decide) (by decide) o) (aa (aQ q) aq)) 18 2 [5,5,5,4,4,4,2,3] [0,1,2,3,4] none (fun n s f=>aB [(f 0).2.2 1])
def BH (w:Yc) (h e:Yd) (f g:Yb) (a:Str) (c:Nat) (d:Str) (i:Nat) (p:af) (b:Ye):Yf:=[aW 1 .none [.bool false,.ref (p 2 0),.int 1 0,.none,.str a c],am (.ref (p 3 0)) 1,ab f (p 3 1),ab g (b 0),aG w [("paths",p 8 2,h),("split_paths",p 8 4,e),("isabs",p 8 6,.bool true),("s1",p 8 8,.ref (p 3 0)),("s2",p 8 10,.ref (p 4 0)),("common",p 8 12,.ref (b 1)),("i",p 8 14,.int 0 (p 14 2)),("c",p 8 16,.str a c)] (p 8 1)]
def BI (w:Yc) (h f:Yd) (b g:Yb) (a:Str) (i:Nat) (d:Str) (e:Nat) (p:af) (c:Ye):Ya:=[(c 1,ab (b.take 0) 0)]
theorem Ky (b c:Bool) (w:Yc) (j k:Yd) (e g:Yb) (a:Str) (i:Nat) (d:Str) (h:Nat) (p:af) (q:g[(0:Int).toNat]? = some (.str d h)) (s:(a.cps.toList != d.cps.toList)=true) (o:e.length≤1000):aI (B0 (W b c w)) 3 (execs (fB (dp w)) (iu w p)) [(p 1 0,aW 1 .none [.bool false,.ref (p 2 0),.int 1 0,.none,.str a i]),(p 2 0,am (.ref (p 3 0)) 1),(p 3 0,ab e (p 3 1)),(p 4 0,ab g (p 4 1)),(p 8 0,aG w [("paths",p 8 2,j),("split_paths",p 8 4,k),("isabs",p 8 6,.bool true),("s1",p 8 8,.ref (p 3 0)),("s2",p 8 10,.ref (p 4 0)),("common",p 8 12,.ref (p 3 0)),("i",p 8 14,.int 0 (p 14 2)),("c",p 8 16,.str a i)] (p 8 1))] fun m=>(.brk,BH w j k e g a i d h p m,BI w j k e g a i d h p m++[]):=by
 rw [cH]
 exact bt (enc:=cc) cG (orcs:=[cN 3 g 0 (.str d h),o2 "str.__ne__" a d fun _=>.bool true,c7 2 5 (fun _=>e) none (some 0) (fun _=>e.take 0)]) (aa (cU (by decide) (by decide) q) (aa (aQ s) (aa (dB (by decide) (fun _=>o) (fun _=>BA e 0)) aq))) 38 3 [5,5,5,4,4,4,2,3,5,5,3,3,3,4,5,4] [0,1,2,3,4,6] none (fun n t f=>aB [(f 0).2.2 1,(f 2).2.2 0])
def BJ (w:Yc) (c:Obj) (e:Yd) (b:Yb) (a:Str) (f:Nat) (p:af) (d:Ye):Yf:=[aW 1 (rawInt (d 0)) [.bool false,.ref (p 2 0),.int 2 0,.none,.str a f],am (.ref (p 3 0)) 2,ab b (p 3 1),c]
theorem Kz (b c:Bool) (w:Yc) (i:Obj) (d:Yd) (e:Yb) (a:Str) (h:Nat) (p:af) (j:e[1]? = some (.str a h)):aI (B0 (W b c w)) 3 (pyNext (.ref (p 1 0))) [(p 1 0,b8 (p 2 0) 1 d),(p 2 0,am (.ref (p 3 0)) 1),(p 3 0,ab e (p 3 1)),(p 8 0,i)] fun g=>((some (.ref (g 0))),BJ w i d e a h p g,[(g 0,az [.int 1 (g 1),.str a h] 0)]++[]):=by
 rw [nl]
 exact bt (enc:=kf) mW (orcs:=[cD 1 2 e 1 (.str a h)]) (aa (cT (by decide) j) aq) 29 1 [1,0,1,0,53,1,2,2,1,1,1,0,1,0,1,1,1,0,1,0,1,0] [0,1,2,3,4] none (fun n k f=>aB [(f 0).1+0,(f 0).2.1+0])
def BK (w:Yc) (e c:Yd) (vi g:Yd) (d:Yb) (a:Str) (b:Nat) (p:af) (f:Ye):Yf:=[aW 1 .none [.bool false,.ref (p 2 0),.int 2 0,.none,.str a b],am (.ref (p 3 0)) 2,ab d (p 3 1),aG w [("paths",p 8 2,e),("split_paths",p 8 4,c),("isabs",p 8 6,.bool true),("s1",p 8 8,.ref (p 3 0)),("s2",p 8 10,.ref (p 3 0)),("common",p 8 12,.ref (p 3 0)),("i",p 8 14,.int 1 (p 14 2)),("c",p 8 16,.str a b)] (p 8 1),az [.int 1 (p 14 2),.str a b] 0]
theorem KA (b c:Bool) (w:Yc) (h e:Yd) (vi i:Yd) (g:Yb) (a:Str) (d:Nat) (p:af):aI (B0 (W b c w)) 3 (assign (fT (dp w)) (iu w p) (.ref (p 14 0))) [(p 1 0,aW 1 .none [.bool false,.ref (p 2 0),.int 2 0,.none,.str a d]),(p 2 0,am (.ref (p 3 0)) 2),(p 3 0,ab g (p 3 1)),(p 8 0,aG w [("paths",p 8 2,h),("split_paths",p 8 4,e),("isabs",p 8 6,.bool true),("s1",p 8 8,.ref (p 3 0)),("s2",p 8 10,.ref (p 3 0)),("common",p 8 12,.ref (p 3 0)),("i",p 8 14,vi),("c",p 8 16,i)] (p 8 1)),(p 14 0,az [.int 1 (p 14 2),.str a d] 0)] fun j=>((),BK w h e vi i g a d p j,[]++[]):=by
 rw [kw]
 exact bt (enc:=iU) kg (orcs:=[]) aq 63 0 [5,5,5,0,5,0,8,6,6,0,6,0,9,6,6,5,6,5,6,0,6,0,9,6,6,5,6,5,6,0,6,0,9,6,6,5,6,5,8,4,3,4,3] [0,1,2,3,4] none (fun n k f=>fun _=>0)
def BL (w:Yc) (e c:Yd) (d:Yb) (a:Str) (b:Nat) (p:af) (f:Ye):Yf:=[aW 1 .none [.bool false,.ref (p 2 0),.int 2 0,.none,.str a b],am (.ref (p 3 0)) 2,ab d (f 0),aG w [("paths",p 8 2,e),("split_paths",p 8 4,c),("isabs",p 8 6,.bool true),("s1",p 8 8,.ref (p 3 0)),("s2",p 8 10,.ref (p 3 0)),("common",p 8 12,.ref (p 3 0)),("i",p 8 14,.int 1 (p 14 2)),("c",p 8 16,.str a b)] (p 8 1)]
theorem KB (b c:Bool) (w:Yc) (h g:Yd) (e:Yb) (a:Str) (d:Nat) (p:af) (j:e[(1:Int).toNat]? = some (.str a d)):aI (B0 (W b c w)) 3 (execs (fB (dp w)) (iu w p)) [(p 1 0,aW 1 .none [.bool false,.ref (p 2 0),.int 2 0,.none,.str a d]),(p 2 0,am (.ref (p 3 0)) 2),(p 3 0,ab e (p 3 1)),(p 8 0,aG w [("paths",p 8 2,h),("split_paths",p 8 4,g),("isabs",p 8 6,.bool true),("s1",p 8 8,.ref (p 3 0)),("s2",p 8 10,.ref (p 3 0)),("common",p 8 12,.ref (p 3 0)),("i",p 8 14,.int 1 (p 14 2)),("c",p 8 16,.str a d)] (p 8 1))] fun i=>(.next,BL w h g e a d p i,[]++[]):=by
 rw [cH]
 exact bt (enc:=cc) cG (orcs:=[cN 2 e 1 (.str a d),o2 "str.__ne__" a a fun _=>.bool false]) (aa (cU (by decide) (by decide) j) (aa (aQ (bne_self_eq_false _)) aq)) 18 2 [4,4,4,3,3,3,2,3] [0,1,2,3] none (fun n k f=>aB [(f 0).2.2 1])
def BM (w:Yc) (c:Obj) (f:Yd) (b d:Yb) (a:Str) (g:Nat) (p:af) (e:Ye):Yf:=[aW 1 (rawInt (e 0)) [.bool false,.ref (p 2 0),.int 2 0,.none,.str a g],am (.ref (p 3 0)) 2,ab b (p 3 1),ab d (p 4 1),c]
theorem KC (b c:Bool) (w:Yc) (j:Obj) (d:Yd) (e i:Yb) (a:Str) (h:Nat) (p:af) (k:e[1]? = some (.str a h)):aI (B0 (W b c w)) 3 (pyNext (.ref (p 1 0))) [(p 1 0,b8 (p 2 0) 1 d),(p 2 0,am (.ref (p 3 0)) 1),(p 3 0,ab e (p 3 1)),(p 4 0,ab i (p 4 1)),(p 8 0,j)] fun g=>((some (.ref (g 0))),BM w j d e i a h p g,[(g 0,az [.int 1 (g 1),.str a h] 0)]++[]):=by
 rw [nl]
 exact bt (enc:=kf) mW (orcs:=[cD 1 2 e 1 (.str a h)]) (aa (cT (by decide) k) aq) 29 1 [1,0,1,0,53,1,2,2,1,1,1,0,1,0,1,1,1,0,1,0,1,0] [0,1,2,3,4,5] none (fun n m f=>aB [(f 0).1+0,(f 0).2.1+0])
def BN (w:Yc) (f c:Yd) (vi h:Yd) (d e:Yb) (a:Str) (b:Nat) (p:af) (g:Ye):Yf:=[aW 1 .none [.bool false,.ref (p 2 0),.int 2 0,.none,.str a b],am (.ref (p 3 0)) 2,ab d (p 3 1),ab e (p 4 1),aG w [("paths",p 8 2,f),("split_paths",p 8 4,c),("isabs",p 8 6,.bool true),("s1",p 8 8,.ref (p 3 0)),("s2",p 8 10,.ref (p 4 0)),("common",p 8 12,.ref (p 3 0)),("i",p 8 14,.int 1 (p 14 2)),("c",p 8 16,.str a b)] (p 8 1),az [.int 1 (p 14 2),.str a b] 0]
theorem KD (b c:Bool) (w:Yc) (i e:Yd) (vi j:Yd) (g h:Yb) (a:Str) (d:Nat) (p:af):aI (B0 (W b c w)) 3 (assign (fT (dp w)) (iu w p) (.ref (p 14 0))) [(p 1 0,aW 1 .none [.bool false,.ref (p 2 0),.int 2 0,.none,.str a d]),(p 2 0,am (.ref (p 3 0)) 2),(p 3 0,ab g (p 3 1)),(p 4 0,ab h (p 4 1)),(p 8 0,aG w [("paths",p 8 2,i),("split_paths",p 8 4,e),("isabs",p 8 6,.bool true),("s1",p 8 8,.ref (p 3 0)),("s2",p 8 10,.ref (p 4 0)),("common",p 8 12,.ref (p 3 0)),("i",p 8 14,vi),("c",p 8 16,j)] (p 8 1)),(p 14 0,az [.int 1 (p 14 2),.str a d] 0)] fun k=>((),BN w i e vi j g h a d p k,[]++[]):=by
 rw [kw]
 exact bt (enc:=iU) kg (orcs:=[]) aq 63 0 [6,6,6,0,6,0,8,7,7,0,7,0,9,7,7,6,7,6,7,0,7,0,9,7,7,6,7,6,7,0,7,0,9,7,7,6,7,6,9,5,4,5,4] [0,1,2,3,4,5] none (fun n m f=>fun _=>0)
def BO (w:Yc) (h e:Yd) (f g:Yb) (a:Str) (c:Nat) (d:Str) (i:Nat) (p:af) (b:Ye):Yf:=[aW 1 .none [.bool false,.ref (p 2 0),.int 2 0,.none,.str a c],am (.ref (p 3 0)) 2,ab f (p 3 1),ab g (b 0),aG w [("paths",p 8 2,h),("split_paths",p 8 4,e),("isabs",p 8 6,.bool true),("s1",p 8 8,.ref (p 3 0)),("s2",p 8 10,.ref (p 4 0)),("common",p 8 12,.ref (b 1)),("i",p 8 14,.int 1 (p 14 2)),("c",p 8 16,.str a c)] (p 8 1)]
def BP (w:Yc) (h f:Yd) (b g:Yb) (a:Str) (i:Nat) (d:Str) (e:Nat) (p:af) (c:Ye):Ya:=[(c 1,ab (b.take 1) 0)]
theorem KF (b c:Bool) (w:Yc) (j k:Yd) (e g:Yb) (a:Str) (i:Nat) (d:Str) (h:Nat) (p:af) (q:g[(1:Int).toNat]? = some (.str d h)) (s:(a.cps.toList != d.cps.toList)=true) (o:e.length≤1000):aI (B0 (W b c w)) 3 (execs (fB (dp w)) (iu w p)) [(p 1 0,aW 1 .none [.bool false,.ref (p 2 0),.int 2 0,.none,.str a i]),(p 2 0,am (.ref (p 3 0)) 2),(p 3 0,ab e (p 3 1)),(p 4 0,ab g (p 4 1)),(p 8 0,aG w [("paths",p 8 2,j),("split_paths",p 8 4,k),("isabs",p 8 6,.bool true),("s1",p 8 8,.ref (p 3 0)),("s2",p 8 10,.ref (p 4 0)),("common",p 8 12,.ref (p 3 0)),("i",p 8 14,.int 1 (p 14 2)),("c",p 8 16,.str a i)] (p 8 1))] fun m=>(.brk,BO w j k e g a i d h p m,BP w j k e g a i d h p m++[]):=by
 rw [cH]
 exact bt (enc:=cc) cG (orcs:=[cN 3 g 1 (.str d h),o2 "str.__ne__" a d fun _=>.bool true,c7 2 5 (fun _=>e) none (some 1) (fun _=>e.take 1)]) (aa (cU (by decide) (by decide) q) (aa (aQ s) (aa (dB (by decide) (fun _=>o) (fun _=>BA e 1)) aq))) 38 3 [5,5,5,4,4,4,2,3,5,5,3,3,3,4,5,4] [0,1,2,3,4,6] none (fun n t f=>aB [(f 0).2.2 1,(f 2).2.2 0])
end
section
theorem KG (b c:Bool) (w:Yc) (x:Yd) (a:Yb) (d:a.length≤1) (p:af):aC (B0 (W b c w)) 4 (jz (dp w) (p 1 0) (p 8 0) [p 9 0,p 13 0]) [(p 1 0,b8 (p 2 0) 1 x),(p 2 0,am (.ref (p 3 0)) 1),(p 3 0,ab a (p 3 1))] (fun e=>(.next,[b8 (p 2 0) 1 x,am .none 1,ab a (p 3 1)],[])):=
 aA (orcs:=[fK 1 2 a 1]) (aa (iR (by decide) d) aq) 14 1 [1,0,1,0,53,1,2,2,4,0] [0,1,2] (fun _ _ _ _=>0) (hc:=aS (sO _ _ _ _))
theorem KH (b c:Bool) (w:Yc) (x:Yd) (a:Yb) (d:a.length≤2) (p:af):aC (B0 (W b c w)) 4 (jz (dp w) (p 1 0) (p 8 0) [p 9 0,p 13 0]) [(p 1 0,b8 (p 2 0) 2 x),(p 2 0,am (.ref (p 3 0)) 2),(p 3 0,ab a (p 3 1))] (fun e=>(.next,[b8 (p 2 0) 2 x,am .none 2,ab a (p 3 1)],[])):=
 aA (orcs:=[fK 1 2 a 2]) (aa (iR (by decide) d) aq) 14 1 [1,0,1,0,53,1,2,2,4,0] [0,1,2] (fun _ _ _ _=>0) (hc:=aS (sO _ _ _ _))
end
section
def fl (w:Yc) (p:af):Code:=jz (dp w) (p 1 0) (p 8 0) [p 9 0,p 13 0]
def pP (p:af) (n a b c d:Nat):af:=fun j i=>match j,i with
 | 14,0=>a
 | 14,2=>b
 | 8,1=>n
 | 8,14=>c
 | 8,16=>d
 | j,i=>p j i
def pW (p:af) (d c n a b:Nat):af:=fun j i=>match j,i with
 | 3,1=>d
 | 4,1=>c
 | 8,1=>n
 | 8,14=>a
 | 8,16=>b
 | j,i=>p j i
theorem pT (w:Yc) (p:af):fl w p = .forLoop (.Tuple (nb (fT (dp w))) (nm (fT (dp w))) (nq (fT (dp w)))) (.ref (p 1 0)) (fB (dp w)) [] (iu w p):=by
 unfold fl iu
 rw [vl (Ks w),Kt,←nC]
def ge (w:Yc) (p:af) (b a:Yd) (c:Nat) (n:Nat):Obj:=aG w [("paths",p 8 2,b),("split_paths",p 8 4,a),("isabs",p 8 6,.bool true),("s1",p 8 8,.ref (p 3 0)),("s2",p 8 10,.ref c),("common",p 8 12,.ref (p 3 0))] n
def dD (w:Yc) (p:af) (e a:Yd) (f b:Nat) (c d:Nat) (vi g:Yd) (n:Nat):Obj:=aG w [("paths",p 8 2,e),("split_paths",p 8 4,a),("isabs",p 8 6,.bool true),("s1",p 8 8,.ref (p 3 0)),("s2",p 8 10,.ref f),("common",p 8 12,.ref b),("i",c,vi),("c",d,g)] n
theorem BQ (b c:Bool) (w:Yc) (p:af) (k j h:Yd) (i:Yb) (a:Str) (g:Nat) (hx:i[0]? = some (.str a g)) :
  aL (B0 (W b c w)) 4 (fl w p) [(p 1 0,b8 (p 2 0) 0 h),(p 2 0,am (.ref (p 3 0)) 0),(p 3 0,ab i (p 3 1)),(p 8 0,(ge w p k j (p 3 0) (p 8 1)))] fun d=>(.error (fl w p),[b8 (p 2 0) 1 (.str a g),am (.ref (p 3 0)) 1,ab i ((od (od d)) 0),dD w p k j (p 3 0) (p 3 0) ((ev (od d)) 0) ((ev (od d)) 1) (.int 0 ((ev d) 1)) (.str a g) (p 8 1+1+1)],[]):=by
 rw [pT]
 have n:=fun (d:Ye)=>Kv b c w k j i a g (pP p (p 8 1) (d 0) (d 1) (p 8 14) (p 8 16))
 rw [nC] at n
 exact lz (bG (W b c w)) (e:=1) (rest:=[.bool false,.ref (p 2 0),.int 1 0,.none,.str a g]) (Z0:=b8 (p 2 0) 0 h) (T:=List.tail [(p 1 0,b8 (p 2 0) 0 h),(p 2 0,am (.ref (p 3 0)) 0),(p 3 0,ab i (p 3 1)),(p 8 0,(ge w p k j (p 3 0) (p 8 1)))])
  (o1:=fun d=>(BB w (ge w p k j (p 3 0) (p 8 1)) h i a g (pP p (p 8 1) 0 0 (p 8 14) (p 8 16)) d).tail) (V1:=fun d=>az [.int 0 (d 1),.str a g] 0)
  (o2:=fun d f=>(BC w k j i a g (pP p (p 8 1) (d 0) (d 1) (p 8 14) (p 8 16)) f).tail.dropLast) (V2:=fun d _=>az [.int 0 (d 1),.str a g] 0)
  (o3:=fun d f m=>(BD w k j i a g (pP p (p 8 1+1+1) (d 0) (d 1) (f 0) (f 1)) m).tail)
  (gU (by intro id a e;cases e)) (Ku b c w (ge w p k j (p 3 0) (p 8 1)) h i a g (pP p (p 8 1) 0 0 (p 8 14) (p 8 16)) hx) (fun _=>rfl)
  n (fun _ _=>rfl)
  (fun d f=>Kw b c w k j i a g (pP p (p 8 1+1+1) (d 0) (d 1) (f 0) (f 1)) hx) (fun _ _ _=>rfl) fun d=>rfl
theorem BR (b c:Bool) (w:Yc) (p:af) (m n i:Yd) (k j:Yb) (a:Str) (h:Nat) (d:Str) (o:Nat) (hx:k[0]? = some (.str a h)) (u:j[(0:Int).toNat]? = some (.str d o)) (t:(a.cps.toList != d.cps.toList)=false) :
  aL (B0 (W b c w)) 4 (fl w p) [(p 1 0,b8 (p 2 0) 0 i),(p 2 0,am (.ref (p 3 0)) 0),(p 3 0,ab k (p 3 1)),(p 4 0,ab j (p 4 1)),(p 8 0,(ge w p m n (p 4 0) (p 8 1)))] fun f=>(.error (fl w p),[b8 (p 2 0) 1 (.str a h),am (.ref (p 3 0)) 1,ab k (p 3 1),ab j ((od (od f)) 0),dD w p m n (p 4 0) (p 3 0) ((ev (od f)) 0) ((ev (od f)) 1) (.int 0 ((ev f) 1)) (.str a h) (p 8 1+1+1)],[]):=by
 rw [pT]
 have s:=fun (f:Ye)=>BF b c w m n k j a h (pP p (p 8 1) (f 0) (f 1) (p 8 14) (p 8 16))
 rw [nC] at s
 exact lz (bG (W b c w)) (e:=1) (rest:=[.bool false,.ref (p 2 0),.int 1 0,.none,.str a h]) (Z0:=b8 (p 2 0) 0 i) (T:=List.tail [(p 1 0,b8 (p 2 0) 0 i),(p 2 0,am (.ref (p 3 0)) 0),(p 3 0,ab k (p 3 1)),(p 4 0,ab j (p 4 1)),(p 8 0,(ge w p m n (p 4 0) (p 8 1)))])
  (o1:=fun f=>(wk w (ge w p m n (p 4 0) (p 8 1)) i k j a h (pP p (p 8 1) 0 0 (p 8 14) (p 8 16)) f).tail) (V1:=fun f=>az [.int 0 (f 1),.str a h] 0)
  (o2:=fun f g=>(wm w m n k j a h (pP p (p 8 1) (f 0) (f 1) (p 8 14) (p 8 16)) g).tail.dropLast) (V2:=fun f _=>az [.int 0 (f 1),.str a h] 0)
  (o3:=fun f g q=>(BG w m n k j a h d o (pP p (p 8 1+1+1) (f 0) (f 1) (g 0) (g 1)) q).tail)
  (gU (by intro id a e;cases e)) (BE b c w (ge w p m n (p 4 0) (p 8 1)) i k j a h (pP p (p 8 1) 0 0 (p 8 14) (p 8 16)) hx) (fun _=>rfl)
  s (fun _ _=>rfl)
  (fun f g=>Kx b c w m n k j a h d o (pP p (p 8 1+1+1) (f 0) (f 1) (g 0) (g 1)) u t) (fun _ _ _=>rfl) fun f=>rfl
theorem KI (b c:Bool) (w:Yc) (p:af) (m n k:Yd) (i j:Yb) (a:Str) (h:Nat) (d:Str) (q:Nat) (hx:i[0]? = some (.str a h)) (x:j[(0:Int).toNat]? = some (.str d q)) (u:(a.cps.toList != d.cps.toList)=true) (t:i.length≤1000) :
  aL (B0 (W b c w)) 4 (fl w p) [(p 1 0,b8 (p 2 0) 0 k),(p 2 0,am (.ref (p 3 0)) 0),(p 3 0,ab i (p 3 1)),(p 4 0,ab j (p 4 1)),(p 8 0,(ge w p m n (p 4 0) (p 8 1)))] fun f=>(.ok .next,[b8 (p 2 0) 1 (.str a h),am (.ref (p 3 0)) 1,ab i (p 3 1),ab j ((od (od f)) 0),dD w p m n (p 4 0) ((od (od f)) 1) ((ev (od f)) 0) ((ev (od f)) 1) (.int 0 ((ev f) 1)) (.str a h) (p 8 1+1+1)],[((od (od f)) 1,ab (i.take 0) 0)]):=by
 rw [pT]
 have s:=fun (f:Ye)=>BF b c w m n i j a h (pP p (p 8 1) (f 0) (f 1) (p 8 14) (p 8 16))
 rw [nC] at s
 exact By (bG (W b c w)) (e:=1) (rest:=[.bool false,.ref (p 2 0),.int 1 0,.none,.str a h]) (Z0:=b8 (p 2 0) 0 k) (T:=List.tail [(p 1 0,b8 (p 2 0) 0 k),(p 2 0,am (.ref (p 3 0)) 0),(p 3 0,ab i (p 3 1)),(p 4 0,ab j (p 4 1)),(p 8 0,(ge w p m n (p 4 0) (p 8 1)))])
  (o1:=fun f=>(wk w (ge w p m n (p 4 0) (p 8 1)) k i j a h (pP p (p 8 1) 0 0 (p 8 14) (p 8 16)) f).tail) (V1:=fun f=>az [.int 0 (f 1),.str a h] 0)
  (o2:=fun f g=>(wm w m n i j a h (pP p (p 8 1) (f 0) (f 1) (p 8 14) (p 8 16)) g).tail.dropLast) (V2:=fun f _=>az [.int 0 (f 1),.str a h] 0)
  (o3:=fun f g o=>(BH w m n i j a h d q (pP p (p 8 1+1+1) (f 0) (f 1) (g 0) (g 1)) o).tail) (N3:=fun f g o=>BI w m n i j a h d q (pP p (p 8 1+1+1) (f 0) (f 1) (g 0) (g 1)) o)
  (gU (by intro id a e;cases e)) (BE b c w (ge w p m n (p 4 0) (p 8 1)) k i j a h (pP p (p 8 1) 0 0 (p 8 14) (p 8 16)) hx) (fun _=>rfl)
  s (fun _ _=>rfl)
  (fun f g=>Ky b c w m n i j a h d q (pP p (p 8 1+1+1) (f 0) (f 1) (g 0) (g 1)) x u t) (fun _ _ _=>rfl) fun f=>rfl
theorem KJ (b c:Bool) (w:Yc) (p:af) (i j g:Yd) (vi m:Yd) (h:Yb) (a:Str) (f:Nat) (hx:h[1]? = some (.str a f)) :
  aL (B0 (W b c w)) 4 (fl w p) [(p 1 0,b8 (p 2 0) 1 g),(p 2 0,am (.ref (p 3 0)) 1),(p 3 0,ab h (p 3 1)),(p 8 0,(dD w p i j (p 3 0) (p 3 0) (p 8 14) (p 8 16) vi m (p 8 1)))] fun d=>(.error (fl w p),[b8 (p 2 0) 2 (.str a f),am (.ref (p 3 0)) 2,ab h ((od (od d)) 0),dD w p i j (p 3 0) (p 3 0) (p 8 14) (p 8 16) (.int 1 ((ev d) 1)) (.str a f) (p 8 1)],[]):=by
 rw [pT]
 have o:=fun (d:Ye)=>KA b c w i j vi m h a f (pP p (p 8 1) (d 0) (d 1) (p 8 14) (p 8 16))
 rw [nC] at o
 exact lz (bG (W b c w)) (e:=1) (rest:=[.bool false,.ref (p 2 0),.int 2 0,.none,.str a f]) (Z0:=b8 (p 2 0) 1 g) (T:=List.tail [(p 1 0,b8 (p 2 0) 1 g),(p 2 0,am (.ref (p 3 0)) 1),(p 3 0,ab h (p 3 1)),(p 8 0,(dD w p i j (p 3 0) (p 3 0) (p 8 14) (p 8 16) vi m (p 8 1)))])
  (o1:=fun d=>(BJ w (dD w p i j (p 3 0) (p 3 0) (p 8 14) (p 8 16) vi m (p 8 1)) g h a f (pP p (p 8 1) 0 0 (p 8 14) (p 8 16)) d).tail) (V1:=fun d=>az [.int 1 (d 1),.str a f] 0)
  (o2:=fun d k=>(BK w i j vi m h a f (pP p (p 8 1) (d 0) (d 1) (p 8 14) (p 8 16)) k).tail.dropLast) (V2:=fun d _=>az [.int 1 (d 1),.str a f] 0)
  (o3:=fun d k n=>(BL w i j h a f (pP p (p 8 1) (d 0) (d 1) (p 8 14) (p 8 16)) n).tail)
  (gU (by intro id a e;cases e)) (Kz b c w (dD w p i j (p 3 0) (p 3 0) (p 8 14) (p 8 16) vi m (p 8 1)) g h a f (pP p (p 8 1) 0 0 (p 8 14) (p 8 16)) hx) (fun _=>rfl)
  o (fun _ _=>rfl)
  (fun d k=>KB b c w i j h a f (pP p (p 8 1) (d 0) (d 1) (p 8 14) (p 8 16)) hx) (fun _ _ _=>rfl) fun d=>rfl
theorem KK (b c:Bool) (w:Yc) (p:af) (k m j:Yd) (vi q:Yd) (h i:Yb) (a:Str) (g:Nat) (d:Str) (s:Nat) (hx:h[1]? = some (.str a g)) (y:i[(1:Int).toNat]? = some (.str d s)) (x:(a.cps.toList != d.cps.toList)=true) (u:h.length≤1000) :
  aL (B0 (W b c w)) 4 (fl w p) [(p 1 0,b8 (p 2 0) 1 j),(p 2 0,am (.ref (p 3 0)) 1),(p 3 0,ab h (p 3 1)),(p 4 0,ab i (p 4 1)),(p 8 0,(dD w p k m (p 4 0) (p 3 0) (p 8 14) (p 8 16) vi q (p 8 1)))] fun f=>(.ok .next,[b8 (p 2 0) 2 (.str a g),am (.ref (p 3 0)) 2,ab h (p 3 1),ab i ((od (od f)) 0),dD w p k m (p 4 0) ((od (od f)) 1) (p 8 14) (p 8 16) (.int 1 ((ev f) 1)) (.str a g) (p 8 1)],[((od (od f)) 1,ab (h.take 1) 0)]):=by
 rw [pT]
 have t:=fun (f:Ye)=>KD b c w k m vi q h i a g (pP p (p 8 1) (f 0) (f 1) (p 8 14) (p 8 16))
 rw [nC] at t
 exact By (bG (W b c w)) (e:=1) (rest:=[.bool false,.ref (p 2 0),.int 2 0,.none,.str a g]) (Z0:=b8 (p 2 0) 1 j) (T:=List.tail [(p 1 0,b8 (p 2 0) 1 j),(p 2 0,am (.ref (p 3 0)) 1),(p 3 0,ab h (p 3 1)),(p 4 0,ab i (p 4 1)),(p 8 0,(dD w p k m (p 4 0) (p 3 0) (p 8 14) (p 8 16) vi q (p 8 1)))])
  (o1:=fun f=>(BM w (dD w p k m (p 4 0) (p 3 0) (p 8 14) (p 8 16) vi q (p 8 1)) j h i a g (pP p (p 8 1) 0 0 (p 8 14) (p 8 16)) f).tail) (V1:=fun f=>az [.int 1 (f 1),.str a g] 0)
  (o2:=fun f n=>(BN w k m vi q h i a g (pP p (p 8 1) (f 0) (f 1) (p 8 14) (p 8 16)) n).tail.dropLast) (V2:=fun f _=>az [.int 1 (f 1),.str a g] 0)
  (o3:=fun f n o=>(BO w k m h i a g d s (pP p (p 8 1) (f 0) (f 1) (p 8 14) (p 8 16)) o).tail) (N3:=fun f n o=>BP w k m h i a g d s (pP p (p 8 1) (f 0) (f 1) (p 8 14) (p 8 16)) o)
  (gU (by intro id a e;cases e)) (KC b c w (dD w p k m (p 4 0) (p 3 0) (p 8 14) (p 8 16) vi q (p 8 1)) j h i a g (pP p (p 8 1) 0 0 (p 8 14) (p 8 16)) hx) (fun _=>rfl)
  t (fun _ _=>rfl)
  (fun f n=>KF b c w k m h i a g d s (pP p (p 8 1) (f 0) (f 1) (p 8 14) (p 8 16)) y x u) (fun _ _ _=>rfl) fun f=>rfl
theorem aL.thenRe {B:bf} (O:B.Ok) {m:Nat} {c f:Code} {a:Ya} {o:Ye→Yf} {d:Ye→Ye→e4} (R:aL B m c a fun b=>(.error f,o b,[])) (g:∀b,(o b).length=a.length)
  (D:∀b,aL B m f ((a.map (·.1)).zip (o b)) (d b)):aL B m c a fun b=>d (ev b) (od b):=
 aL.andThen O R (fun _=>rfl) g D fun b e=>⟨lq b e,by simp only [vb,vc];rfl⟩
theorem wn (b c:Bool) (w:Yc) (p:af) (i:Nat) (d:i=1∨i=2) (x:Yd) (a:Yb) (e:a.length≤i) (F:Ya) :
  aL (B0 (W b c w)) 4 (fl w p) ([(p 1 0,b8 (p 2 0) (i:Nat) x),(p 2 0,am (.ref (p 3 0)) i),(p 3 0,ab a (p 3 1))]++F) fun _=>(.ok .next,[b8 (p 2 0) (i:Nat) x,am .none i,ab a (p 3 1)]++bH F,[]):=by
 refine aL.lift F (src:=[]) (k:=fun _=>.ok .next) (o:=fun _=>[b8 (p 2 0) (i:Nat) x,am .none i,ab a (p 3 1)]) (ads:=fun _=>[]) ?_ (fun _=>rfl) (fun _ h=>nomatch h) List.nodup_nil
 rcases d with rfl | rfl
 ·exact KG b c w x a e p
 ·exact KH b c w x a e p
end
section
def hg (p:af):af:=fun j i=>match j,i with | 8,i=>p 4 i | 9,_=>p 0 3 | 13,_=>p 0 4 | j,i=>p j i
def gO (p:af):af:=fun j i=>match j,i with | 8,i=>p 5 i | 9,_=>p 0 3 | 13,_=>p 0 4 | j,i=>p j i
def ndS (w:Yc) (a:Yg) (p:af):Ya:=[(p 1 0,b8 (p 2 0) 0 .none),(p 2 0,am (.ref (p 3 0)) 0),(p 3 0,ab (bc p 3 a 2) (p 3 1)),(p 4 0,ge w (hg p) (.ref (p 4 3)) (.ref (p 4 5)) (p 3 0) (p 4 1))]
def wo (w:Yc) (a b:Yg) (p:af):Ya:=[(p 1 0,b8 (p 2 0) 0 .none),(p 2 0,am (.ref (p 3 0)) 0),(p 3 0,ab (bc p 3 a 2) (p 3 1)),(p 4 0,ab (bc p 4 b 2) (p 4 1)),(p 5 0,ge w (gO p) (.ref (p 5 3)) (.ref (p 5 5)) (p 4 0) (p 5 1))]
def wq (w:Yc) (c:Yh) (a:Str):aH:=bA (fun p=>fl w (hg p)) c (ndS w [a]) fun p b=>
 (.next,[b8 (p 2 0) 1 (.str a (p 3 2)),am .none 1,ab (bc p 3 [a] 2) (b 0),dD w (hg p) (.ref (p 4 3)) (.ref (p 4 5)) (p 3 0) (p 3 0) (b 1) (b 2) (.int 0 (b 3)) (.str a (p 3 2)) (p 4 1+1+1)],[])
theorem BS {b c:Bool} {w:Yc} {m:Nat} {e:Yh} {a:Str} (f:e.Nodup) (g:4≤m):(wq w e a).Sure (B0 (W b c w)) m:=by
 refine (bS f fun p => ?_:aH.Sure (B0 (W b c w)) 4 _).le g
 refine aL.re (aL.thenRe (bG (W b c w)) (BQ b c w (hg p) (.ref (p 4 3)) (.ref (p 4 5)) .none (bc p 3 [a] 2) a (p 3 2) rfl) (fun _=>rfl) fun d=>
  wn b c w (pW (hg p) (od (od d) 0) 0 0 0 0) 1 (.inl rfl) (.str a (p 3 2)) (bc p 3 [a] 2) (Nat.le_refl _) [(p 4 0,dD w (hg p) (.ref (p 4 3)) (.ref (p 4 5)) (p 3 0) (p 3 0) (ev (od d) 0) (ev (od d) 1) (.int 0 (ev d 1)) (.str a (p 3 2)) (p 4 1+1+1))]) fun d=>⟨aB [od (od (ev d)) 0,ev (od (ev d)) 0,ev (od (ev d)) 1,ev (ev d) 1],rfl⟩
def wr (w:Yc) (c:Yh) (a d:Str):aH:=bA (fun p=>fl w (hg p)) c (ndS w [a,d]) fun p b=>
 (.next,[b8 (p 2 0) 2 (.str d (p 3 3)),am .none 2,ab (bc p 3 [a,d] 2) (b 0),dD w (hg p) (.ref (p 4 3)) (.ref (p 4 5)) (p 3 0) (p 3 0) (b 1) (b 2) (.int 1 (b 3)) (.str d (p 3 3)) (p 4 1+1+1)],[])
theorem BU {b c:Bool} {w:Yc} {m:Nat} {g:Yh} {a d:Str} (h:g.Nodup) (i:4≤m):(wr w g a d).Sure (B0 (W b c w)) m:=by
 refine (bS h fun p => ?_:aH.Sure (B0 (W b c w)) 4 _).le i
 refine aL.re (aL.thenRe (bG (W b c w)) (BQ b c w (hg p) (.ref (p 4 3)) (.ref (p 4 5)) .none (bc p 3 [a,d] 2) a (p 3 2) rfl) (fun _=>rfl) fun e=>
  aL.thenRe (bG (W b c w)) (KJ b c w (pW (hg p) (od (od e) 0) 0 (p 4 1+1+1) (ev (od e) 0) (ev (od e) 1)) (.ref (p 4 3)) (.ref (p 4 5)) (.str a (p 3 2)) (.int 0 (ev e 1)) (.str a (p 3 2)) (bc p 3 [a,d] 2) d (p 3 3) rfl) (fun _=>rfl) fun f=>
  wn b c w (pW (hg p) (od (od f) 0) 0 0 0 0) 2 (.inr rfl) (.str d (p 3 3)) (bc p 3 [a,d] 2) (Nat.le_refl _) [(p 4 0,dD w (hg p) (.ref (p 4 3)) (.ref (p 4 5)) (p 3 0) (p 3 0) (ev (od e) 0) (ev (od e) 1) (.int 1 (ev f 1)) (.str d (p 3 3)) (p 4 1+1+1))]) fun e=>⟨aB [od (od (ev (od e))) 0,ev (od (ev e)) 0,ev (od (ev e)) 1,ev (ev (od e)) 1],rfl⟩
def wt (w:Yc) (e:Yh) (a d:Str) (c:Yg):aH:=bA (fun p=>fl w (gO p)) e (wo w [a] (d::c)) fun p b=>
 (.next,[b8 (p 2 0) 1 (.str a (p 3 2)),am .none 1,ab (bc p 3 [a] 2) (p 3 1),ab (bc p 4 (d::c) 2) (b 0),dD w (gO p) (.ref (p 5 3)) (.ref (p 5 5)) (p 4 0) (p 3 0) (b 1) (b 2) (.int 0 (b 3)) (.str a (p 3 2)) (p 5 1+1+1)],[])
theorem BV {b c:Bool} {w:Yc} {m:Nat} {g:Yh} {a d:Str} {f:Yg} (h:g.Nodup) (i:(a.cps.toList != d.cps.toList)=false) (j:4≤m):(wt w g a d f).Sure (B0 (W b c w)) m:=by
 refine (bS h fun p => ?_:aH.Sure (B0 (W b c w)) 4 _).le j
 refine aL.re (aL.thenRe (bG (W b c w)) (BR b c w (gO p) (.ref (p 5 3)) (.ref (p 5 5)) .none (bc p 3 [a] 2) (bc p 4 (d::f) 2) a (p 3 2) d (p 4 2) rfl rfl i) (fun _=>rfl) fun e=>
  wn b c w (gO p) 1 (.inl rfl) (.str a (p 3 2)) (bc p 3 [a] 2) (Nat.le_refl _) [(p 4 0,ab (bc p 4 (d::f) 2) (od (od e) 0)),(p 5 0,dD w (gO p) (.ref (p 5 3)) (.ref (p 5 5)) (p 4 0) (p 3 0) (ev (od e) 0) (ev (od e) 1) (.int 0 (ev e 1)) (.str a (p 3 2)) (p 5 1+1+1))]) fun e=>⟨aB [od (od (ev e)) 0,ev (od (ev e)) 0,ev (od (ev e)) 1,ev (ev e) 1],rfl⟩
def jM (w:Yc) (f:Yh) (a d:Str) (c e:Yg):aH:=bA (fun p=>fl w (gO p)) f (wo w (a::c) (d::e)) fun p b=>
 (.next,[b8 (p 2 0) 1 (.str a (p 3 2)),am (.ref (p 3 0)) 1,ab (bc p 3 (a::c) 2) (p 3 1),ab (bc p 4 (d::e) 2) (b 0),dD w (gO p) (.ref (p 5 3)) (.ref (p 5 5)) (p 4 0) (b 4) (b 1) (b 2) (.int 0 (b 3)) (.str a (p 3 2)) (p 5 1+1+1)],[(b 4,ab [] 0)])
theorem kK {b c:Bool} {w:Yc} {m:Nat} {h:Yh} {a d:Str} {f g:Yg} (i:h.Nodup) (j:(a.cps.toList != d.cps.toList)=true) (n:f.length≤500) (k:4≤m):(jM w h a d f g).Sure (B0 (W b c w)) m:=by
 refine (bS i fun p => ?_:aH.Sure (B0 (W b c w)) 4 _).le k
 exact aL.re (KI b c w (gO p) (.ref (p 5 3)) (.ref (p 5 5)) .none (bc p 3 (a::f) 2) (bc p 4 (d::g) 2) a (p 3 2) d (p 4 2) rfl rfl j (by rw [uT,List.length_cons];lia)) fun e=>⟨aB [od (od e) 0,ev (od e) 0,ev (od e) 1,ev e 1,od (od e) 1],rfl⟩
def wu (w:Yc) (f:Yh) (a c d e:Str):aH:=bA (fun p=>fl w (gO p)) f (wo w [a,c] [d,e]) fun p b=>
 (.next,[b8 (p 2 0) 2 (.str c (p 3 3)),am (.ref (p 3 0)) 2,ab (bc p 3 [a,c] 2) (p 3 1),ab (bc p 4 [d,e] 2) (b 0),dD w (gO p) (.ref (p 5 3)) (.ref (p 5 5)) (p 4 0) (b 4) (b 1) (b 2) (.int 1 (b 3)) (.str c (p 3 3)) (p 5 1+1+1)],[(b 4,ab [.str a (p 3 2)] 0)])
theorem BW {b c:Bool} {w:Yc} {m:Nat} {i:Yh} {a f d g:Str} (j:i.Nodup) (k:(a.cps.toList != d.cps.toList)=false) (h:(f.cps.toList != g.cps.toList)=true) (n:4≤m):(wu w i a f d g).Sure (B0 (W b c w)) m:=by
 refine (bS j fun p => ?_:aH.Sure (B0 (W b c w)) 4 _).le n
 refine aL.re (aL.thenRe (bG (W b c w)) (BR b c w (gO p) (.ref (p 5 3)) (.ref (p 5 5)) .none (bc p 3 [a,f] 2) (bc p 4 [d,g] 2) a (p 3 2) d (p 4 2) rfl rfl k) (fun _=>rfl) fun e=>
  KK b c w (pW (gO p) (p 3 1) (od (od e) 0) (p 5 1+1+1) (ev (od e) 0) (ev (od e) 1)) (.ref (p 5 3)) (.ref (p 5 5)) (.str a (p 3 2)) (.int 0 (ev e 1)) (.str a (p 3 2)) (bc p 3 [a,f] 2) (bc p 4 [d,g] 2) f (p 3 3) g (p 4 3) rfl rfl h (by rw [uT];show 2≤1000;lia)) fun e=>⟨aB [od (od (od e)) 0,ev (od (ev e)) 0,ev (od (ev e)) 1,ev (od e) 1,od (od (od e)) 1],rfl⟩
end
theorem bP:∀a∈aD,(a.cps.toList != ("." : Str).cps.toList)=true:=by decide +kernel
theorem jN:∀a:Yg,aP a a=false
 | []=>rfl
 | x::a=>by
  show (if x==x then aP a a else _)=false
  rw [beq_self_eq_true,if_pos rfl]
  exact jN a
theorem KL:∀a∈aD,Txt.startswith ("/" ++ a) "/" = true:=by decide +kernel
theorem KM:∀a∈aD,∀d∈aD,Txt.startswith ("/" ++ a++("/" ++ d)) "/" = true:=by decide +kernel
theorem cJ (r:Yg) (h:cE r):Txt.startswith (aU r) "/" = true:=by
 rcases h with ⟨a,b,rfl⟩ | ⟨a,b,d,c,rfl⟩
 ·exact KL a b
 ·exact KM a b d c
theorem KN {B:bf} (O:B.Ok) {m:Nat} {c:Code} {g:Ya} {s:Ye→e4} {k:List aH} (hs:∀o∈k,o.Sure B m) (t:fX c)
  (u L:Nat) (y J:Yh) (I:Nat→Nat→List Oc→Nat→Nat) (T:J.Nodup) (hz:∀a,(s a).2.1.length=g.length)
  (E:∀n C j,j.length=L→(d7 (B.sv k) u y j [] (.code c) (B.den c) g n C []).map (kX J) =
   some (nP (s (I n C j)).1,((g.map (·.1)).zip (s (I n C j)).2.1++(s (I n C j)).2.2).map some,(kY (d7 (B.sv k) u y j [] (.code c) (B.den c) g n C [])).map Ob.r)):aL B (m+1) c g s:=by
 intro A hA h C V d U R Q X S hR
 have G:gg (B.sv k) ⟨h,g.map (·.1),A,R,V,d,U⟩:=tQ O hA hs rfl S.2
 have D:dr (B.sv k) ⟨h,g.map (·.1),A,R,V,d,U⟩ h g h.objs.size:=⟨rfl,fun p F=>(X p F).1,fun p F=>(X p F).2,Q,S.1,fun _ _ e _=>e,fun p F=>.inl (List.mem_map_of_mem (f:=(·.1)) F),Nat.le_refl _⟩
 have z:=tP G u L y [] (.code c) (B.den c) g h.objs.size C [] h (fun j hl=>by
  obtain ⟨o,e,ok,Z,ev⟩:=w1 (E h.objs.size C j hl)
  refine ⟨o,e,ok,fun Y H => ?_⟩
  have P:=hR Y o.tk (I h.objs.size C j) (by rw [H.size];exact H.grow) (fun b ob q hb=>H.keep b ob q hb) (fun x hx => ?_) (fun p F => ?_) ?_
  ·rw [Z]
   revert P
   cases (s (I h.objs.size C j)).1 with
   | ok f=>exact id
   | error c'=>exact id
  ·obtain ⟨i,_,w⟩:=jb ev x (List.mem_append_left _ hx)
   exact H.own x (dn w)
  ·obtain ⟨i,hi,w⟩:=jb ev p (List.mem_append_right _ F)
   refine ⟨H.own p (dn w),?_⟩
   rcases H.new p (dn w) with v | v
   ·exfalso
    have K:=lQ H.nd T ev
    rw [List.map_append,List.map_fst_zip (by rw [hz,List.length_map];exact Nat.le_refl _)] at K
    exact (List.nodup_append.mp K).2.2 p.1 v p.1 (List.mem_map_of_mem F) rfl
   ·exact v
  ·have K:=lQ H.nd T ev
   rw [List.map_append] at K
   exact (List.nodup_append.mp K).2.1) t (by show 1≤45;decide) D
 exact codeAny_of_tree (wpAny_mono (O.den▸z) (fun N s' q=>by cases N <;> exact q) fun _ _ q=>q)
theorem KO {b c:Bool} {w:Yc} {m:Nat} {s:Code} {d:Ya} {i:Ye→e4} {orcs:List aH} (A:∀o∈orcs,o.Sure (B0 (W b c w)) m) (u:fX s)
  (h L:Nat) (j p:Yh) (q:Nat→Nat→(Nat→Oc)→Nat→Nat) (x:p.Nodup) (z:∀a,(i a).2.1.length=d.length)
  (E:∀n k f,(gw b c w orcs h j L f s d n k).map (kX p) =
   some (nP (i (q n k f)).1,((d.map (·.1)).zip (i (q n k f)).2.1++(i (q n k f)).2.2).map some,(kY (gw b c w orcs h j L f s d n k)).map Ob.r)):aL (B0 (W b c w)) (m+1) s d i:=by
 have t:∀g:List Oc,∃f,g=li g.length f:=sw
 refine KN (bG _) A u h L j p (fun n k g=>q n k (Classical.choose (t g))) x z fun n k g y => ?_
 have e:=Classical.choose_spec (t g)
 have:=E n k (Classical.choose (t g))
 unfold gw at this
 rw [←y,←e] at this
 exact this
def gP (a:Nat):Obj:={cls:=.type "map",data:=.fields #[.ref a,.ref 208]}
section
def KP:Yd→Sem Yd:=PySem.W.Fast.tw8711993805878244202
theorem KQ:@pyIter=KP:=PySem.W.Fast.te8711993805878244202
end
section
def BX:Yh:=[1,0,1,0,35,1,2,3,0,3,0,24,3,3,4,3,2,1,2,5,4,5,0,34,1,0,1,0,35,1,2,3,0,3,0,24,3,3,4,3,2,1,3,5,4,5,0,34,1,0,1,0,35,1,2,3,0,3,0,24,3,3,4,3,2,7]
def BY (w:Yc) (x y:Str) (p:af):Code:=.builtin "list.extend.loop" ⟨[.ref (p 5 0),.ref (p 1 0),.ref (p 5 0)],[]⟩
def tp (w:Yc) (x y:Str) (p:af):Ya:=[(p 1 0,gP (p 2 0)),(p 2 0,az [.ref (p 3 0)] 0),(p 3 0,am (.ref (p 4 0)) 0),(p 4 0,ab [.str x (p 4 2),.str y (p 4 3)] (p 4 1)),(p 5 0,ab [] 2)]
def tq (w:Yc) (x y:Str) (p:af) (a:Ye):Flow×Yf×Ya:=(.ret (.ref (p 5 0)),[gP (p 2 0),az [.ref (p 3 0)] 0,am .none 2,ab [.str x (p 4 2),.str y (p 4 3)] (p 4 1),ab [.str x (p 4 2),.str y (p 4 3)] 4],[])
def BZ (w:Yc) (x y:Str) (p:af):List aH:=[ec [] x,ec [] y]
def B4 (b c:Bool) (w:Yc) (x y:Str) (p:af) (n a:Nat) (f:Nat→Oc):Option c1:=gw b c w (BZ w x y p) 73 BX 2 f (BY w x y p) (tp w x y p) n a
theorem KR (b c:Bool) (w:Yc) (x y:Str) (p:af) (n a:Nat) (f:Nat→Oc):(B4 b c w x y p n a f).map (kX [0,1,2,3,4]) =
  some (nP (lP (tq w x y p ((fun _ _ _ _=>0) n a f))).1,(((tp w x y p).map (·.1)).zip (lP (tq w x y p ((fun _ _ _ _=>0) n a f))).2.1++(lP (tq w x y p ((fun _ _ _ _=>0) n a f))).2.2).map some,(kY (B4 b c w x y p n a f)).map Ob.r):=by
 kernel_rfl
theorem KS (b c:Bool) (w:Yc) (x y:Str) (p:af):aC (B0 (W b c w)) 4 (BY w x y p) (tp w x y p) (tq w x y p):=
 KO (orcs:=BZ w x y p) (aa (eO [] (by decide) x (by decide)) (aa (eO [] (by decide) y (by decide)) aq)) (wW (by decide +kernel) _) 73 2 BX [0,1,2,3,4] (fun _ _ _ _=>0) (by decide) (fun _=>rfl) fun n a f=>KR b c w x y p n a f
def tr (w:Yc) (p:af):Ya:=[(p 1 0,gP (p 2 0))]
theorem KU (b c:Bool) (w:Yc) (p:af):aI (B0 (W b c w)) 4 (pyIter (.ref (p 1 0))) (tr w p) fun d=>((.ref (p 1 0)),[gP (p 2 0)],[]++[]):=by
 rw [KQ]
 exact bt (enc:=dy) eN (orcs:=[]) aq 11 0 [1,1,0,1,0,33,1] [0] none (fun n a f=>fun _=>0)
end
theorem KV:typeLookup (.type "map") "__len__" = pure none:=by rw [typeLookup_type,builtinLookup_eq_fast];kernel_rfl
theorem KW:typeLookup (.type "map") "__length_hint__" = pure none:=by rw [typeLookup_type,builtinLookup_eq_fast];kernel_rfl
section
def dw (pl:Yh) (x y:Str):aH:=
 {code:=fun p=>.builtin "proto.collect" ⟨[.ref (p 1 0)],[]⟩,pl,objs:=fun p=>[(p 1 0,gP (p 2 0)),(p 2 0,az [.ref (p 3 0)] 0),(p 3 0,am (.ref (p 4 0)) 0),(p 4 0,ab [.str x (p 4 2),.str y (p 4 3)] (p 4 1))],strm:=true,
  out:=fun p a=>(.ret (.ref (a 0)),[gP (p 2 0),az [.ref (p 3 0)] 0,am .none 2,ab [.str x (p 4 2),.str y (p 4 3)] (p 4 1)],[(a 0,ab [.str x (p 4 2),.str y (p 4 3)] 4)])}
theorem fm {b c:Bool} {w:Yc} {m:Nat} {pl:Yh} {x y:Str} (np:pl.Nodup) (X:5≤m):(dw pl x y).Sure (B0 (W b c w)) m:=by
 refine aH.Sure.le (m:=5) ⟨np,fun p A P h tk J d N g l' k Q E nd hn V hR => ?_⟩ X
 have O:=bG (W b c w)
 have n1:=hn _ (.head _)
 have h1:h.get? (p 1 0)=some (gP (p 2 0)):=n1.1
 have l0:∀q∈(dw pl x y).objs p,q.1<h.objs.size:=fun q hq=>iq (hn q hq).1
 refine x_call (hd:=none) ?_ (by intro e;cases e)
 refine codeAny_builtin F.entry_proto_collect ?_
 rw [Around.under_plainId F.plain_proto_collect _]
 have hA1:Lv 4 A.in1:=⟨P.1,by have:=P.2.1;show A.depth+48*4≤900;lia,by have:=P.2.2;show A.units+1+256*4≤9000;lia⟩
 show wpAny _ A.in1 (newList [] >>= fun l=>again (.builtin "list.__iadd__" ⟨[l,.ref (p 1 0)],[]⟩)) _ _ _
 refine wpAny_bind (wpAny_newObj_type ?_)
 refine wpAny_pure ⟨plainId_quiet F.plain_list_iadd _,codeAny_builtin F.entry_list_iadd ?_⟩
 rw [Around.under_plainId F.plain_list_iadd _]
 have s:∀c o,h.get? c=some o→(h.push {cls:=.type "list",data:=.seq ([]:Yb).toArray}).get? c=some o:=fun c o e=>Heap.get?_push_of_some _ e
 have hS:(h.push {cls:=.type "list",data:=.seq ([]:Yb).toArray}).get? h.objs.size=some {cls:=.type "list",data:=.seq #[] 0}:=Heap.get?_push_size _ rfl
 have G:h.objs.size≤(h.push {cls:=.type "list",data:=.seq ([]:Yb).toArray}).objs.size:=by rw [Heap.size_push];exact Nat.le_succ _
 show wpAny _ A.in1 (Builtin.List.listExtendWith (.ref h.objs.size) (.ref (p 1 0)) (.ref h.objs.size)) _ _ ⟨h.push {cls:=.type "list",data:=.seq ([]:Yb).toArray},J,d,tk,N⟩
 generalize (h.push {cls:=.type "list",data:=.seq ([]:Yb).toArray})=H1 at s hS G ⊢
 have hI1:(B0 (W b c w)).In H1:=⟨fun n o e=>s _ _ (V.1 n o e),Nat.le_trans V.2 G⟩
 unfold Builtin.List.listExtendWith
 have hT:Shared.TypeIs ⟨H1,J,d,tk,N⟩ (.ref (p 1 0)) "map" := ⟨_,s _ _ h1,rfl⟩
 refine wpAny_bind (wpAny_typeOf hT ?_)
 have hSI:h.objs.size≠p 1 0:=Nat.ne_of_gt (l0 _ (.head _))
 have e1:Builtin.List.listSameRef (.ref h.objs.size) (.ref (p 1 0))=false:=by simp [Builtin.List.listSameRef,hSI]
 have e2:(Value.type "map" == Value.type "list")=false:=by decide
 have e3:(Value.type "map" == Value.type "tuple")=false:=by decide
 simp only [e1,e2,e3,Bool.or_false,Bool.false_eq_true,if_false]
 refine wpAny_bind ((KU b c w p).go A.in1 hA1 H1 tk J d N _ _ (by simp [tr]) (fun q hq => ?_) hI1 fun t C ax le2 kp2 hp2 _ _ => ?_)
 ·have:q=(p 1 0,gP (p 2 0)):=by simpa [tr] using hq
  rw [this];exact ⟨s _ _ h1,n1.2⟩
 have g2:t.get? (p 1 0)=some (gP (p 2 0)):=hp2 (p 1 0,gP (p 2 0)) (.head _)
 have D:∀c o,H1.get? c=some o→t.get? c=some o:=fun c' o e=>by
  by_cases e0:c'=p 1 0
  ·subst e0
   rw [s _ _ h1] at e
   rw [g2];exact e
  ·exact kp2 c' o e fun X=>e0 (by simpa [tr] using X)
 show wpAny _ A.in1 (holding [.ref (p 1 0)] (Builtin.List.listLengthHint (.ref (p 1 0))) >>= _) _ _ ⟨t,J,d,C,N⟩
 have U:Shared.TypeIs ⟨t,J,d,C,N⟩ (.ref (p 1 0)) "map" := ⟨_,g2,rfl⟩
 refine wpAny_bind (wpAny_holding ?_)
 unfold Builtin.List.listLengthHint
 refine wpAny_bind (wpAny_specialOf U KV ?_)
 show wpAny _ A.in1 (specialOf (Value.ref (p 1 0)) (Str.ofString "__length_hint__") >>= _) _ _ _
 refine wpAny_bind (wpAny_specialOf U KW ?_)
 refine wpAny_pure ?_
 show wpAny _ A.in1 (rule "list.extend.makes-room" >>= fun _=>Builtin.List.listTouch (.ref h.objs.size) >>= fun _=>
  again (.builtin "list.extend.loop" ⟨[.ref h.objs.size,.ref (p 1 0),.ref h.objs.size],[]⟩)) _ _ _
 refine wpAny_bind (wpAny_rule ?_)
 have Y:t.get? h.objs.size=some {cls:=.type "list",data:=.seq #[] 0}:=D _ _ hS
 refine wpAny_bind ?_
 show wpAny _ A.in1 (updateSeq h.objs.size (·.push .none) >>= fun _=>updateSeq h.objs.size (·.pop)) _ _ _
 refine wpAny_bind (wpAny_updateSeq Y rfl ?_)
 have u:=Heap.get?_update_self (Obj.mapSeq (·.push Value.none)) Y rfl
 refine wpAny_updateSeq u rfl ?_
 have I:=Heap.get?_update_self (Obj.mapSeq (·.pop)) u rfl
 have S:∀n o,n≠h.objs.size→t.get? n=some o→((t.update h.objs.size (Obj.mapSeq (·.push Value.none))).update h.objs.size (Obj.mapSeq (·.pop))).get? n=some o:=
  fun n o hb e=>(Heap.get?_update_other _ _ (Ne.symm hb)).trans ((Heap.get?_update_other _ _ (Ne.symm hb)).trans e)
 have T:((t.update h.objs.size (Obj.mapSeq (·.push Value.none))).update h.objs.size (Obj.mapSeq (·.pop))).objs.size=t.objs.size:=by
  rw [(Heap.SameBut.update _ _ _).1,(Heap.SameBut.update _ _ _).1]
 refine wpAny_pure ⟨plainId_quiet F.plain_extend_loop _,?_⟩
 show codeAny _ _ _ _ ⟨(t.update h.objs.size (Obj.mapSeq (·.push Value.none))).update h.objs.size (Obj.mapSeq (·.pop)),J,d,C,N⟩
 have Z:((t.update h.objs.size (Obj.mapSeq (·.push Value.none))).update h.objs.size (Obj.mapSeq (·.pop))).get? h.objs.size=some (ab [] 2):=I
 generalize ((t.update h.objs.size (Obj.mapSeq (·.push Value.none))).update h.objs.size (Obj.mapSeq (·.pop)))=H3 at S T Z ⊢
 have K:∀c o,h.get? c=some o→H3.get? c=some o:=fun c' o e=>S _ _ (Nat.ne_of_lt (iq e)) (D _ _ (s _ _ e))
 have R:h.objs.size≤H3.objs.size:=by rw [T];exact Nat.le_trans G le2
 let q:af:=fun j i=>match j,i with | 5,_=>h.objs.size | j,i=>p j i
 have key:=KS b c w x y q
 have nd':((tp w x y q).map (·.1)).Nodup:=by
  show ([p 1 0,p 2 0,p 3 0,p 4 0]++[h.objs.size]).Nodup
  refine List.nodup_append.mpr ⟨nd,by simp,fun a ha n L => ?_⟩
  have:n=h.objs.size:=by simpa using L
  rw [this]
  have ha':a∈((dw pl x y).objs p).map (·.1):=ha
  obtain ⟨z,H,rfl⟩:=List.mem_map.mp ha'
  exact Nat.ne_of_lt (l0 z H)
 refine key A ⟨P.1,by have:=P.2.1;lia,by have:=P.2.2;lia⟩ H3 C J d N _ nd' (fun z H => ?_) ⟨fun n o e=>K _ _ (V.1 n o e),Nat.le_trans V.2 R⟩ fun h' tk' ax2 le' kp' hp' ha' _ => ?_
 ·have f:z∈(dw pl x y).objs p++[(h.objs.size,ab [] 2)]:=H
  rcases List.mem_append.mp f with f | f
  ·exact ⟨K _ _ (hn z f).1,(hn z f).2⟩
  ·have:z=(h.objs.size,ab [] 2):=by simpa using f
   rw [this];exact ⟨Z,V.2⟩
 ·have hp5:∀z∈[(p 1 0,gP (p 2 0)),(p 2 0,az [.ref (p 3 0)] 0),(p 3 0,am .none 2),(p 4 0,ab [.str x (p 4 2),.str y (p 4 3)] (p 4 1)),(h.objs.size,ab [.str x (p 4 2),.str y (p 4 3)] 4)],h'.get? z.1=some z.2:=hp'
  refine hR h' tk' (fun _=>h.objs.size) (fun e=>by cases e) (Nat.le_trans R le') (fun n ob e L=>kp' n ob (K _ _ e) fun X => ?_) (fun z H => ?_) (fun z H => ?_) (by simp [dw])
  ·have B:n∈[p 1 0,p 2 0,p 3 0,p 4 0]++[h.objs.size]:=X
   rcases List.mem_append.mp B with B | B
   ·exact L B
   ·have:n=h.objs.size:=by simpa using B
    exact absurd (iq e) (by rw [this];exact Nat.lt_irrefl _)
  ·have f:z∈[(p 1 0,gP (p 2 0)),(p 2 0,az [.ref (p 3 0)] 0),(p 3 0,am .none 2),(p 4 0,ab [.str x (p 4 2),.str y (p 4 3)] (p 4 1))]:=H
   exact hp5 z (by
    have:z∈[(p 1 0,gP (p 2 0)),(p 2 0,az [.ref (p 3 0)] 0),(p 3 0,am .none 2),(p 4 0,ab [.str x (p 4 2),.str y (p 4 3)] (p 4 1))]++[(h.objs.size,ab [.str x (p 4 2),.str y (p 4 3)] 4)]:=List.mem_append_left _ f
    exact this)
  ·have:z=(h.objs.size,ab [.str x (p 4 2),.str y (p 4 3)] 4):=by simpa [dw] using H
   subst this
   exact ⟨hp5 _ (.tail _ (.tail _ (.tail _ (.tail _ (.head _))))),Nat.le_refl _⟩
end
section
open AutoSeq1 (wpAny_loadPart')
def dU (l:Bool):Obj:={cls:=.type "set",data:=.set #[(1,.bool true)] 1 {mask:=7,place:=#[1],dummies:=#[],finger:=0,led:=l,moves:=0,plain:=true}}
def sL (w:Yc):Bool := !w.params.followText "set-order"
def df (f i:Int) (s:Yd):Obj:={cls:=.type "set_iterator",data:=.fields #[.int f 0,.int i 0,s,.int 1 0,.int 1 0]}
theorem B5 {α : Type} (next:Ye) (x : α):pickOrder next #[x] = #[x]:=by
 unfold pickOrder
 show pickOrder.go next 1 0 [x] #[] = #[x]
 unfold pickOrder.go
 simp [Nat.mod_one,pickOrder.go]
theorem KX:entryFor table "set.__iter__" = some Builtin.«frozenset.__iter__» := entryFor_alias (id':="frozenset.__iter__") (by kernel_rfl) rfl (by decide +kernel) (by kernel_rfl)
theorem B6:Slot "set_iterator" "__next__" "set_iterator.__next__" :=
 .of (owner:="set_iterator") (n:="__next__") (by rw [typeLookup_type,builtinLookup_eq_fast];kernel_rfl) (by decide +kernel) (by decide +kernel) (by decide +kernel)
  (by first | exact .inl (by decide +kernel) | exact .inr (by decide +kernel)) (by rw [isSubtype_type];kernel_rfl)
theorem B7:entryFor table "set_iterator.__next__" = some Builtin.«set_iterator.__next__» := entryFor_of_tree (by kernel_rfl)
theorem B8 (a:Yd):argsOk "set_iterator.__next__" ⟨[a],[]⟩:=by unfold argsOk;kernel_rfl
section
variable {prog:Program} {w:Yc} {A:Around} {E:Yd→Shared→Prop} {Q:Yd→Shared→Prop}
theorem KY {h:Heap} {c:Nat} {f:Array GenState} {d:Drawn} {g:OsState} {a:Addr} {l:Bool} (b:h.get? a=some (dU l)) (i:Q (.ref h.objs.size) ⟨h.push (df 0 0 (.ref a)),f,d,c,g⟩) :
  wpAny (model prog w) A (call (.builtin "set.__iter__") [.ref a]) Q E ⟨h,f,d,c,g⟩:=by
 refine wpAny_call_entry F.slot_set_iter ⟨_,b,rfl⟩ KX ?_ (F.args_set_iter_1 _)
 unfold Builtin.«frozenset.__iter__»
 unfold dU at b
 wp_walk using wpAny_loadPart' b
 refine wpAny_askSetting (wpAny_pure (wpAny_pure ?_))
 have e:∀t:Bool,(!t&&false)=false:=by decide
 refine (show ∀z:Bool,z=false→wpAny (model prog w) A.in1 (if z=true then _ else _) _ _ _ from fun z j => ?_) _ (e _)
 subst j
 rw [if_neg (by decide)]
 refine wpAny_bind (wpAny_pure ?_)
 wp_walk using wpAny_loadPart' b
 exact ⟨_,rfl,i⟩
def sF (w:Yc):Int:=match w.params.followText "set-order" with
 | true=>0
 | false=>2
theorem B9 {h:Heap} {i a:Addr} {f g:Int} (j:h.get? i=some (df f 0 (.ref a))):∀b,b=(h.update i (Obj.mapFields fun x=>x.setIfInBounds 0 (.int g 0))).update i (Obj.mapFields fun x=>x.setIfInBounds 1 (rawInt (0+1)))→Heap.SameBut i h b∧b.get? i=some (df g 1 (.ref a)):=by
 intro b e
 subst e
 have d:=Heap.get?_update_self (Obj.mapFields fun x=>x.setIfInBounds 0 (.int g 0)) j rfl
 have c:=Heap.get?_update_self (Obj.mapFields fun x=>x.setIfInBounds 1 (rawInt (0+1))) d rfl
 refine ⟨(Heap.SameBut.update ..).trans (Heap.SameBut.update ..),c.trans ?_⟩
 simp [df,Obj.mapFields,rawInt]
theorem KZ {h:Heap} {p:Nat} {s:Array GenState} {d:Drawn} {q:OsState} {i a:Addr} (b:h.get? i=some (df 0 0 (.ref a))) (c:h.get? a=some (dU (sL w)))
  (j:∀k,Heap.SameBut i h k→k.get? i=some (df (sF w) 1 (.ref a))→Q (.bool true) ⟨k,s,d,p,q⟩) :
  wpAny (model prog w) A (call (.builtin "set_iterator.__next__") [.ref i]) Q E ⟨h,s,d,p,q⟩:=by
 have f:=b
 refine wpAny_call_entry B6 ⟨_,b,rfl⟩ B7 ?_ (B8 _)
 unfold Builtin.«set_iterator.__next__»
 cases e:w.params.followText "set-order" with
 | false=>
  have n:sL w=true:=by unfold sL;rw [e];rfl
  rw [n] at c
  unfold dU at c
  unfold df at b
  wp_walk using wpAny_loadPart' c,wpAny_loadPart' b
  refine wpAny_askSetting (wpAny_pure ?_)
  have o:sF w=2:=by unfold sF;rw [e]
  rw [o] at j
  rw [show (⟨(model prog w).prog,(model prog w).w.params⟩:Setting).params.followText "set-order" = false from e,if_neg (by decide)]
  show wpAny _ _ (if _=true then _ else _) _ _ _
  rw [if_neg (by decide)]
  wp_walk using wpAny_loadPart' c,wpAny_loadPart' b
  obtain ⟨q1,q2⟩:=B9 (g:=2) f _ rfl
  exact ⟨_,rfl,j _ q1 q2⟩
 | true=>
  have n:sL w=false:=by unfold sL;rw [e];rfl
  rw [n] at c
  unfold dU at c
  unfold df at b
  wp_walk using wpAny_loadPart' c,wpAny_loadPart' b
  refine wpAny_askSetting (wpAny_pure ?_)
  have o:sF w=0:=by unfold sF;rw [e]
  rw [o] at j
  rw [show (⟨(model prog w).prog,(model prog w).w.params⟩:Setting).params.followText "set-order" = true from e,if_pos rfl]
  wp_walk using wpAny_loadPart' c,wpAny_loadPart' b
  refine wpAny_askSetting (wpAny_pure ?_)
  rw [show (⟨(model prog w).prog,(model prog w).w.params⟩:Setting).params.followText "set-order" = true from e,if_pos rfl]
  refine wpAny_bind (wpAny_askSetting (wpAny_pure ?_))
  rw [B5]
  refine wpAny_pure ?_
  wp_walk using wpAny_loadPart' c,wpAny_loadPart' b
  obtain ⟨q1,q2⟩:=B9 (g:=0) f _ rfl
  exact ⟨_,rfl,j _ q1 q2⟩
theorem K0 {h:Heap} {b:Nat} {j:Array GenState} {d:Drawn} {g:OsState} {i:Addr} {f:Int} {p:Yd} {k:Fin→Shared→Prop} (q:A.handled=none) (s:h.get? i=some (df f 1 p))
  (n:∀c,c=((h.update i (Obj.mapFields (·.setIfInBounds 2 .none))).push {cls:=.type "tuple",data:=.seq ([]:Yb).toArray}).push (ke h.objs.size)→E (.ref (h.objs.size+1)) ⟨c,j,d,b,g⟩) :
  wpAny (model prog w) A (do setField (.ref i) 2 .none;let e ←newExc (.type "StopIteration") [];(raiseNew e:Sem Fin)) k E ⟨h,j,d,b,g⟩:=by
 refine wpAny_bind (wpAny_setField s rfl (by simp [df]) ?_)
 have t:(h.update i (Obj.mapFields (·.setIfInBounds 2 .none))).objs.size=h.objs.size:=(Heap.SameBut.update ..).1
 refine wpAny_bind ?_
 simp only [newExc,newTuple]
 refine wpAny_bind (wpAny_newObj_type ?_ (by size_fits))
 refine wpAny_bind (m:=firstArgMember _ _) (wpAny_of_eq (a:=Value.none) (by first | rfl | (simp only [firstArgMember];rfl)) ?_)
 refine wpAny_newObj_type ?_ (by size_fits)
 simp only [raiseNew]
 refine wpAny_bind (wpAny_handled ?_)
 rw [q]
 refine wpAny_bind (wpAny_pure (wpAny_throw ?_))
 have z:=n _ rfl
 rw [←t] at z
 have o:(h.update i (Obj.mapFields (·.setIfInBounds 2 .none))).objs.size+1=((h.update i (Obj.mapFields (·.setIfInBounds 2 .none))).push {cls:=.type "tuple",data:=.seq ([]:Yb).toArray}).objs.size:=(Heap.size_push _ _).symm
 rw [o] at z
 exact z
theorem K1 {h:Heap} {n:Nat} {s:Array GenState} {d:Drawn} {q:OsState} {i a:Addr} (p:A.handled=none) (b:h.get? i=some (df (sF w) 1 (.ref a))) (c:h.get? a=some (dU (sL w)))
  (t:∀o,o=((h.update i (Obj.mapFields (·.setIfInBounds 2 .none))).push {cls:=.type "tuple",data:=.seq ([]:Yb).toArray}).push (ke h.objs.size)→E (.ref (h.objs.size+1)) ⟨o,s,d,n,q⟩) :
  wpAny (model prog w) A (call (.builtin "set_iterator.__next__") [.ref i]) Q E ⟨h,s,d,n,q⟩:=by
 have f:=b
 refine wpAny_call_entry B6 ⟨_,b,rfl⟩ B7 ?_ (B8 _)
 unfold Builtin.«set_iterator.__next__»
 cases g:w.params.followText "set-order" with
 | false=>
  have k:sL w=true:=by unfold sL;rw [g];rfl
  rw [k] at c
  unfold dU at c
  unfold df at b
  wp_walk using wpAny_loadPart' c,wpAny_loadPart' b
  refine wpAny_askSetting (wpAny_pure ?_)
  have j:sF w=2:=by unfold sF;rw [g]
  rw [j] at b f
  rw [show (⟨(model prog w).prog,(model prog w).w.params⟩:Setting).params.followText "set-order" = false from g,if_neg (by decide)]
  show wpAny _ _ (if _=true then _ else _) _ _ _
  rw [if_neg (by decide)]
  simp only [j]
  wp_walk using wpAny_loadPart' c
  have x:(h.update i (Obj.mapFields (·.setIfInBounds 2 .none))).objs.size=h.objs.size:=(Heap.SameBut.update ..).1
  simp only [raiseNew]
  refine wpAny_bind (wpAny_handled ?_)
  rw [show A.in1.handled=none from p]
  refine wpAny_bind (wpAny_pure (wpAny_throw ?_))
  have z:=t _ rfl
  rw [←x] at z
  have u:(h.update i (Obj.mapFields (·.setIfInBounds 2 .none))).objs.size+1=((h.update i (Obj.mapFields (·.setIfInBounds 2 .none))).push {cls:=.type "tuple",data:=.seq ([]:Yb).toArray}).objs.size:=(Heap.size_push _ _).symm
  rw [u] at z
  exact z
 | true=>
  have k:sL w=false:=by unfold sL;rw [g];rfl
  rw [k] at c
  unfold dU at c
  unfold df at b
  wp_walk using wpAny_loadPart' c,wpAny_loadPart' b
  refine wpAny_askSetting (wpAny_pure ?_)
  have j:sF w=0:=by unfold sF;rw [g]
  rw [j] at b f
  rw [show (⟨(model prog w).prog,(model prog w).w.params⟩:Setting).params.followText "set-order" = true from g,if_pos rfl]
  wp_walk using wpAny_loadPart' c
  refine wpAny_askSetting (wpAny_pure ?_)
  rw [show (⟨(model prog w).prog,(model prog w).w.params⟩:Setting).params.followText "set-order" = true from g,if_pos rfl]
  refine wpAny_bind (wpAny_askSetting (wpAny_pure ?_))
  rw [B5]
  refine wpAny_pure ?_
  show wpAny _ A.in1 (do setField (.ref i) 2 .none;let e ←newExc (.type "StopIteration") [];(raiseNew e:Sem Fin)) _ _ _
  exact K0 (A:=A.in1) p f t
end
section
variable {B:bf} {m:Nat}
def dE (w:Yc) (j:Nat):aH:={code:=fun p=>.call (.builtin "set.__iter__") ⟨[.ref (p 1 0)],[]⟩,pl:=[j],objs:=fun p=>[(p 1 0,dU (sL w))],strm:=true,out:=fun p a=>(.ret (.ref (a 0)),[dU (sL w)],[(a 0,df 0 0 (.ref (p 1 0)))])}
theorem fo {w:Yc} {j:Nat}:(dE w j).Sure B m:=by
 refine ⟨by simp [dE],fun p A s h f u d t g l k Q E nd i _ n=>d8 ?_⟩
 have c:h.get? (p 1 0)=some (dU (sL w)):=(i _ (.head _)).1
 refine KY c ?_
 refine n _ f (fun _=>h.objs.size) (fun e=>by cases e) (by rw [Heap.size_push];exact Nat.le_succ _) (fun b o q _=>Heap.get?_push_of_some _ q) (fun y a => ?_) (fun y a => ?_) (by simp [dE])
 ·have:y=(p 1 0,dU (sL w)):=by simpa [dE] using a
  rw [this];exact Heap.get?_push_of_some _ c
 ·have:y=(h.objs.size,df 0 0 (.ref (p 1 0))):=by simpa [dE] using a
  rw [this];exact ⟨Heap.get?_push_size _ rfl,Nat.le_refl _⟩
def d5 (w:Yc) (b a:Nat):aH:={code:=fun p=>.call (.builtin "set_iterator.__next__") ⟨[.ref (p 1 0)],[]⟩,pl:=[b,a],objs:=fun p=>[(p 1 0,df 0 0 (.ref (p 2 0))),(p 2 0,dU (sL w))],strm:=true,out:=fun p c=>(.ret (.bool true),[df (sF w) 1 (.ref (p 2 0)),dU (sL w)],[])}
theorem fp {b c:Bool} {w:Yc} {o i:Nat} (u:o≠i):(d5 w o i).Sure (B0 (W b c w)) m:=by
 refine ⟨by simp [d5,u],fun p A J h s L d K g l k Q E nd n _ G=>d8 ?_⟩
 have D:h.get? (p 1 0)=some (df 0 0 (.ref (p 2 0))):=(n _ (.head _)).1
 have j:h.get? (p 2 0)=some (dU (sL w)):=(n _ (.tail _ (.head _))).1
 have x:p 1 0≠p 2 0:=by
  have:[p 1 0,p 2 0].Nodup:=nd
  simpa using this
 refine KZ (w:=W b c w) D j fun t a F => ?_
 refine G t s id (fun e=>by cases e) (by rw [a.1];exact Nat.le_refl _) (fun H I q C=>(a.2 H fun z=>C (by rw [z];exact .head _)).trans q) (fun y f => ?_) (fun _ f=>nomatch f) List.nodup_nil
 have:y=(p 1 0,df (sF w) 1 (.ref (p 2 0)))∨y=(p 2 0,dU (sL w)):=by simpa [d5] using f
 rcases this with rfl | rfl
 ·exact F
 ·exact (a.2 _ (Ne.symm x)).trans j
def dF (w:Yc) (c b:Nat):aH:={code:=fun p=>.call (.builtin "set_iterator.__next__") ⟨[.ref (p 1 0)],[]⟩,pl:=[c,b],objs:=fun p=>[(p 1 0,df (sF w) 1 (.ref (p 2 0))),(p 2 0,dU (sL w))],strm:=true,bad:=true,out:=fun p a=>(.ret (.ref (a 0)),[df (sF w) 1 .none,dU (sL w)],[(a 0,ke (a 1))])}
theorem fq {b c:Bool} {w:Yc} {H t:Nat} (J:H≠t):(dF w H t).Sure (B0 (W b c w)) m:=by
 refine ⟨by simp [dF,J],fun p A N h I S d R g l k Q E nd F _ O=>d8 ?_⟩
 have C:h.get? (p 1 0)=some (df (sF w) 1 (.ref (p 2 0))):=(F _ (.head _)).1
 have u:h.get? (p 2 0)=some (dU (sL w)):=(F _ (.tail _ (.head _))).1
 have K:p 1 0≠p 2 0:=by
  have:[p 1 0,p 2 0].Nodup:=nd
  simpa using this
 refine K1 (w:=W b c w) N.1 C u fun P e => ?_
 have f:Heap.SameBut (p 1 0) h (h.update (p 1 0) (Obj.mapFields (·.setIfInBounds 2 .none))):=Heap.SameBut.update ..
 have x:(h.update (p 1 0) (Obj.mapFields (·.setIfInBounds 2 .none))).get? (p 1 0)=some (df (sF w) 1 .none):=by
  refine (Heap.get?_update_self _ C rfl).trans ?_
  simp [df,Obj.mapFields]
 have n:(h.update (p 1 0) (Obj.mapFields (·.setIfInBounds 2 .none))).objs.size=h.objs.size:=f.1
 generalize (h.update (p 1 0) (Obj.mapFields (·.setIfInBounds 2 .none)))=j at f x n e
 subst e
 have D:∀(o G:Obj) b a,j.get? b=some a→((j.push o).push G).get? b=some a:=fun o G b a q=>Heap.get?_push_of_some _ (Heap.get?_push_of_some _ q)
 have q:=Heap.get?_push_size (j.push {cls:=.type "tuple",data:=.seq ([]:Yb).toArray}) (o:=ke h.objs.size) rfl
 refine O _ I (fun i=>match i with | 0=>h.objs.size+1 | _=>h.objs.size) (fun e=>by cases e) ?_ (fun b a q L=>D _ _ _ _ ?_) (fun y s=>D _ _ _ _ ?_) (fun y s => ?_) (by simp [dF])
 ·rw [Heap.size_push,Heap.size_push,n];exact Nat.le_add_right _ 2
 ·exact (f.2 _ fun z=>L (by rw [z];exact .head _)).trans q
 ·have:y=(p 1 0,df (sF w) 1 .none)∨y=(p 2 0,dU (sL w)):=by simpa [dF] using s
  rcases this with rfl | rfl
  ·exact x
  ·exact (f.2 _ (Ne.symm K)).trans u
 ·have:y=(h.objs.size+1,ke h.objs.size):=by simpa [dF] using s
  subst this
  refine ⟨?_,Nat.le_succ _⟩
  rw [Heap.size_push,n] at q
  exact q
end
end
section
variable {B:bf} {m:Nat}
def dW (j:Nat) (b:af→Yb):aH:={code:=fun p=>.call (.type "enumerate") ⟨[.ref (p 1 0)],[]⟩,pl:=[j],objs:=fun p=>[(p 1 0,ab (b p) (p 1 1))],strm:=true,out:=fun p a=>(.ret (.ref (a 0)),[ab (b p) (p 1 1)],[(a 1,am (.ref (p 1 0)) 0),(a 0,b8 (a 1) 0 .none)])}
theorem fr {j:Nat} {a:af→Yb}:(dW j a).Sure B m:=by
 refine ⟨by simp [dW],fun p A C h t G d D g l k Q E nd u _ w=>d8 ?_⟩
 have q:h.get? (p 1 0)=some (ab (a p) (p 1 1)):=(u _ (.head _)).1
 refine callType_new F.called_enumerate (by decide) (F.typeCall_enumerate_1 _) (F.newCall_enumerate_1 _) (fun c=>F.args_object_init_2 c _) F.entry_enumerate_new (meets_enumerate_new (p 1 0) (a p).toArray (p 1 1)) ⟨q,?_⟩
 have f:(h.push {cls:=.type "list_iterator",data:=.fields #[.ref (p 1 0),.int 0 0]}).objs.size=h.objs.size+1:=Heap.size_push ..
 show _∧_
 rw [f]
 have s:((h.push {cls:=.type "list_iterator",data:=.fields #[.ref (p 1 0),.int 0 0]}).push {cls:=.type "enumerate",data:=.fields #[.none,.bool false,.ref h.objs.size,rawInt 0,.none,.none]}).get? (h.objs.size+1)=some (b8 h.objs.size 0 .none):=by
  have:=Heap.get?_push_size (h.push {cls:=.type "list_iterator",data:=.fields #[.ref (p 1 0),.int 0 0]}) (o:={cls:=.type "enumerate",data:=.fields #[.none,.bool false,.ref h.objs.size,rawInt 0,.none,.none]}) rfl
  rw [f] at this;exact this
 refine ⟨⟨_,s,rfl⟩,?_⟩
 refine w _ t (fun i=>match i with | 0=>h.objs.size+1 | _=>h.objs.size) (fun e=>by cases e) (by rw [Heap.size_push,f];exact Nat.le_add_right _ 2) (fun b o x _=>Heap.get?_push_of_some _ (Heap.get?_push_of_some _ x)) (fun y n => ?_) (fun y n => ?_) ?_
 ·have:y=(p 1 0,ab (a p) (p 1 1)):=by simpa [dW] using n
  rw [this];exact Heap.get?_push_of_some _ (Heap.get?_push_of_some _ q)
 ·have:y=(h.objs.size,am (.ref (p 1 0)) 0)∨y=(h.objs.size+1,b8 h.objs.size 0 .none):=by simpa [dW] using n
  rcases this with rfl | rfl
  ·exact ⟨Heap.get?_push_of_some _ (Heap.get?_push_size _ rfl),Nat.le_refl _⟩
  ·exact ⟨s,Nat.le_succ _⟩
 ·show [h.objs.size,h.objs.size+1].Nodup
  rw [List.nodup_cons]
  refine ⟨fun z => ?_,by simp⟩
  have:h.objs.size=h.objs.size+1:=by simpa using z
  exact absurd this (Nat.ne_of_lt (Nat.lt_succ_self _))
end
section
def Ca:Yh:=[1,4,4,4,2,6,7,6,3,8,8,0,8,0,23,9,4,1,0,11,11,10]
def kL (w:Yc) (a:List da) (p:af):Ya:=[(p 8 0,aG w [("script",p 8 2,.ref (p 16 0))] (p 8 1)),(p 9 0,de),(p 13 0,de),(p 16 0,ab (a.map cA) (p 16 1))]
def wv (w:Yc) (a:List da) (p:af) (b:Ye):Flow:=.next
def ww (w:Yc) (b:List da) (p:af) (a:Ye):Yf:=[aG w [("script",p 8 2,.ref (p 16 0)),("rows",a 1,.ref (a 0))] (p 8 1+1),de,de,ab (b.map cA) (p 16 1)]
def wx (w:Yc) (b:List da) (p:af) (a:Ye):Ya:=[(a 0,ab (aT (eU b) fun i=>a (i+3)) (a 2))]
def wy (w:Yc) (a:List da) (p:af) (b:Ye):Ya:=be (eU a) fun i=>b (i+3)
def Cb (w:Yc) (a:List da) (p:af):List aH:=[c7 3 4 (fun _=>a.map cA) none (some 6) (fun _=>(a.take 6).map cA),lD 5 6 (fun _=>(a.take 6).map cA) (fun p=>kJ (p 2)),Bw w [8,7,9,10,6] a]
def wz (w:Yc) (a:List da) (p:af):Sem Flow:=nk [sS w 0] (bl w p)
def K2 (b c:Bool) (w:Yc) (a:List da) (p:af) (n d:Nat) (f:Nat→Oc):Option c1:=mX b c w (Cb w a p) 56 Ca 3 f (wz w a p) cc (kL w a p) n d
def pU (w:Yc) (a:List da) (p:af) (n b:Nat) (f:Nat→Oc):Nat→Nat:=fun i=>match i with | 0=>(f 1).1+1 | 1=>(f 2).2.1+0 | 2=>(nB [(131,(f 0).2.1+0),(6,(f 0).2.1+1),(14,(f 0).2.1+2),(8,(f 0).2.1+3),(37,(f 0).2.1+4),(75,(f 0).2.1+5)] a 0 (f 2).2.2).t | j+3=>(f 2).2.2 j
theorem K3 (b c:Bool) (w:Yc) (a:List da) (p:af) (n d:Nat) (f:Nat→Oc):ii (K2 b c w a p n d f) [0,1,2,3,9] (some 11) (kL w a p) (cc (wv w a p (pU w a p n d f))) (ww w a p (pU w a p n d f)) (wx w a p (pU w a p n d f)) (wy w a p (pU w a p n d f)):=by
 delta ii
 kernel_rfl
theorem K4 (b c:Bool) (w:Yc) (a:List da) (p:af) (g:a.length≤63):aI (B0 (W b c w)) 6 (execs [sS w 0] (bl w p)) (kL w a p) fun d=>(wv w a p d,ww w a p d,wx w a p d++wy w a p d):=by
 have h:=bt (m:=5) (t:=wz w a p) (need:=kL w a p) (val:=wv w a p) (objs:=ww w a p) (ads:=wx w a p) (tail:=wy w a p) (enc:=cc) cG (orcs:=Cb w a p) (aa (dB (by decide) (fun _=>by rw [List.length_map];lia) (fun _=>Ke a)) (aa (Br (by decide) (fun _=>by rw [List.length_map,List.length_take];show min 6 a.length+6≤1000;lia)) (aa (Kg (by decide) (by decide)) aq))) 56 3 Ca [0,1,2,3,9] (some 11) (pU w a p) (by decide) ((by decide:∀i∈([0,1,2,3,9]:Yh),i<11)) ((fun h=>by cases h)) (by intro _;kernel_rfl) fun n e f=>K3 b c w a p n e f
 unfold wz at h
 rw [←cH] at h
 exact h
def Cc:Yh:=[1,4,4,0,4,0,23,5,2,1,0,7,7,6]
def jO (w:Yc) (R:bu) (p:af):Ya:=[(p 8 0,aG w [("script",p 8 2,.ref (p 16 0)),("rows",p 8 4,.ref (p 6 0))] (p 8 1)),(p 9 0,de),(p 13 0,de),(p 6 0,ab (aT R (p 20)) (p 6 1))]
def wA (w:Yc) (R:bu) (p:af) (a:Ye):Flow:=.next
def wB (w:Yc) (R:bu) (p:af) (a:Ye):Yf:=[aG w [("script",p 8 2,.ref (p 16 0)),("rows",p 8 4,.ref (p 6 0)),("written",a 1,.ref (a 0))] (p 8 1+1),de,de,ab (aT R (p 20)) (p 6 1)]
def wC (w:Yc) (R:bu) (p:af) (a:Ye):Ya:=[(a 0,ab (aT (R.map (·.map ao)) fun i=>a (i+3)) (a 2))]
def wD (w:Yc) (R:bu) (p:af) (a:Ye):Ya:=be (R.map (·.map ao)) fun i=>a (i+3)
def Cd (w:Yc) (R:bu) (p:af):List aH:=[Bb w [4,3,5,6] R (p 20)]
def wE (w:Yc) (R:bu) (p:af):Sem Flow:=nk [sS w 1] (bl w p)
def K5 (b c:Bool) (w:Yc) (R:bu) (p:af) (n a:Nat) (f:Nat→Oc):Option c1:=mX b c w (Cd w R p) 33 Cc 1 f (wE w R p) cc (jO w R p) n a
def pV (w:Yc) (R:bu) (p:af) (n a:Nat) (f:Nat→Oc):Nat→Nat:=fun i=>match i with | 0=>n+1 | 1=>(f 0).2.1+0 | 2=>(bT R (p 20) 0 (f 0).2.2).t | j+3=>(f 0).2.2 j
theorem K6 (b c:Bool) (w:Yc) (R:bu) (p:af) (n a:Nat) (f:Nat→Oc):ii (K5 b c w R p n a f) [0,1,2,3,5] (some 7) (jO w R p) (cc (wA w R p (pV w R p n a f))) (wB w R p (pV w R p n a f)) (wC w R p (pV w R p n a f)) (wD w R p (pV w R p n a f)):=by
 delta ii
 kernel_rfl
theorem K7 (b c:Bool) (w:Yc) (R:bu) (p:af) (d:∀r∈R,b7 r) (j:6≤R.length) (g:R.length≤12):aI (B0 (W b c w)) 6 (execs [sS w 1] (bl w p)) (jO w R p++be R (p 20)) fun a=>(wA w R p a,wB w R p a++bH (be R (p 20)),wC w R p a++wD w R p a):=by
 have h:=mY (m:=5) (t:=wE w R p) (need:=jO w R p) (val:=wA w R p) (objs:=wB w R p) (ads:=wC w R p) (tail:=wD w R p) (enc:=cc) cG (orcs:=Cd w R p) (be R (p 20)) (jr (J1 (by decide) d (by lia) (by lia) (by decide)) pd) 33 1 Cc [0,1,2,3,5] (some 7) (pV w R p) (by decide) ((by decide:∀i∈([0,1,2,3,5]:Yh),i<7)) ((fun h=>by cases h)) (by intro _;kernel_rfl) fun n e f=>K6 b c w R p n e f
 unfold wE at h
 rw [←cH] at h
 exact h
def pX (w:Yc) (p:af):Ya:=[(p 8 0,aG w [("script",p 8 2,.ref (p 16 0)),("rows",p 8 4,.ref (p 6 0)),("written",p 8 6,.ref (p 7 0))] (p 8 1)),(p 9 0,de),(p 13 0,de)]
theorem K8 (b c:Bool) (w:Yc) (p:af):aI (B0 (W b c w)) 6 (execs [sS w 2] (bl w p)) (pX w p) fun a=>(.next,[aG w [("script",p 8 2,.ref (p 16 0)),("rows",p 8 4,.ref (p 6 0)),("written",p 8 6,.ref (p 7 0))] (p 8 1),de,aJ (.ref (a 0))],[(a 0,aZ w fun i=>a (i+1))]++[]):=by
 rw [cH]
 exact bt (enc:=cc) cG (orcs:=[]) aq 101 0 [0,0,88,4,4,3,4,0,0,88,4,4,3,4,0,0,88,4,4,3,4,0,0,88,4,4,3,4,0,0,88,4,4,3,4,0,0,88,4,4,3,4,3,2] [0,1,2,3] none (fun n d f=>fun i=>match i with | 0=>n | j+1=>d+j)
def dX (w:Yc) (R:bu) (p:af):Ya:=[(p 8 0,aG w [("script",p 8 2,.ref (p 16 0)),("rows",p 8 4,.ref (p 6 0)),("written",p 8 6,.ref (p 7 0))] (p 8 1)),(p 9 0,de),(p 13 0,aJ (.ref (p 15 0))),(p 15 0,aZ w fun i=>p 15 (i+1)),(p 6 0,ab (aT R (p 20)) (p 6 1)),(p 7 0,ab (aT (R.map (·.map ao)) (p 21)) (p 7 1))]
theorem K9 (b c:Bool) (w:Yc) (R:bu) (p:af):aI (B0 (W b c w)) 6 (eval (d3 (bN (sS w 3))) (bl w p)) (dX w R p) fun d=>((.ref (p 7 0)),[aG w [("script",p 8 2,.ref (p 16 0)),("rows",p 8 4,.ref (p 6 0)),("written",p 8 6,.ref (p 7 0))] (p 8 1),de,aJ (.ref (p 15 0)),aZ w fun i=>p 15 (i+1),ab (aT R (p 20)) (p 6 1),ab (aT (R.map (·.map ao)) (p 21)) (p 7 1)],[]++[]):=by
 rw [dR]
 exact bt (enc:=dy) eN (orcs:=[]) aq 5 0 [1] [0,1,2,3,4,5] none (fun n a f=>fun _=>0)
def Ce:Yh:=[1,5,5,0,5,0,23,7,2,9,9,8]
def pY (w:Yc) (R:bu) (p:af):Ya:=[(p 8 0,aG w [("script",p 8 2,.ref (p 16 0)),("rows",p 8 4,.ref (p 6 0)),("written",p 8 6,.ref (p 7 0))] (p 8 1)),(p 9 0,de),(p 13 0,aJ (.ref (p 15 0))),(p 15 0,aZ w fun i=>p 15 (i+1)),(p 6 0,ab (aT R (p 20)) (p 6 1)),(p 7 0,ab (aT (R.map (·.map ao)) (p 21)) (p 7 1))]
def wF (w:Yc) (R:bu) (p:af) (a:Ye):Yd:=.ref (a 0)
def wG (w:Yc) (R:bu) (p:af) (a:Ye):Yf:=[aG w [("script",p 8 2,.ref (p 16 0)),("rows",p 8 4,.ref (p 6 0)),("written",p 8 6,.ref (p 7 0))] (p 8 1),de,aJ (.ref (p 15 0)),aZ w fun i=>p 15 (i+1),ab (aT R (p 20)) (p 6 1),ab (aT (R.map (·.map ao)) (p 21)) (p 7 1)]
def wH (w:Yc) (R:bu) (p:af) (a:Ye):Ya:=[(a 0,ab (c2 eQ (b9 R (p 20)) fun i=>a (i+2)) (a 1))]
def wI (w:Yc) (R:bu) (p:af) (a:Ye):Ya:=fP nw (b9 R (p 20)) fun i=>a (i+2)
def Cf (w:Yc) (R:bu) (p:af):List aH:=[Ba w [6,4,7,8,2,3] R (p 20)]
def wJ (w:Yc) (R:bu) (p:af):Sem Yd:=AJ (dd (bN (sS w 3))) (bl w p)
def La (b c:Bool) (w:Yc) (R:bu) (p:af) (n a:Nat) (f:Nat→Oc):Option c1:=mX b c w (Cf w R p) 23 Ce 1 f (wJ w R p) dy (pY w R p) n a
def pZ (w:Yc) (R:bu) (p:af) (n a:Nat) (f:Nat→Oc):Nat→Nat:=fun i=>match i with | 0=>n+1 | 1=>(nx R (p 20) 0 (f 0).2.2).t | j+2=>(f 0).2.2 j
theorem Lb (b c:Bool) (w:Yc) (R:bu) (p:af) (n a:Nat) (f:Nat→Oc):ii (La b c w R p n a f) [0,1,2,3,4,5,7] (some 9) (pY w R p) (dy (wF w R p (pZ w R p n a f))) (wG w R p (pZ w R p n a f)) (wH w R p (pZ w R p n a f)) (wI w R p (pZ w R p n a f)):=by
 delta ii
 kernel_rfl
theorem Lc (b c:Bool) (w:Yc) (R:bu) (p:af) (d:∀r∈R,b7 r) (j:6≤R.length) (g:R.length≤12):aI (B0 (W b c w)) 6 (eval (dd (bN (sS w 3))) (bl w p)) (pY w R p++be R (p 20)) fun a=>(wF w R p a,wG w R p a++bH (be R (p 20)),wH w R p a++wI w R p a):=by
 have h:=mY (m:=5) (t:=wJ w R p) (need:=pY w R p) (val:=wF w R p) (objs:=wG w R p) (ads:=wH w R p) (tail:=wI w R p) (enc:=dy) eN (orcs:=Cf w R p) (be R (p 20)) (jr (JZ (by decide) d (by lia) (by lia) (by decide)) pd) 23 1 Ce [0,1,2,3,4,5,7] (some 9) (pZ w R p) (by decide) ((by decide:∀i∈([0,1,2,3,4,5,7]:Yh),i<9)) ((fun h=>by cases h)) (by intro _;kernel_rfl) fun n e f=>Lb b c w R p n e f
 unfold wJ at h
 rw [←dR] at h
 exact h
def Cg (w:Yc) (p:af):Ya:=[(p 8 0,aG w [("script",p 8 2,.ref (p 16 0)),("rows",p 8 4,.ref (p 6 0)),("written",p 8 6,.ref (p 7 0))] (p 8 1)),(p 9 0,de)]
theorem Ld (b c:Bool) (w:Yc) (p:af):aI (B0 (W b c w)) 6 (execs [sS w 4] (bl w p)) (Cg w p) fun a=>(.next,[aG w [("script",p 8 2,.ref (p 16 0)),("rows",p 8 4,.ref (p 6 0)),("written",p 8 6,.ref (p 7 0))] (p 8 1),aJ (.ref (a 0))],[(a 0,ab [] 0)]++[]):=by
 rw [cH]
 exact bt (enc:=cc) cG (orcs:=[]) aq 11 0 [2,1] [0,1,2] none (fun n d f=>fun _=>n)
def nD (w:Yc) (R:bu) (p:af):Ya:=[(p 8 0,aG w [("script",p 8 2,.ref (p 16 0)),("rows",p 8 4,.ref (p 6 0)),("written",p 8 6,.ref (p 7 0))] (p 8 1)),(p 9 0,aJ (.ref (p 10 0))),(p 10 0,ab [] (p 10 1)),(p 6 0,ab (aT R (p 20)) (p 6 1)),(p 7 0,ab (aT (R.map (·.map ao)) (p 21)) (p 7 1))]
def Ch (w:Yc) (R:bu) (p:af) (a:Ye):Flow:=.next
def Ci (w:Yc) (R:bu) (p:af) (a:Ye):Yf:=[aG w [("script",p 8 2,.ref (p 16 0)),("rows",p 8 4,.ref (p 6 0)),("written",p 8 6,.ref (p 7 0)),("row",kT 0 (fD R (p 20) (p 21) p a).k,kV 0 (fD R (p 20) (p 21) p a).k),("parts",kT 1 (fD R (p 20) (p 21) p a).k,kV 1 (fD R (p 20) (p 21) p a).k),("path",kT 2 (fD R (p 20) (p 21) p a).k,kV 2 (fD R (p 20) (p 21) p a).k)] ((fD R (p 20) (p 21) p a).n),aJ (.ref (p 10 0)),ab (fD R (p 20) (p 21) p a).hv (fD R (p 20) (p 21) p a).hn,ab (aT R (p 20)) (p 6 1),ab (aT (R.map (·.map ao)) (p 21)) (p 7 1)]
def Cj (w:Yc) (R:bu) (p:af) (a:Ye):Ya:=[]
def Ck (w:Yc) (R:bu) (p:af) (a:Ye):Ya:=[]
theorem Lf (b c:Bool) (w:Yc) (R:bu) (p:af) (d:∀r∈R,b7 r) (i:6≤R.length) (e:R.length≤12):aI (B0 (W b c w)) 6 (execs [sS w 5] (bl w p)) (nD w R p++be R (p 20)++be (R.map (·.map ao)) (p 21)) fun a=>(Ch w R p a,Ci w R p a++bH (be R (p 20)++be (R.map (·.map ao)) (p 21)),Cj w R p a++Ck w R p a):=by
 have h:=mY (b:=b) (c:=c) (m:=5) (t:=nk [sS w 5] (bl w p)) (need:=nD w R p) (val:=Ch w R p) (objs:=Ci w R p) (ads:=Cj w R p) (tail:=Ck w R p) (enc:=cc) cG (orcs:=[Bi w [9,7,8,5,6,3,4,0,1,2] R (p 20) (p 21)]) (be R (p 20)++be (R.map (·.map ao)) (p 21)) (jr (J5 (by decide) d (by lia) (by lia) (by decide)) pd) 57 1 [0,0,1,1,0,0,0,0,0,92,4,4,0,4,0,23,6,5,5,0,5,0,23,7,10,10,0,10,0,29,10,10,10,0,10,0,93,10,2] [0,1,2,3,4] none (fun n g f=>(f 0).2.2)
 rw [←cH] at h
 exact h
def p1 (w:Yc) (a c b:Yd) (R:bu) (p:af):Ya:=[(p 8 0,aG w [("script",p 8 2,.ref (p 16 0)),("rows",p 8 4,.ref (p 6 0)),("written",p 8 6,.ref (p 7 0)),("row",p 8 8,a),("parts",p 8 10,c),("path",p 8 12,b)] (p 8 1)),(p 7 0,ab (aT (R.map (·.map ao)) (p 21)) (p 7 1))]
def Cl (w:Yc) (a d b:Yd) (R:bu) (p:af) (c:Ye):Flow:=.next
def Cm (w:Yc) (b d c:Yd) (R:bu) (p:af) (a:Ye):Yf:=[aG w [("script",p 8 2,.ref (p 16 0)),("rows",p 8 4,.ref (p 6 0)),("written",p 8 6,.ref (p 7 0)),("row",p 8 8,b),("parts",p 8 10,d),("path",p 8 12,c),("due",a 1,.ref (a 0))] (p 8 1+1),ab (aT (R.map (·.map ao)) (p 21)) (p 7 1)]
def Cn (w:Yc) (b d c:Yd) (R:bu) (p:af) (a:Ye):Ya:=[(a 0,ab (c2 gd (cC (R.map (·.map ao)) (p 21)) fun i=>a (i+3)) (a 2))]
def Co (w:Yc) (a d b:Yd) (R:bu) (p:af) (c:Ye):Ya:=[]
theorem Lg (b c:Bool) (w:Yc) (a e d:Yd) (R:bu) (p:af) (g:∀r∈R,b7 r) (q:6≤R.length) (k:R.length≤12):aI (B0 (W b c w)) 6 (execs [sS w 6] (bl w p)) (p1 w a e d R p++be (R.map (·.map ao)) (p 21)) fun ax=>(Cl w a e d R p ax,Cm w a e d R p ax++bH (be (R.map (·.map ao)) (p 21)),Cn w a e d R p ax++Co w a e d R p ax):=by
 have h:=mY (b:=b) (c:=c) (m:=5) (t:=nk [sS w 6] (bl w p)) (need:=p1 w a e d R p) (val:=Cl w a e d R p) (objs:=Cm w a e d R p) (ads:=Cn w a e d R p) (tail:=Co w a e d R p) (enc:=cc) cG (orcs:=[lC [1] (R.map (·.map ao)) (p 21),Bm w [3,2,4,5] (R.map (·.map ao)) (p 21)]) (be (R.map (·.map ao)) (p 21)) (jr (we (by decide) (by rw [List.length_map];lia) (by rw [List.length_map];lia) (by decide)) (jr (J7 (by decide) (wj g) (by rw [List.length_map];lia) (by rw [List.length_map];lia) (by decide)) pd)) 39 2 [0,0,1,2,3,3,0,3,0,23,4,3,1,0,6,6,5] [0,1,4] none (fun n o f=>fun i=>match i with | 0=>(f 0).1+1 | 1=>(f 1).2.1+0 | 2=>(eT (R.map (·.map ao)) (p 21) 0 (f 1).2.2).t | j+3=>(f 1).2.2 j)
 rw [←cH] at h
 exact h
def lE (w:Yc) (a c b:Yd) (L D:Yb) (x:Str) (d e:Nat) (R:bu) (p:af):Ya:=[(p 8 0,aG w [("script",p 8 2,.ref (p 16 0)),("rows",p 8 4,.ref (p 6 0)),("written",p 8 6,.ref (p 7 0)),("row",p 8 8,a),("parts",p 8 10,c),("path",p 8 12,b),("due",p 8 14,.ref (p 17 0))] (p 8 1)),(p 9 0,aJ (.ref (p 10 0))),(p 10 0,ab L (p 10 1)),(p 17 0,ab D (p 17 1)),(p 6 0,ab (aT R (p 20)) (p 6 1))]
theorem Lh (b c:Bool) (w:Yc) (g i h:Yd) (L D:Yb) (x:Str) (d e:Nat) (R:bu) (p:af) (q:0<L.length) (m:L.length≤90) (o:bk L) (hx:dP L = .str x d) (k:D[(0:Int).toNat]? = some (.str x e)):aI (B0 (W b c w)) 6 (isTrue (cY (c3 (bN (sS w 7))) 0) (bl w p) (eval (cY (c3 (bN (sS w 7))) 0) (bl w p))) (lE w g i h L D x d e R p) fun a=>(false,[aG w [("script",p 8 2,.ref (p 16 0)),("rows",p 8 4,.ref (p 6 0)),("written",p 8 6,.ref (p 7 0)),("row",p 8 8,g),("parts",p 8 10,i),("path",p 8 12,h),("due",p 8 14,.ref (p 17 0))] (p 8 1),aJ (.ref (p 10 0)),ab (cL L "/zz" (a 1)) (a 0),ab D (a 2),ab (aT R (p 20)) (p 6 1)],[]++[]):=by
 rw [s8,dR]
 exact bt (enc:=mV) sB (orcs:=[Bv L "/zz" x d 2,cN 3 D 0 (.str x e),o2 "str.__ne__" x x fun _=>.bool false]) (aa (Kf q m o hx (by decide)) (aa (cU (by decide) (by decide) k) (aa (aQ (bne_self_eq_false _)) aq))) 23 3 [0,2,0,2,1,4,4,4,3,4] [0,1,2,3,4] none (fun n j f=>aB [(f 0).2.2 0,j+0,(f 1).2.2 1])
def ts (w:Yc) (a c b:Yd) (L D:Yb) (R:bu) (p:af):Ya:=[(p 8 0,aG w [("script",p 8 2,.ref (p 16 0)),("rows",p 8 4,.ref (p 6 0)),("written",p 8 6,.ref (p 7 0)),("row",p 8 8,a),("parts",p 8 10,c),("path",p 8 12,b),("due",p 8 14,.ref (p 17 0))] (p 8 1)),(p 9 0,aJ (.ref (p 10 0))),(p 10 0,ab L (p 10 1)),(p 17 0,ab D (p 17 1)),(p 6 0,ab (aT R (p 20)) (p 6 1))]
theorem Li (b c:Bool) (w:Yc) (e h g:Yd) (L D:Yb) (R:bu) (p:af) (d:L.length=R.length) (o:L.length≤90) (q:bk L) (m:Hp L) (t:6≤R.length):aI (B0 (W b c w)) 6 (eval (d3 (cY (c3 (bN (sS w 7))) 1)) (bl w p)) (ts w e h g L D R p) fun a=>((.ref (a 0)),[aG w [("script",p 8 2,.ref (p 16 0)),("rows",p 8 4,.ref (p 6 0)),("written",p 8 6,.ref (p 7 0)),("row",p 8 8,e),("parts",p 8 10,h),("path",p 8 12,g),("due",p 8 14,.ref (p 17 0))] (p 8 1),aJ (.ref (p 10 0)),ab (fU (aT R (p 20)).length L) (a 1),ab D (p 17 1),ab (aT R (p 20)) (p 6 1)],[(a 0,ab (fS (aT R (p 20)).length L) (a 2))]++[]):=by
 rw [dR]
 exact bt (enc:=dy) eN (orcs:=[Bq w [5,4,6,7,1,2] (aT R (p 20)) L]) (aa (Ka (by decide) (Bu _ _) (by rw [ly];lia) (by rw [ly];exact d) o m q (by decide)) aq) 23 1 [1,5,5,0,5,0,23,6,2,8,8,7] [0,1,2,3,4,6] none (fun n s f=>fun i=>match i with | 0=>n+1 | 1=>(eR (fun j k=>match j,k with | 3,1=>0 | 6,1=>p 10 1 | j,k=>p j k) (aT R (p 20)) L (f 0).2.2).hn | _=>(eR (fun j k=>match j,k with | 3,1=>0 | 6,1=>p 10 1 | j,k=>p j k) (aT R (p 20)) L (f 0).2.2).c.t)
def lF (w:Yc) (a c b:Yd) (L D:Yb) (R:bu) (p:af):Ya:=[(p 8 0,aG w [("script",p 8 2,.ref (p 16 0)),("rows",p 8 4,.ref (p 6 0)),("written",p 8 6,.ref (p 7 0)),("row",p 8 8,a),("parts",p 8 10,c),("path",p 8 12,b),("due",p 8 14,.ref (p 17 0))] (p 8 1)),(p 9 0,aJ (.ref (p 10 0))),(p 10 0,ab L (p 10 1)),(p 17 0,ab D (p 17 1)),(p 6 0,ab (aT R (p 20)) (p 6 1))]
theorem Lj (b c:Bool) (w:Yc) (d g e:Yd) (L D:Yb) (R:bu) (p:af) (i:D.length≤500):aI (B0 (W b c w)) 6 (eval (dd (cY (c3 (bN (sS w 7))) 1)) (bl w p)) (lF w d g e L D R p) fun a=>((.ref (a 0)),[aG w [("script",p 8 2,.ref (p 16 0)),("rows",p 8 4,.ref (p 6 0)),("written",p 8 6,.ref (p 7 0)),("row",p 8 8,d),("parts",p 8 10,g),("path",p 8 12,e),("due",p 8 14,.ref (p 17 0))] (p 8 1),aJ (.ref (p 10 0)),ab L (p 10 1),ab D (p 17 1),ab (aT R (p 20)) (p 6 1)],[(a 0,ab (D.drop 1++[.str "/zz" (a 1)]) 0)]++[]):=by
 rw [dR]
 exact bt (enc:=dy) eN (orcs:=[c7 3 5 (fun _=>D) (some 1) none (fun _=>D.drop 1),lD 6 7 (fun _=>D.drop 1) (fun p=>[.str "/zz" (p 2 2)])]) (aa (dB (by decide) (fun _=>by lia) (fun _=>Bt D)) (aa (Br (by decide) (fun _=>by rw [List.length_drop];show D.length-1+1≤1000;lia)) aq)) 23 2 [1,4,4,4,2,7,8,7,3] [0,1,2,3,4,8] none (fun n h f=>aB [(f 1).2.2 0,(f 0).2.1+0])
def dG (w:Yc) (a c b:Yd) (L D:Yb) (R:bu) (p:af):Ya:=[(p 8 0,aG w [("script",p 8 2,.ref (p 16 0)),("rows",p 8 4,.ref (p 6 0)),("written",p 8 6,.ref (p 7 0)),("row",p 8 8,a),("parts",p 8 10,c),("path",p 8 12,b),("due",p 8 14,.ref (p 17 0))] (p 8 1)),(p 9 0,aJ (.ref (p 10 0))),(p 10 0,ab L (p 10 1)),(p 17 0,ab D (p 17 1)),(p 6 0,ab (aT R (p 20)) (p 6 1))]
theorem Lk (b c:Bool) (w:Yc) (a e d:Yd) (L D:Yb) (R:bu) (p:af):aI (B0 (W b c w)) 6 (eval (d3 (cY (c3 (bN (sS w 7))) 2)) (bl w p)) (dG w a e d L D R p) fun h=>((.ref (p 10 0)),[aG w [("script",p 8 2,.ref (p 16 0)),("rows",p 8 4,.ref (p 6 0)),("written",p 8 6,.ref (p 7 0)),("row",p 8 8,a),("parts",p 8 10,e),("path",p 8 12,d),("due",p 8 14,.ref (p 17 0))] (p 8 1),aJ (.ref (p 10 0)),ab L (p 10 1),ab D (p 17 1),ab (aT R (p 20)) (p 6 1)],[]++[]):=by
 rw [dR]
 exact bt (enc:=dy) eN (orcs:=[]) aq 5 0 [2] [0,1,2,3,4] none (fun n g f=>fun _=>0)
def Cp (w:Yc) (a c b:Yd) (L D:Yb) (R:bu) (p:af):Ya:=[(p 8 0,aG w [("script",p 8 2,.ref (p 16 0)),("rows",p 8 4,.ref (p 6 0)),("written",p 8 6,.ref (p 7 0)),("row",p 8 8,a),("parts",p 8 10,c),("path",p 8 12,b),("due",p 8 14,.ref (p 17 0))] (p 8 1)),(p 9 0,aJ (.ref (p 10 0))),(p 10 0,ab L (p 10 1)),(p 17 0,ab D (p 17 1)),(p 6 0,ab (aT R (p 20)) (p 6 1))]
theorem Ll (b c:Bool) (w:Yc) (a g d:Yd) (L D:Yb) (R:bu) (p:af):aI (B0 (W b c w)) 6 (eval (dd (cY (c3 (bN (sS w 7))) 2)) (bl w p)) (Cp w a g d L D R p) fun e=>((.ref (e 0)),[aG w [("script",p 8 2,.ref (p 16 0)),("rows",p 8 4,.ref (p 6 0)),("written",p 8 6,.ref (p 7 0)),("row",p 8 8,a),("parts",p 8 10,g),("path",p 8 12,d),("due",p 8 14,.ref (p 17 0))] (p 8 1),aJ (.ref (p 10 0)),ab L (p 10 1),ab D (p 17 1),ab (aT R (p 20)) (p 6 1)],[(e 0,ab [] 0)]++[]):=by
 rw [dR]
 exact bt (enc:=dy) eN (orcs:=[]) aq 5 0 [] [0,1,2,3,4,5] none (fun n h f=>fun _=>n)
theorem Lm (b c:Bool) (w:Yc) (p:af):aI (B0 (W b c w)) 6 (execs [sS w 9] (bl w p)) [] fun d=>((.ret (.bool true)),[],[]++[]):=by
 rw [cH]
 exact bt (enc:=cc) cG (orcs:=[]) aq 4 0 [] [] none (fun n a f=>fun _=>0)
end
abbrev nE:=Yg
section
def dj (w:Yc) (p:af):Env:=m9 (cp w) (p 8 0) [p 9 0,p 13 0]
theorem Ln (w:Yc):sQ (cp w)=true:=by kernel_rfl
theorem Lo (w:Yc):fO (cp w)=[]:=by kernel_rfl
theorem wK (w:Yc):fT (cp w) = .Tuple (nb (fT (cp w))) (nm (fT (cp w))) (nq (fT (cp w))):=by kernel_rfl
def f7 (p:af) (b g d e c f a:Yd):List (Str×Nat×Yd):=[("script",p 8 2,b),("rows",p 8 4,g),("written",p 8 6,d),("row",p 8 8,e),("parts",p 8 10,c),("path",p 8 12,f),("due",p 8 14,a)]
def dm (b a d:Yg) (j:Nat):aH:=bA (fun p=>.call (.ref 269) ⟨[.ref (p 1 0)],[]⟩) [j] (fun p=>[(p 1 0,ab [.str (aU b) (p 1 2),.str (aU a) (p 1 3)] (p 1 1))]) fun p c=>(.ret (.str (aU d) (c 0)),[ab [.str (aU b) (p 1 2),.str (aU a) (p 1 3)] (p 1 1)],[])
end
section
theorem Lp (b:Bool) (w:Yc) (a:Str) (c:a∈aD) (p:af):aC (B0 (W b false w)) 6 (.call (.ref 269) ⟨[.ref (p 1 0)],[]⟩) [(p 1 0,ab [.str ("/" ++ a) (p 1 2),.str ("/" ++ a) (p 1 3)] (p 1 1))] (fun d=>(.ret (.str ("/" ++ a) (d 0)),[ab [.str ("/" ++ a) (p 1 2),.str ("/" ++ a) (p 1 3)] (p 1 1)],[])):=
 aA (orcs:=[dw [6,5,4,0] ("/" ++ a) ("/" ++ a),cb ("/" ++ a) "/" ["",a],cb ("/" ++ a) "/" ["",a],o2 "str.startswith" ("/" ++ a) "/" fun _=>.bool true,o2 "str.startswith" ("/" ++ a) "/" fun _=>.bool true,dE w 17,d5 w 21 17,dF w 21 17,a9 "" 0,a9 a ((a.length-1+1:Nat):Int),o2 "str.__ne__" a "." fun _=>.bool true,a9 "" 0,a9 a ((a.length-1+1:Nat):Int),o2 "str.__ne__" a "." fun _=>.bool true,eV [24,27,32] [a] [a],eW [24,27,32] [a] [a] false,dW 27 (fun p=>bc p 1 [a] 2),wq w [39,38,27,1] a,bx 27 "/" [a] a,o2 "str.__add__" "/" a fun d=>.str ("/" ++ a) (d 0)]) (aa (fm (by decide) (by decide)) (aa (cv (fV a c)) (aa (cv (fV a c)) (aa (cn (cJ [a] (.inl ⟨a,c,rfl⟩))) (aa (cn (cJ [a] (.inl ⟨a,c,rfl⟩))) (aa (fo) (aa (fp (by decide)) (aa (fq (by decide)) (aa (bb rfl (by decide)) (aa (bb (n3 a c).1 (q1 a c).2.2.1) (aa (aQ (bP a c)) (aa (bb rfl (by decide)) (aa (bb (n3 a c).1 (q1 a c).2.2.1) (aa (aQ (bP a c)) (aa (fj (by decide) (jN [a])) (aa (fk (by decide) (jN [a])) (aa (fr) (aa (BS (by decide) (by decide)) (aa (bB (n3 a c).2.2.2.2.2.1 (n3 a c).2.2.2.2.2.2) (aa (fY rfl (by decide +kernel) (dc a c).2.1 (dc a c).2.2) aq)))))))))))))))))))) 852 20 [0,0,2,1,0,0,0,0,0,0,0,2,0,0,0,0,0,28,1,1,0,1,0,23,5,7,7,0,7,0,29,7,0,0,0,0,0,30,7,2,8,9,9,0,9,0,29,9,2,1,2,9,9,0,11,9,0,9,0,36,9,0,0,2,9,9,9,0,9,0,37,9,0,0,0,0,3,0,4,0,0,5,0,0,6,0,7,3,2,4,3,2,9,9,0,9,0,8,10,0,10,10,0,10,0,38,10,0,10,0,10,0,9,10,10,9,10,9,12,11,12,3,3,0,11,0,26,11,10,11,0,10,0,10,0,9,10,10,9,10,9,12,11,12,3,4,0,11,0,26,11,10,11,0,10,0,10,0,9,10,10,9,10,9,16,2,1,12,12,11,2,9,9,0,9,0,8,17,0,17,17,0,17,0,38,17,0,17,0,17,0,9,17,17,9,17,16,19,18,19,3,5,0,18,0,39,0,0,40,18,18,17,0,17,0,17,0,9,17,17,9,17,16,19,18,19,3,6,0,18,0,39,0,0,40,18,18,0,17,0,17,0,9,17,17,9,17,16,21,19,19,18,18,18,18,7,22,22,8,22,9,23,2,1,2,11,11,0,11,0,23,24,0,24,24,0,24,0,43,24,0,24,0,24,0,24,24,24,11,24,23,26,25,26,13,13,0,13,0,23,27,0,27,27,0,27,0,43,27,0,27,0,27,0,24,27,27,13,27,26,29,28,29,10,0,27,0,27,0,24,27,27,13,27,26,29,28,29,11,29,4,12,29,0,28,0,26,28,27,28,0,27,0,27,0,24,27,27,13,27,26,31,29,29,28,0,25,0,26,25,24,25,0,24,0,24,0,24,24,24,11,24,23,26,25,26,14,14,0,14,0,23,32,0,32,32,0,32,0,43,32,0,32,0,32,0,24,32,32,14,32,31,34,33,34,13,0,32,0,32,0,24,32,32,14,32,31,34,33,34,14,34,4,15,34,0,33,0,26,33,32,33,0,32,0,32,0,24,32,32,14,32,31,36,34,34,33,0,25,0,26,25,24,25,0,24,0,24,0,24,24,24,11,24,23,38,2,1,26,26,25,0,0,2,16,2,1,0,0,2,17,2,1,2,2,1,0,0,2,18,40,40,0,40,0,52,40,19,2,3,2,1,2,3,2,20,21] [0] (fun n e f=>aB [(f 19).2.2 0])
theorem Lq (b:Bool) (w:Yc) (a g:Str) (c:a∈aD) (d:g∈aD) (p:af):aC (B0 (W b false w)) 6 (.call (.ref 269) ⟨[.ref (p 1 0)],[]⟩) [(p 1 0,ab [.str ("/" ++ a++("/" ++ g)) (p 1 2),.str ("/" ++ a++("/" ++ g)) (p 1 3)] (p 1 1))] (fun e=>(.ret (.str ("/" ++ a++("/" ++ g)) (e 0)),[ab [.str ("/" ++ a++("/" ++ g)) (p 1 2),.str ("/" ++ a++("/" ++ g)) (p 1 3)] (p 1 1)],[])):=
 aA (orcs:=[dw [6,5,4,0] ("/" ++ a++("/" ++ g)) ("/" ++ a++("/" ++ g)),cb ("/" ++ a++("/" ++ g)) "/" ["",a,g],cb ("/" ++ a++("/" ++ g)) "/" ["",a,g],o2 "str.startswith" ("/" ++ a++("/" ++ g)) "/" fun _=>.bool true,o2 "str.startswith" ("/" ++ a++("/" ++ g)) "/" fun _=>.bool true,dE w 17,d5 w 21 17,dF w 21 17,a9 "" 0,a9 a ((a.length-1+1:Nat):Int),o2 "str.__ne__" a "." fun _=>.bool true,a9 g ((g.length-1+1:Nat):Int),o2 "str.__ne__" g "." fun _=>.bool true,a9 "" 0,a9 a ((a.length-1+1:Nat):Int),o2 "str.__ne__" a "." fun _=>.bool true,a9 g ((g.length-1+1:Nat):Int),o2 "str.__ne__" g "." fun _=>.bool true,eV [24,27,32] [a,g] [a,g],eW [24,27,32] [a,g] [a,g] false,dW 27 (fun p=>bc p 1 [a,g] 2),wr w [39,38,27,1] a g,bx 27 "/" [a,g] (a++("/" ++ g)),o2 "str.__add__" "/" (a++("/" ++ g)) fun e=>.str ("/" ++ a++("/" ++ g)) (e 0)]) (aa (fm (by decide) (by decide)) (aa (cv (d4 a c g d)) (aa (cv (d4 a c g d)) (aa (cn (cJ [a,g] (.inr ⟨a,c,g,d,rfl⟩))) (aa (cn (cJ [a,g] (.inr ⟨a,c,g,d,rfl⟩))) (aa (fo) (aa (fp (by decide)) (aa (fq (by decide)) (aa (bb rfl (by decide)) (aa (bb (n3 a c).1 (q1 a c).2.2.1) (aa (aQ (bP a c)) (aa (bb (n3 g d).1 (q1 g d).2.2.1) (aa (aQ (bP g d)) (aa (bb rfl (by decide)) (aa (bb (n3 a c).1 (q1 a c).2.2.1) (aa (aQ (bP a c)) (aa (bb (n3 g d).1 (q1 g d).2.2.1) (aa (aQ (bP g d)) (aa (fj (by decide) (jN [a,g])) (aa (fk (by decide) (jN [a,g])) (aa (fr) (aa (BU (by decide) (by decide)) (aa (bB (n4 a c g d).2.2.1 (n4 a c g d).2.2.2.1) (aa (fY (n5 a c g d).1 (by decide +kernel) (n5 a c g d).2 (pf a c g d)) aq)))))))))))))))))))))))) 930 24 [0,0,2,1,0,0,0,0,0,0,0,2,0,0,0,0,0,28,1,1,0,1,0,23,5,7,7,0,7,0,29,7,0,0,0,0,0,30,7,2,8,9,9,0,9,0,29,9,2,1,2,9,9,0,11,9,0,9,0,36,9,0,0,2,9,9,9,0,9,0,37,9,0,0,0,0,3,0,4,0,0,5,0,0,6,0,7,3,2,4,3,2,9,9,0,9,0,8,10,0,10,10,0,10,0,38,10,0,10,0,10,0,9,10,10,9,10,9,12,11,12,3,3,0,11,0,26,11,10,11,0,10,0,10,0,9,10,10,9,10,9,12,11,12,3,4,0,11,0,26,11,10,11,0,10,0,10,0,9,10,10,9,10,9,16,2,1,12,12,11,2,9,9,0,9,0,8,17,0,17,17,0,17,0,38,17,0,17,0,17,0,9,17,17,9,17,16,19,18,19,3,5,0,18,0,39,0,0,40,18,18,17,0,17,0,17,0,9,17,17,9,17,16,19,18,19,3,6,0,18,0,39,0,0,40,18,18,0,17,0,17,0,9,17,17,9,17,16,21,19,19,18,18,18,18,7,22,22,8,22,9,23,2,1,2,11,11,0,11,0,23,24,0,24,24,0,24,0,43,24,0,24,0,24,0,24,24,24,11,24,23,26,25,26,13,13,0,13,0,23,27,0,27,27,0,27,0,43,27,0,27,0,27,0,24,27,27,13,27,26,29,28,29,10,0,27,0,27,0,24,27,27,13,27,26,29,28,29,11,29,4,12,29,0,28,0,26,28,27,28,0,27,0,27,0,24,27,27,13,27,26,29,28,29,13,29,4,14,29,0,28,0,26,28,27,28,0,27,0,27,0,24,27,27,13,27,26,31,29,29,28,0,25,0,26,25,24,25,0,24,0,24,0,24,24,24,11,24,23,26,25,26,14,14,0,14,0,23,32,0,32,32,0,32,0,43,32,0,32,0,32,0,24,32,32,14,32,31,34,33,34,15,0,32,0,32,0,24,32,32,14,32,31,34,33,34,16,34,4,17,34,0,33,0,26,33,32,33,0,32,0,32,0,24,32,32,14,32,31,34,33,34,18,34,4,19,34,0,33,0,26,33,32,33,0,32,0,32,0,24,32,32,14,32,31,36,34,34,33,0,25,0,26,25,24,25,0,24,0,24,0,24,24,24,11,24,23,38,2,1,26,26,25,0,0,2,20,2,1,0,0,2,21,2,1,2,2,1,0,0,2,22,40,40,0,40,0,52,40,23,2,3,2,1,2,3,2,24,25] [0] (fun n h f=>aB [(f 23).2.2 0])
theorem Lr (b:Bool) (w:Yc) (a e:Str) (c:a∈aD) (d:e∈aD) (i:aP [a,e] [a]=false) (h:aP [a] [a,e]=true) (p:af):aC (B0 (W b false w)) 6 (.call (.ref 269) ⟨[.ref (p 1 0)],[]⟩) [(p 1 0,ab [.str ("/" ++ a) (p 1 2),.str ("/" ++ a++("/" ++ e)) (p 1 3)] (p 1 1))] (fun g=>(.ret (.str ("/" ++ a) (g 0)),[ab [.str ("/" ++ a) (p 1 2),.str ("/" ++ a++("/" ++ e)) (p 1 3)] (p 1 1)],[])):=
 aA (orcs:=[dw [6,5,4,0] ("/" ++ a) ("/" ++ a++("/" ++ e)),cb ("/" ++ a) "/" ["",a],cb ("/" ++ a++("/" ++ e)) "/" ["",a,e],o2 "str.startswith" ("/" ++ a) "/" fun _=>.bool true,o2 "str.startswith" ("/" ++ a++("/" ++ e)) "/" fun _=>.bool true,dE w 17,d5 w 21 17,dF w 21 17,a9 "" 0,a9 a ((a.length-1+1:Nat):Int),o2 "str.__ne__" a "." fun _=>.bool true,a9 "" 0,a9 a ((a.length-1+1:Nat):Int),o2 "str.__ne__" a "." fun _=>.bool true,a9 e ((e.length-1+1:Nat):Int),o2 "str.__ne__" e "." fun _=>.bool true,eV [24,27,32] [a] [a,e],eW [24,27,32] [a] [a,e] true,dW 27 (fun p=>bc p 1 [a] 2),wt w [39,38,27,32,1] a a [e],bx 27 "/" [a] a,o2 "str.__add__" "/" a fun g=>.str ("/" ++ a) (g 0)]) (aa (fm (by decide) (by decide)) (aa (cv (fV a c)) (aa (cv (d4 a c e d)) (aa (cn (cJ [a] (.inl ⟨a,c,rfl⟩))) (aa (cn (cJ [a,e] (.inr ⟨a,c,e,d,rfl⟩))) (aa (fo) (aa (fp (by decide)) (aa (fq (by decide)) (aa (bb rfl (by decide)) (aa (bb (n3 a c).1 (q1 a c).2.2.1) (aa (aQ (bP a c)) (aa (bb rfl (by decide)) (aa (bb (n3 a c).1 (q1 a c).2.2.1) (aa (aQ (bP a c)) (aa (bb (n3 e d).1 (q1 e d).2.2.1) (aa (aQ (bP e d)) (aa (fj (by decide) (i)) (aa (fk (by decide) (h)) (aa (fr) (aa (BV (by decide) (bne_self_eq_false _) (by decide)) (aa (bB (n3 a c).2.2.2.2.2.1 (n3 a c).2.2.2.2.2.2) (aa (fY rfl (by decide +kernel) (dc a c).2.1 (dc a c).2.2) aq)))))))))))))))))))))) 891 22 [0,0,2,1,0,0,0,0,0,0,0,2,0,0,0,0,0,28,1,1,0,1,0,23,5,7,7,0,7,0,29,7,0,0,0,0,0,30,7,2,8,9,9,0,9,0,29,9,2,1,2,9,9,0,11,9,0,9,0,36,9,0,0,2,9,9,9,0,9,0,37,9,0,0,0,0,3,0,4,0,0,5,0,0,6,0,7,3,2,4,3,2,9,9,0,9,0,8,10,0,10,10,0,10,0,38,10,0,10,0,10,0,9,10,10,9,10,9,12,11,12,3,3,0,11,0,26,11,10,11,0,10,0,10,0,9,10,10,9,10,9,12,11,12,3,4,0,11,0,26,11,10,11,0,10,0,10,0,9,10,10,9,10,9,16,2,1,12,12,11,2,9,9,0,9,0,8,17,0,17,17,0,17,0,38,17,0,17,0,17,0,9,17,17,9,17,16,19,18,19,3,5,0,18,0,39,0,0,40,18,18,17,0,17,0,17,0,9,17,17,9,17,16,19,18,19,3,6,0,18,0,39,0,0,40,18,18,0,17,0,17,0,9,17,17,9,17,16,21,19,19,18,18,18,18,7,22,22,8,22,9,23,2,1,2,11,11,0,11,0,23,24,0,24,24,0,24,0,43,24,0,24,0,24,0,24,24,24,11,24,23,26,25,26,13,13,0,13,0,23,27,0,27,27,0,27,0,43,27,0,27,0,27,0,24,27,27,13,27,26,29,28,29,10,0,27,0,27,0,24,27,27,13,27,26,29,28,29,11,29,4,12,29,0,28,0,26,28,27,28,0,27,0,27,0,24,27,27,13,27,26,31,29,29,28,0,25,0,26,25,24,25,0,24,0,24,0,24,24,24,11,24,23,26,25,26,14,14,0,14,0,23,32,0,32,32,0,32,0,43,32,0,32,0,32,0,24,32,32,14,32,31,34,33,34,13,0,32,0,32,0,24,32,32,14,32,31,34,33,34,14,34,4,15,34,0,33,0,26,33,32,33,0,32,0,32,0,24,32,32,14,32,31,34,33,34,16,34,4,17,34,0,33,0,26,33,32,33,0,32,0,32,0,24,32,32,14,32,31,36,34,34,33,0,25,0,26,25,24,25,0,24,0,24,0,24,24,24,11,24,23,38,2,1,26,26,25,0,0,2,18,2,1,0,0,2,19,2,1,2,2,1,0,0,2,20,40,40,0,40,0,52,40,21,2,3,2,1,2,3,2,22,23] [0] (fun n j f=>aB [(f 21).2.2 0])
theorem Ls (b:Bool) (w:Yc) (a d:Str) (c:a∈aD) (e:d∈aD) (i:aP [d] [a]=false) (g:aP [a] [d]=true) (h:(a.cps.toList != d.cps.toList)=true) (p:af):aC (B0 (W b false w)) 6 (.call (.ref 269) ⟨[.ref (p 1 0)],[]⟩) [(p 1 0,ab [.str ("/" ++ a) (p 1 2),.str ("/" ++ d) (p 1 3)] (p 1 1))] (fun j=>(.ret (.str "/" (j 0)),[ab [.str ("/" ++ a) (p 1 2),.str ("/" ++ d) (p 1 3)] (p 1 1)],[])):=
 aA (orcs:=[dw [6,5,4,0] ("/" ++ a) ("/" ++ d),cb ("/" ++ a) "/" ["",a],cb ("/" ++ d) "/" ["",d],o2 "str.startswith" ("/" ++ a) "/" fun _=>.bool true,o2 "str.startswith" ("/" ++ d) "/" fun _=>.bool true,dE w 17,d5 w 21 17,dF w 21 17,a9 "" 0,a9 a ((a.length-1+1:Nat):Int),o2 "str.__ne__" a "." fun _=>.bool true,a9 "" 0,a9 d ((d.length-1+1:Nat):Int),o2 "str.__ne__" d "." fun _=>.bool true,eV [24,27,32] [a] [d],eW [24,27,32] [a] [d] true,dW 27 (fun p=>bc p 1 [a] 2),jM w [39,38,27,32,1] a d [] [],bx 40 "/" [] ""]) (aa (fm (by decide) (by decide)) (aa (cv (fV a c)) (aa (cv (fV d e)) (aa (cn (cJ [a] (.inl ⟨a,c,rfl⟩))) (aa (cn (cJ [d] (.inl ⟨d,e,rfl⟩))) (aa (fo) (aa (fp (by decide)) (aa (fq (by decide)) (aa (bb rfl (by decide)) (aa (bb (n3 a c).1 (q1 a c).2.2.1) (aa (aQ (bP a c)) (aa (bb rfl (by decide)) (aa (bb (n3 d e).1 (q1 d e).2.2.1) (aa (aQ (bP d e)) (aa (fj (by decide) (i)) (aa (fk (by decide) (g)) (aa (fr) (aa (kK (by decide) h (by show 0≤500;lia) (by decide)) (aa (bB (by decide +kernel) (by decide +kernel)) aq))))))))))))))))))) 855 19 [0,0,2,1,0,0,0,0,0,0,0,2,0,0,0,0,0,28,1,1,0,1,0,23,5,7,7,0,7,0,29,7,0,0,0,0,0,30,7,2,8,9,9,0,9,0,29,9,2,1,2,9,9,0,11,9,0,9,0,36,9,0,0,2,9,9,9,0,9,0,37,9,0,0,0,0,3,0,4,0,0,5,0,0,6,0,7,3,2,4,3,2,9,9,0,9,0,8,10,0,10,10,0,10,0,38,10,0,10,0,10,0,9,10,10,9,10,9,12,11,12,3,3,0,11,0,26,11,10,11,0,10,0,10,0,9,10,10,9,10,9,12,11,12,3,4,0,11,0,26,11,10,11,0,10,0,10,0,9,10,10,9,10,9,16,2,1,12,12,11,2,9,9,0,9,0,8,17,0,17,17,0,17,0,38,17,0,17,0,17,0,9,17,17,9,17,16,19,18,19,3,5,0,18,0,39,0,0,40,18,18,17,0,17,0,17,0,9,17,17,9,17,16,19,18,19,3,6,0,18,0,39,0,0,40,18,18,0,17,0,17,0,9,17,17,9,17,16,21,19,19,18,18,18,18,7,22,22,8,22,9,23,2,1,2,11,11,0,11,0,23,24,0,24,24,0,24,0,43,24,0,24,0,24,0,24,24,24,11,24,23,26,25,26,13,13,0,13,0,23,27,0,27,27,0,27,0,43,27,0,27,0,27,0,24,27,27,13,27,26,29,28,29,10,0,27,0,27,0,24,27,27,13,27,26,29,28,29,11,29,4,12,29,0,28,0,26,28,27,28,0,27,0,27,0,24,27,27,13,27,26,31,29,29,28,0,25,0,26,25,24,25,0,24,0,24,0,24,24,24,11,24,23,26,25,26,14,14,0,14,0,23,32,0,32,32,0,32,0,43,32,0,32,0,32,0,24,32,32,14,32,31,34,33,34,13,0,32,0,32,0,24,32,32,14,32,31,34,33,34,14,34,4,15,34,0,33,0,26,33,32,33,0,32,0,32,0,24,32,32,14,32,31,36,34,34,33,0,25,0,26,25,24,25,0,24,0,24,0,24,24,24,11,24,23,38,2,1,26,26,25,0,0,2,16,2,1,0,0,2,17,2,1,2,2,1,0,0,2,18,40,40,0,40,0,52,40,19,2,3,2,1,2,3,2,20,0,0,14] [0] (fun n k f=>aB [(f 0).2.1+5])
theorem Lu (b:Bool) (w:Yc) (a d e:Str) (c:a∈aD) (g:d∈aD) (h:e∈aD) (k:aP [d,e] [a]=false) (i:aP [a] [d,e]=true) (j:(a.cps.toList != d.cps.toList)=true) (p:af):aC (B0 (W b false w)) 6 (.call (.ref 269) ⟨[.ref (p 1 0)],[]⟩) [(p 1 0,ab [.str ("/" ++ a) (p 1 2),.str ("/" ++ d++("/" ++ e)) (p 1 3)] (p 1 1))] (fun m=>(.ret (.str "/" (m 0)),[ab [.str ("/" ++ a) (p 1 2),.str ("/" ++ d++("/" ++ e)) (p 1 3)] (p 1 1)],[])):=
 aA (orcs:=[dw [6,5,4,0] ("/" ++ a) ("/" ++ d++("/" ++ e)),cb ("/" ++ a) "/" ["",a],cb ("/" ++ d++("/" ++ e)) "/" ["",d,e],o2 "str.startswith" ("/" ++ a) "/" fun _=>.bool true,o2 "str.startswith" ("/" ++ d++("/" ++ e)) "/" fun _=>.bool true,dE w 17,d5 w 21 17,dF w 21 17,a9 "" 0,a9 a ((a.length-1+1:Nat):Int),o2 "str.__ne__" a "." fun _=>.bool true,a9 "" 0,a9 d ((d.length-1+1:Nat):Int),o2 "str.__ne__" d "." fun _=>.bool true,a9 e ((e.length-1+1:Nat):Int),o2 "str.__ne__" e "." fun _=>.bool true,eV [24,27,32] [a] [d,e],eW [24,27,32] [a] [d,e] true,dW 27 (fun p=>bc p 1 [a] 2),jM w [39,38,27,32,1] a d [] [e],bx 40 "/" [] ""]) (aa (fm (by decide) (by decide)) (aa (cv (fV a c)) (aa (cv (d4 d g e h)) (aa (cn (cJ [a] (.inl ⟨a,c,rfl⟩))) (aa (cn (cJ [d,e] (.inr ⟨d,g,e,h,rfl⟩))) (aa (fo) (aa (fp (by decide)) (aa (fq (by decide)) (aa (bb rfl (by decide)) (aa (bb (n3 a c).1 (q1 a c).2.2.1) (aa (aQ (bP a c)) (aa (bb rfl (by decide)) (aa (bb (n3 d g).1 (q1 d g).2.2.1) (aa (aQ (bP d g)) (aa (bb (n3 e h).1 (q1 e h).2.2.1) (aa (aQ (bP e h)) (aa (fj (by decide) (k)) (aa (fk (by decide) (i)) (aa (fr) (aa (kK (by decide) j (by show 0≤500;lia) (by decide)) (aa (bB (by decide +kernel) (by decide +kernel)) aq))))))))))))))))))))) 894 21 [0,0,2,1,0,0,0,0,0,0,0,2,0,0,0,0,0,28,1,1,0,1,0,23,5,7,7,0,7,0,29,7,0,0,0,0,0,30,7,2,8,9,9,0,9,0,29,9,2,1,2,9,9,0,11,9,0,9,0,36,9,0,0,2,9,9,9,0,9,0,37,9,0,0,0,0,3,0,4,0,0,5,0,0,6,0,7,3,2,4,3,2,9,9,0,9,0,8,10,0,10,10,0,10,0,38,10,0,10,0,10,0,9,10,10,9,10,9,12,11,12,3,3,0,11,0,26,11,10,11,0,10,0,10,0,9,10,10,9,10,9,12,11,12,3,4,0,11,0,26,11,10,11,0,10,0,10,0,9,10,10,9,10,9,16,2,1,12,12,11,2,9,9,0,9,0,8,17,0,17,17,0,17,0,38,17,0,17,0,17,0,9,17,17,9,17,16,19,18,19,3,5,0,18,0,39,0,0,40,18,18,17,0,17,0,17,0,9,17,17,9,17,16,19,18,19,3,6,0,18,0,39,0,0,40,18,18,0,17,0,17,0,9,17,17,9,17,16,21,19,19,18,18,18,18,7,22,22,8,22,9,23,2,1,2,11,11,0,11,0,23,24,0,24,24,0,24,0,43,24,0,24,0,24,0,24,24,24,11,24,23,26,25,26,13,13,0,13,0,23,27,0,27,27,0,27,0,43,27,0,27,0,27,0,24,27,27,13,27,26,29,28,29,10,0,27,0,27,0,24,27,27,13,27,26,29,28,29,11,29,4,12,29,0,28,0,26,28,27,28,0,27,0,27,0,24,27,27,13,27,26,31,29,29,28,0,25,0,26,25,24,25,0,24,0,24,0,24,24,24,11,24,23,26,25,26,14,14,0,14,0,23,32,0,32,32,0,32,0,43,32,0,32,0,32,0,24,32,32,14,32,31,34,33,34,13,0,32,0,32,0,24,32,32,14,32,31,34,33,34,14,34,4,15,34,0,33,0,26,33,32,33,0,32,0,32,0,24,32,32,14,32,31,34,33,34,16,34,4,17,34,0,33,0,26,33,32,33,0,32,0,32,0,24,32,32,14,32,31,36,34,34,33,0,25,0,26,25,24,25,0,24,0,24,0,24,24,24,11,24,23,38,2,1,26,26,25,0,0,2,18,2,1,0,0,2,19,2,1,2,2,1,0,0,2,20,40,40,0,40,0,52,40,21,2,3,2,1,2,3,2,22,0,0,14] [0] (fun n o f=>aB [(f 0).2.1+5])
theorem Lw (b:Bool) (w:Yc) (a g d:Str) (c:a∈aD) (h:g∈aD) (e:d∈aD) (k:aP [d] [a,g]=false) (i:aP [a,g] [d]=true) (j:(a.cps.toList != d.cps.toList)=true) (p:af):aC (B0 (W b false w)) 6 (.call (.ref 269) ⟨[.ref (p 1 0)],[]⟩) [(p 1 0,ab [.str ("/" ++ a++("/" ++ g)) (p 1 2),.str ("/" ++ d) (p 1 3)] (p 1 1))] (fun m=>(.ret (.str "/" (m 0)),[ab [.str ("/" ++ a++("/" ++ g)) (p 1 2),.str ("/" ++ d) (p 1 3)] (p 1 1)],[])):=
 aA (orcs:=[dw [6,5,4,0] ("/" ++ a++("/" ++ g)) ("/" ++ d),cb ("/" ++ a++("/" ++ g)) "/" ["",a,g],cb ("/" ++ d) "/" ["",d],o2 "str.startswith" ("/" ++ a++("/" ++ g)) "/" fun _=>.bool true,o2 "str.startswith" ("/" ++ d) "/" fun _=>.bool true,dE w 17,d5 w 21 17,dF w 21 17,a9 "" 0,a9 a ((a.length-1+1:Nat):Int),o2 "str.__ne__" a "." fun _=>.bool true,a9 g ((g.length-1+1:Nat):Int),o2 "str.__ne__" g "." fun _=>.bool true,a9 "" 0,a9 d ((d.length-1+1:Nat):Int),o2 "str.__ne__" d "." fun _=>.bool true,eV [24,27,32] [a,g] [d],eW [24,27,32] [a,g] [d] true,dW 27 (fun p=>bc p 1 [a,g] 2),jM w [39,38,27,32,1] a d [g] [],bx 40 "/" [] ""]) (aa (fm (by decide) (by decide)) (aa (cv (d4 a c g h)) (aa (cv (fV d e)) (aa (cn (cJ [a,g] (.inr ⟨a,c,g,h,rfl⟩))) (aa (cn (cJ [d] (.inl ⟨d,e,rfl⟩))) (aa (fo) (aa (fp (by decide)) (aa (fq (by decide)) (aa (bb rfl (by decide)) (aa (bb (n3 a c).1 (q1 a c).2.2.1) (aa (aQ (bP a c)) (aa (bb (n3 g h).1 (q1 g h).2.2.1) (aa (aQ (bP g h)) (aa (bb rfl (by decide)) (aa (bb (n3 d e).1 (q1 d e).2.2.1) (aa (aQ (bP d e)) (aa (fj (by decide) (k)) (aa (fk (by decide) (i)) (aa (fr) (aa (kK (by decide) j (by show 1≤500;lia) (by decide)) (aa (bB (by decide +kernel) (by decide +kernel)) aq))))))))))))))))))))) 894 21 [0,0,2,1,0,0,0,0,0,0,0,2,0,0,0,0,0,28,1,1,0,1,0,23,5,7,7,0,7,0,29,7,0,0,0,0,0,30,7,2,8,9,9,0,9,0,29,9,2,1,2,9,9,0,11,9,0,9,0,36,9,0,0,2,9,9,9,0,9,0,37,9,0,0,0,0,3,0,4,0,0,5,0,0,6,0,7,3,2,4,3,2,9,9,0,9,0,8,10,0,10,10,0,10,0,38,10,0,10,0,10,0,9,10,10,9,10,9,12,11,12,3,3,0,11,0,26,11,10,11,0,10,0,10,0,9,10,10,9,10,9,12,11,12,3,4,0,11,0,26,11,10,11,0,10,0,10,0,9,10,10,9,10,9,16,2,1,12,12,11,2,9,9,0,9,0,8,17,0,17,17,0,17,0,38,17,0,17,0,17,0,9,17,17,9,17,16,19,18,19,3,5,0,18,0,39,0,0,40,18,18,17,0,17,0,17,0,9,17,17,9,17,16,19,18,19,3,6,0,18,0,39,0,0,40,18,18,0,17,0,17,0,9,17,17,9,17,16,21,19,19,18,18,18,18,7,22,22,8,22,9,23,2,1,2,11,11,0,11,0,23,24,0,24,24,0,24,0,43,24,0,24,0,24,0,24,24,24,11,24,23,26,25,26,13,13,0,13,0,23,27,0,27,27,0,27,0,43,27,0,27,0,27,0,24,27,27,13,27,26,29,28,29,10,0,27,0,27,0,24,27,27,13,27,26,29,28,29,11,29,4,12,29,0,28,0,26,28,27,28,0,27,0,27,0,24,27,27,13,27,26,29,28,29,13,29,4,14,29,0,28,0,26,28,27,28,0,27,0,27,0,24,27,27,13,27,26,31,29,29,28,0,25,0,26,25,24,25,0,24,0,24,0,24,24,24,11,24,23,26,25,26,14,14,0,14,0,23,32,0,32,32,0,32,0,43,32,0,32,0,32,0,24,32,32,14,32,31,34,33,34,15,0,32,0,32,0,24,32,32,14,32,31,34,33,34,16,34,4,17,34,0,33,0,26,33,32,33,0,32,0,32,0,24,32,32,14,32,31,36,34,34,33,0,25,0,26,25,24,25,0,24,0,24,0,24,24,24,11,24,23,38,2,1,26,26,25,0,0,2,18,2,1,0,0,2,19,2,1,2,2,1,0,0,2,20,40,40,0,40,0,52,40,21,2,3,2,1,2,3,2,22,0,0,14] [0] (fun n o f=>aB [(f 0).2.1+5])
theorem Lx (b:Bool) (w:Yc) (a g d e:Str) (c:a∈aD) (i:g∈aD) (h:d∈aD) (j:e∈aD) (m:aP [d,e] [a,g]=false) (o:aP [a,g] [d,e]=true) (q:(a.cps.toList != d.cps.toList)=true) (p:af):aC (B0 (W b false w)) 6 (.call (.ref 269) ⟨[.ref (p 1 0)],[]⟩) [(p 1 0,ab [.str ("/" ++ a++("/" ++ g)) (p 1 2),.str ("/" ++ d++("/" ++ e)) (p 1 3)] (p 1 1))] (fun k=>(.ret (.str "/" (k 0)),[ab [.str ("/" ++ a++("/" ++ g)) (p 1 2),.str ("/" ++ d++("/" ++ e)) (p 1 3)] (p 1 1)],[])):=
 aA (orcs:=[dw [6,5,4,0] ("/" ++ a++("/" ++ g)) ("/" ++ d++("/" ++ e)),cb ("/" ++ a++("/" ++ g)) "/" ["",a,g],cb ("/" ++ d++("/" ++ e)) "/" ["",d,e],o2 "str.startswith" ("/" ++ a++("/" ++ g)) "/" fun _=>.bool true,o2 "str.startswith" ("/" ++ d++("/" ++ e)) "/" fun _=>.bool true,dE w 17,d5 w 21 17,dF w 21 17,a9 "" 0,a9 a ((a.length-1+1:Nat):Int),o2 "str.__ne__" a "." fun _=>.bool true,a9 g ((g.length-1+1:Nat):Int),o2 "str.__ne__" g "." fun _=>.bool true,a9 "" 0,a9 d ((d.length-1+1:Nat):Int),o2 "str.__ne__" d "." fun _=>.bool true,a9 e ((e.length-1+1:Nat):Int),o2 "str.__ne__" e "." fun _=>.bool true,eV [24,27,32] [a,g] [d,e],eW [24,27,32] [a,g] [d,e] true,dW 27 (fun p=>bc p 1 [a,g] 2),jM w [39,38,27,32,1] a d [g] [e],bx 40 "/" [] ""]) (aa (fm (by decide) (by decide)) (aa (cv (d4 a c g i)) (aa (cv (d4 d h e j)) (aa (cn (cJ [a,g] (.inr ⟨a,c,g,i,rfl⟩))) (aa (cn (cJ [d,e] (.inr ⟨d,h,e,j,rfl⟩))) (aa (fo) (aa (fp (by decide)) (aa (fq (by decide)) (aa (bb rfl (by decide)) (aa (bb (n3 a c).1 (q1 a c).2.2.1) (aa (aQ (bP a c)) (aa (bb (n3 g i).1 (q1 g i).2.2.1) (aa (aQ (bP g i)) (aa (bb rfl (by decide)) (aa (bb (n3 d h).1 (q1 d h).2.2.1) (aa (aQ (bP d h)) (aa (bb (n3 e j).1 (q1 e j).2.2.1) (aa (aQ (bP e j)) (aa (fj (by decide) (m)) (aa (fk (by decide) (o)) (aa (fr) (aa (kK (by decide) q (by show 1≤500;lia) (by decide)) (aa (bB (by decide +kernel) (by decide +kernel)) aq))))))))))))))))))))))) 933 23 [0,0,2,1,0,0,0,0,0,0,0,2,0,0,0,0,0,28,1,1,0,1,0,23,5,7,7,0,7,0,29,7,0,0,0,0,0,30,7,2,8,9,9,0,9,0,29,9,2,1,2,9,9,0,11,9,0,9,0,36,9,0,0,2,9,9,9,0,9,0,37,9,0,0,0,0,3,0,4,0,0,5,0,0,6,0,7,3,2,4,3,2,9,9,0,9,0,8,10,0,10,10,0,10,0,38,10,0,10,0,10,0,9,10,10,9,10,9,12,11,12,3,3,0,11,0,26,11,10,11,0,10,0,10,0,9,10,10,9,10,9,12,11,12,3,4,0,11,0,26,11,10,11,0,10,0,10,0,9,10,10,9,10,9,16,2,1,12,12,11,2,9,9,0,9,0,8,17,0,17,17,0,17,0,38,17,0,17,0,17,0,9,17,17,9,17,16,19,18,19,3,5,0,18,0,39,0,0,40,18,18,17,0,17,0,17,0,9,17,17,9,17,16,19,18,19,3,6,0,18,0,39,0,0,40,18,18,0,17,0,17,0,9,17,17,9,17,16,21,19,19,18,18,18,18,7,22,22,8,22,9,23,2,1,2,11,11,0,11,0,23,24,0,24,24,0,24,0,43,24,0,24,0,24,0,24,24,24,11,24,23,26,25,26,13,13,0,13,0,23,27,0,27,27,0,27,0,43,27,0,27,0,27,0,24,27,27,13,27,26,29,28,29,10,0,27,0,27,0,24,27,27,13,27,26,29,28,29,11,29,4,12,29,0,28,0,26,28,27,28,0,27,0,27,0,24,27,27,13,27,26,29,28,29,13,29,4,14,29,0,28,0,26,28,27,28,0,27,0,27,0,24,27,27,13,27,26,31,29,29,28,0,25,0,26,25,24,25,0,24,0,24,0,24,24,24,11,24,23,26,25,26,14,14,0,14,0,23,32,0,32,32,0,32,0,43,32,0,32,0,32,0,24,32,32,14,32,31,34,33,34,15,0,32,0,32,0,24,32,32,14,32,31,34,33,34,16,34,4,17,34,0,33,0,26,33,32,33,0,32,0,32,0,24,32,32,14,32,31,34,33,34,18,34,4,19,34,0,33,0,26,33,32,33,0,32,0,32,0,24,32,32,14,32,31,36,34,34,33,0,25,0,26,25,24,25,0,24,0,24,0,24,24,24,11,24,23,38,2,1,26,26,25,0,0,2,20,2,1,0,0,2,21,2,1,2,2,1,0,0,2,22,40,40,0,40,0,52,40,23,2,3,2,1,2,3,2,24,0,0,14] [0] (fun n s f=>aB [(f 0).2.1+5])
theorem Ly (b:Bool) (w:Yc) (a g e:Str) (c:a∈aD) (d:g∈aD) (h:e∈aD) (m:aP [a,e] [a,g]=false) (j:aP [a,g] [a,e]=true) (k:(g.cps.toList != e.cps.toList)=true) (p:af):aC (B0 (W b false w)) 6 (.call (.ref 269) ⟨[.ref (p 1 0)],[]⟩) [(p 1 0,ab [.str ("/" ++ a++("/" ++ g)) (p 1 2),.str ("/" ++ a++("/" ++ e)) (p 1 3)] (p 1 1))] (fun i=>(.ret (.str ("/" ++ a) (i 0)),[ab [.str ("/" ++ a++("/" ++ g)) (p 1 2),.str ("/" ++ a++("/" ++ e)) (p 1 3)] (p 1 1)],[])):=
 aA (orcs:=[dw [6,5,4,0] ("/" ++ a++("/" ++ g)) ("/" ++ a++("/" ++ e)),cb ("/" ++ a++("/" ++ g)) "/" ["",a,g],cb ("/" ++ a++("/" ++ e)) "/" ["",a,e],o2 "str.startswith" ("/" ++ a++("/" ++ g)) "/" fun _=>.bool true,o2 "str.startswith" ("/" ++ a++("/" ++ e)) "/" fun _=>.bool true,dE w 17,d5 w 21 17,dF w 21 17,a9 "" 0,a9 a ((a.length-1+1:Nat):Int),o2 "str.__ne__" a "." fun _=>.bool true,a9 g ((g.length-1+1:Nat):Int),o2 "str.__ne__" g "." fun _=>.bool true,a9 "" 0,a9 a ((a.length-1+1:Nat):Int),o2 "str.__ne__" a "." fun _=>.bool true,a9 e ((e.length-1+1:Nat):Int),o2 "str.__ne__" e "." fun _=>.bool true,eV [24,27,32] [a,g] [a,e],eW [24,27,32] [a,g] [a,e] true,dW 27 (fun p=>bc p 1 [a,g] 2),wu w [39,38,27,32,1] a g a e,bx 40 "/" [a] a,o2 "str.__add__" "/" a fun i=>.str ("/" ++ a) (i 0)]) (aa (fm (by decide) (by decide)) (aa (cv (d4 a c g d)) (aa (cv (d4 a c e h)) (aa (cn (cJ [a,g] (.inr ⟨a,c,g,d,rfl⟩))) (aa (cn (cJ [a,e] (.inr ⟨a,c,e,h,rfl⟩))) (aa (fo) (aa (fp (by decide)) (aa (fq (by decide)) (aa (bb rfl (by decide)) (aa (bb (n3 a c).1 (q1 a c).2.2.1) (aa (aQ (bP a c)) (aa (bb (n3 g d).1 (q1 g d).2.2.1) (aa (aQ (bP g d)) (aa (bb rfl (by decide)) (aa (bb (n3 a c).1 (q1 a c).2.2.1) (aa (aQ (bP a c)) (aa (bb (n3 e h).1 (q1 e h).2.2.1) (aa (aQ (bP e h)) (aa (fj (by decide) (m)) (aa (fk (by decide) (j)) (aa (fr) (aa (BW (by decide) (bne_self_eq_false _) k (by decide)) (aa (bB (n3 a c).2.2.2.2.2.1 (n3 a c).2.2.2.2.2.2) (aa (fY rfl (by decide +kernel) (dc a c).2.1 (dc a c).2.2) aq)))))))))))))))))))))))) 930 24 [0,0,2,1,0,0,0,0,0,0,0,2,0,0,0,0,0,28,1,1,0,1,0,23,5,7,7,0,7,0,29,7,0,0,0,0,0,30,7,2,8,9,9,0,9,0,29,9,2,1,2,9,9,0,11,9,0,9,0,36,9,0,0,2,9,9,9,0,9,0,37,9,0,0,0,0,3,0,4,0,0,5,0,0,6,0,7,3,2,4,3,2,9,9,0,9,0,8,10,0,10,10,0,10,0,38,10,0,10,0,10,0,9,10,10,9,10,9,12,11,12,3,3,0,11,0,26,11,10,11,0,10,0,10,0,9,10,10,9,10,9,12,11,12,3,4,0,11,0,26,11,10,11,0,10,0,10,0,9,10,10,9,10,9,16,2,1,12,12,11,2,9,9,0,9,0,8,17,0,17,17,0,17,0,38,17,0,17,0,17,0,9,17,17,9,17,16,19,18,19,3,5,0,18,0,39,0,0,40,18,18,17,0,17,0,17,0,9,17,17,9,17,16,19,18,19,3,6,0,18,0,39,0,0,40,18,18,0,17,0,17,0,9,17,17,9,17,16,21,19,19,18,18,18,18,7,22,22,8,22,9,23,2,1,2,11,11,0,11,0,23,24,0,24,24,0,24,0,43,24,0,24,0,24,0,24,24,24,11,24,23,26,25,26,13,13,0,13,0,23,27,0,27,27,0,27,0,43,27,0,27,0,27,0,24,27,27,13,27,26,29,28,29,10,0,27,0,27,0,24,27,27,13,27,26,29,28,29,11,29,4,12,29,0,28,0,26,28,27,28,0,27,0,27,0,24,27,27,13,27,26,29,28,29,13,29,4,14,29,0,28,0,26,28,27,28,0,27,0,27,0,24,27,27,13,27,26,31,29,29,28,0,25,0,26,25,24,25,0,24,0,24,0,24,24,24,11,24,23,26,25,26,14,14,0,14,0,23,32,0,32,32,0,32,0,43,32,0,32,0,32,0,24,32,32,14,32,31,34,33,34,15,0,32,0,32,0,24,32,32,14,32,31,34,33,34,16,34,4,17,34,0,33,0,26,33,32,33,0,32,0,32,0,24,32,32,14,32,31,34,33,34,18,34,4,19,34,0,33,0,26,33,32,33,0,32,0,32,0,24,32,32,14,32,31,36,34,34,33,0,25,0,26,25,24,25,0,24,0,24,0,24,24,24,11,24,23,38,2,1,26,26,25,0,0,2,20,2,1,0,0,2,21,2,1,2,2,1,0,0,2,22,40,40,0,40,0,52,40,23,2,3,2,1,2,3,2,24,25] [0] (fun n o f=>aB [(f 23).2.2 0])
end
section
theorem Lz (b:Bool) (w:Yc) (a:Str) (c:a∈aD) (p:af):aC (B0 (W b true w)) 6 (.call (.ref 269) ⟨[.ref (p 1 0)],[]⟩) [(p 1 0,ab [.str ("/" ++ a) (p 1 2),.str ("/" ++ a) (p 1 3)] (p 1 1))] (fun d=>(.ret (.str ("/" ++ a) (d 0)),[ab [.str ("/" ++ a) (p 1 2),.str ("/" ++ a) (p 1 3)] (p 1 1)],[])):=
 aA (orcs:=[dw [6,5,4,0] ("/" ++ a) ("/" ++ a),cb ("/" ++ a) "/" ["",a],cb ("/" ++ a) "/" ["",a],o2 "str.startswith" ("/" ++ a) "/" fun _=>.bool true,o2 "str.startswith" ("/" ++ a) "/" fun _=>.bool true,dE w 17,d5 w 21 17,dF w 21 17,a9 "" 0,a9 a ((a.length-1+1:Nat):Int),o2 "str.__ne__" a "." fun _=>.bool true,a9 "" 0,a9 a ((a.length-1+1:Nat):Int),o2 "str.__ne__" a "." fun _=>.bool true,eV [24,27,32] [a] [a],eW [24,27,32] [a] [a] false,dW 27 (fun p=>bc p 1 [a] 2),wq w [39,38,27,1] a,bx 27 "/" [a] a,o2 "str.__add__" "/" a fun d=>.str ("/" ++ a) (d 0)]) (aa (fm (by decide) (by decide)) (aa (cv (fV a c)) (aa (cv (fV a c)) (aa (cn (cJ [a] (.inl ⟨a,c,rfl⟩))) (aa (cn (cJ [a] (.inl ⟨a,c,rfl⟩))) (aa (fo) (aa (fp (by decide)) (aa (fq (by decide)) (aa (bb rfl (by decide)) (aa (bb (n3 a c).1 (q1 a c).2.2.1) (aa (aQ (bP a c)) (aa (bb rfl (by decide)) (aa (bb (n3 a c).1 (q1 a c).2.2.1) (aa (aQ (bP a c)) (aa (fj (by decide) (jN [a])) (aa (fk (by decide) (jN [a])) (aa (fr) (aa (BS (by decide) (by decide)) (aa (bB (n3 a c).2.2.2.2.2.1 (n3 a c).2.2.2.2.2.2) (aa (fY rfl (by decide +kernel) (dc a c).2.1 (dc a c).2.2) aq)))))))))))))))))))) 802 20 [0,0,2,1,0,0,0,0,0,0,0,2,0,0,0,0,0,28,1,1,0,1,0,23,5,7,7,0,7,0,29,7,0,0,0,0,0,30,7,2,8,9,9,0,9,0,29,9,2,1,2,9,9,0,11,9,0,9,0,36,9,0,0,2,9,9,9,0,9,0,37,9,0,0,0,0,3,0,4,0,0,5,0,0,6,0,7,3,2,4,3,2,9,9,0,9,0,8,10,0,0,10,0,10,0,9,10,10,9,10,9,12,11,12,3,3,0,11,0,26,11,10,11,0,10,0,10,0,9,10,10,9,10,9,12,11,12,3,4,0,11,0,26,11,10,11,0,10,0,10,0,9,10,10,9,10,9,16,2,1,12,12,11,2,9,9,0,9,0,8,17,0,0,17,0,17,0,9,17,17,9,17,16,19,18,19,3,5,0,18,0,39,0,0,40,18,18,17,0,17,0,17,0,9,17,17,9,17,16,19,18,19,3,6,0,18,0,39,0,0,40,18,18,0,17,0,17,0,9,17,17,9,17,16,21,19,19,18,18,18,18,7,22,22,8,22,9,23,2,1,2,11,11,0,11,0,23,24,0,0,24,0,24,0,24,24,24,11,24,23,26,25,26,13,13,0,13,0,23,27,0,0,27,0,27,0,24,27,27,13,27,26,29,28,29,10,0,27,0,27,0,24,27,27,13,27,26,29,28,29,11,29,4,12,29,0,28,0,26,28,27,28,0,27,0,27,0,24,27,27,13,27,26,31,29,29,28,0,25,0,26,25,24,25,0,24,0,24,0,24,24,24,11,24,23,26,25,26,14,14,0,14,0,23,32,0,0,32,0,32,0,24,32,32,14,32,31,34,33,34,13,0,32,0,32,0,24,32,32,14,32,31,34,33,34,14,34,4,15,34,0,33,0,26,33,32,33,0,32,0,32,0,24,32,32,14,32,31,36,34,34,33,0,25,0,26,25,24,25,0,24,0,24,0,24,24,24,11,24,23,38,2,1,26,26,25,0,0,2,16,2,1,0,0,2,17,2,1,2,2,1,0,0,2,18,40,40,0,40,0,52,40,19,2,3,2,1,2,3,2,20,21] [0] (fun n e f=>aB [(f 19).2.2 0])
theorem LA (b:Bool) (w:Yc) (a g:Str) (c:a∈aD) (d:g∈aD) (p:af):aC (B0 (W b true w)) 6 (.call (.ref 269) ⟨[.ref (p 1 0)],[]⟩) [(p 1 0,ab [.str ("/" ++ a++("/" ++ g)) (p 1 2),.str ("/" ++ a++("/" ++ g)) (p 1 3)] (p 1 1))] (fun e=>(.ret (.str ("/" ++ a++("/" ++ g)) (e 0)),[ab [.str ("/" ++ a++("/" ++ g)) (p 1 2),.str ("/" ++ a++("/" ++ g)) (p 1 3)] (p 1 1)],[])):=
 aA (orcs:=[dw [6,5,4,0] ("/" ++ a++("/" ++ g)) ("/" ++ a++("/" ++ g)),cb ("/" ++ a++("/" ++ g)) "/" ["",a,g],cb ("/" ++ a++("/" ++ g)) "/" ["",a,g],o2 "str.startswith" ("/" ++ a++("/" ++ g)) "/" fun _=>.bool true,o2 "str.startswith" ("/" ++ a++("/" ++ g)) "/" fun _=>.bool true,dE w 17,d5 w 21 17,dF w 21 17,a9 "" 0,a9 a ((a.length-1+1:Nat):Int),o2 "str.__ne__" a "." fun _=>.bool true,a9 g ((g.length-1+1:Nat):Int),o2 "str.__ne__" g "." fun _=>.bool true,a9 "" 0,a9 a ((a.length-1+1:Nat):Int),o2 "str.__ne__" a "." fun _=>.bool true,a9 g ((g.length-1+1:Nat):Int),o2 "str.__ne__" g "." fun _=>.bool true,eV [24,27,32] [a,g] [a,g],eW [24,27,32] [a,g] [a,g] false,dW 27 (fun p=>bc p 1 [a,g] 2),wr w [39,38,27,1] a g,bx 27 "/" [a,g] (a++("/" ++ g)),o2 "str.__add__" "/" (a++("/" ++ g)) fun e=>.str ("/" ++ a++("/" ++ g)) (e 0)]) (aa (fm (by decide) (by decide)) (aa (cv (d4 a c g d)) (aa (cv (d4 a c g d)) (aa (cn (cJ [a,g] (.inr ⟨a,c,g,d,rfl⟩))) (aa (cn (cJ [a,g] (.inr ⟨a,c,g,d,rfl⟩))) (aa (fo) (aa (fp (by decide)) (aa (fq (by decide)) (aa (bb rfl (by decide)) (aa (bb (n3 a c).1 (q1 a c).2.2.1) (aa (aQ (bP a c)) (aa (bb (n3 g d).1 (q1 g d).2.2.1) (aa (aQ (bP g d)) (aa (bb rfl (by decide)) (aa (bb (n3 a c).1 (q1 a c).2.2.1) (aa (aQ (bP a c)) (aa (bb (n3 g d).1 (q1 g d).2.2.1) (aa (aQ (bP g d)) (aa (fj (by decide) (jN [a,g])) (aa (fk (by decide) (jN [a,g])) (aa (fr) (aa (BU (by decide) (by decide)) (aa (bB (n4 a c g d).2.2.1 (n4 a c g d).2.2.2.1) (aa (fY (n5 a c g d).1 (by decide +kernel) (n5 a c g d).2 (pf a c g d)) aq)))))))))))))))))))))))) 880 24 [0,0,2,1,0,0,0,0,0,0,0,2,0,0,0,0,0,28,1,1,0,1,0,23,5,7,7,0,7,0,29,7,0,0,0,0,0,30,7,2,8,9,9,0,9,0,29,9,2,1,2,9,9,0,11,9,0,9,0,36,9,0,0,2,9,9,9,0,9,0,37,9,0,0,0,0,3,0,4,0,0,5,0,0,6,0,7,3,2,4,3,2,9,9,0,9,0,8,10,0,0,10,0,10,0,9,10,10,9,10,9,12,11,12,3,3,0,11,0,26,11,10,11,0,10,0,10,0,9,10,10,9,10,9,12,11,12,3,4,0,11,0,26,11,10,11,0,10,0,10,0,9,10,10,9,10,9,16,2,1,12,12,11,2,9,9,0,9,0,8,17,0,0,17,0,17,0,9,17,17,9,17,16,19,18,19,3,5,0,18,0,39,0,0,40,18,18,17,0,17,0,17,0,9,17,17,9,17,16,19,18,19,3,6,0,18,0,39,0,0,40,18,18,0,17,0,17,0,9,17,17,9,17,16,21,19,19,18,18,18,18,7,22,22,8,22,9,23,2,1,2,11,11,0,11,0,23,24,0,0,24,0,24,0,24,24,24,11,24,23,26,25,26,13,13,0,13,0,23,27,0,0,27,0,27,0,24,27,27,13,27,26,29,28,29,10,0,27,0,27,0,24,27,27,13,27,26,29,28,29,11,29,4,12,29,0,28,0,26,28,27,28,0,27,0,27,0,24,27,27,13,27,26,29,28,29,13,29,4,14,29,0,28,0,26,28,27,28,0,27,0,27,0,24,27,27,13,27,26,31,29,29,28,0,25,0,26,25,24,25,0,24,0,24,0,24,24,24,11,24,23,26,25,26,14,14,0,14,0,23,32,0,0,32,0,32,0,24,32,32,14,32,31,34,33,34,15,0,32,0,32,0,24,32,32,14,32,31,34,33,34,16,34,4,17,34,0,33,0,26,33,32,33,0,32,0,32,0,24,32,32,14,32,31,34,33,34,18,34,4,19,34,0,33,0,26,33,32,33,0,32,0,32,0,24,32,32,14,32,31,36,34,34,33,0,25,0,26,25,24,25,0,24,0,24,0,24,24,24,11,24,23,38,2,1,26,26,25,0,0,2,20,2,1,0,0,2,21,2,1,2,2,1,0,0,2,22,40,40,0,40,0,52,40,23,2,3,2,1,2,3,2,24,25] [0] (fun n h f=>aB [(f 23).2.2 0])
theorem LB (b:Bool) (w:Yc) (a e:Str) (c:a∈aD) (d:e∈aD) (i:aP [a,e] [a]=false) (h:aP [a] [a,e]=true) (p:af):aC (B0 (W b true w)) 6 (.call (.ref 269) ⟨[.ref (p 1 0)],[]⟩) [(p 1 0,ab [.str ("/" ++ a) (p 1 2),.str ("/" ++ a++("/" ++ e)) (p 1 3)] (p 1 1))] (fun g=>(.ret (.str ("/" ++ a) (g 0)),[ab [.str ("/" ++ a) (p 1 2),.str ("/" ++ a++("/" ++ e)) (p 1 3)] (p 1 1)],[])):=
 aA (orcs:=[dw [6,5,4,0] ("/" ++ a) ("/" ++ a++("/" ++ e)),cb ("/" ++ a) "/" ["",a],cb ("/" ++ a++("/" ++ e)) "/" ["",a,e],o2 "str.startswith" ("/" ++ a) "/" fun _=>.bool true,o2 "str.startswith" ("/" ++ a++("/" ++ e)) "/" fun _=>.bool true,dE w 17,d5 w 21 17,dF w 21 17,a9 "" 0,a9 a ((a.length-1+1:Nat):Int),o2 "str.__ne__" a "." fun _=>.bool true,a9 "" 0,a9 a ((a.length-1+1:Nat):Int),o2 "str.__ne__" a "." fun _=>.bool true,a9 e ((e.length-1+1:Nat):Int),o2 "str.__ne__" e "." fun _=>.bool true,eV [24,27,32] [a] [a,e],eW [24,27,32] [a] [a,e] true,dW 27 (fun p=>bc p 1 [a] 2),wt w [39,38,27,32,1] a a [e],bx 27 "/" [a] a,o2 "str.__add__" "/" a fun g=>.str ("/" ++ a) (g 0)]) (aa (fm (by decide) (by decide)) (aa (cv (fV a c)) (aa (cv (d4 a c e d)) (aa (cn (cJ [a] (.inl ⟨a,c,rfl⟩))) (aa (cn (cJ [a,e] (.inr ⟨a,c,e,d,rfl⟩))) (aa (fo) (aa (fp (by decide)) (aa (fq (by decide)) (aa (bb rfl (by decide)) (aa (bb (n3 a c).1 (q1 a c).2.2.1) (aa (aQ (bP a c)) (aa (bb rfl (by decide)) (aa (bb (n3 a c).1 (q1 a c).2.2.1) (aa (aQ (bP a c)) (aa (bb (n3 e d).1 (q1 e d).2.2.1) (aa (aQ (bP e d)) (aa (fj (by decide) (i)) (aa (fk (by decide) (h)) (aa (fr) (aa (BV (by decide) (bne_self_eq_false _) (by decide)) (aa (bB (n3 a c).2.2.2.2.2.1 (n3 a c).2.2.2.2.2.2) (aa (fY rfl (by decide +kernel) (dc a c).2.1 (dc a c).2.2) aq)))))))))))))))))))))) 841 22 [0,0,2,1,0,0,0,0,0,0,0,2,0,0,0,0,0,28,1,1,0,1,0,23,5,7,7,0,7,0,29,7,0,0,0,0,0,30,7,2,8,9,9,0,9,0,29,9,2,1,2,9,9,0,11,9,0,9,0,36,9,0,0,2,9,9,9,0,9,0,37,9,0,0,0,0,3,0,4,0,0,5,0,0,6,0,7,3,2,4,3,2,9,9,0,9,0,8,10,0,0,10,0,10,0,9,10,10,9,10,9,12,11,12,3,3,0,11,0,26,11,10,11,0,10,0,10,0,9,10,10,9,10,9,12,11,12,3,4,0,11,0,26,11,10,11,0,10,0,10,0,9,10,10,9,10,9,16,2,1,12,12,11,2,9,9,0,9,0,8,17,0,0,17,0,17,0,9,17,17,9,17,16,19,18,19,3,5,0,18,0,39,0,0,40,18,18,17,0,17,0,17,0,9,17,17,9,17,16,19,18,19,3,6,0,18,0,39,0,0,40,18,18,0,17,0,17,0,9,17,17,9,17,16,21,19,19,18,18,18,18,7,22,22,8,22,9,23,2,1,2,11,11,0,11,0,23,24,0,0,24,0,24,0,24,24,24,11,24,23,26,25,26,13,13,0,13,0,23,27,0,0,27,0,27,0,24,27,27,13,27,26,29,28,29,10,0,27,0,27,0,24,27,27,13,27,26,29,28,29,11,29,4,12,29,0,28,0,26,28,27,28,0,27,0,27,0,24,27,27,13,27,26,31,29,29,28,0,25,0,26,25,24,25,0,24,0,24,0,24,24,24,11,24,23,26,25,26,14,14,0,14,0,23,32,0,0,32,0,32,0,24,32,32,14,32,31,34,33,34,13,0,32,0,32,0,24,32,32,14,32,31,34,33,34,14,34,4,15,34,0,33,0,26,33,32,33,0,32,0,32,0,24,32,32,14,32,31,34,33,34,16,34,4,17,34,0,33,0,26,33,32,33,0,32,0,32,0,24,32,32,14,32,31,36,34,34,33,0,25,0,26,25,24,25,0,24,0,24,0,24,24,24,11,24,23,38,2,1,26,26,25,0,0,2,18,2,1,0,0,2,19,2,1,2,2,1,0,0,2,20,40,40,0,40,0,52,40,21,2,3,2,1,2,3,2,22,23] [0] (fun n j f=>aB [(f 21).2.2 0])
theorem LC (b:Bool) (w:Yc) (a d:Str) (c:a∈aD) (e:d∈aD) (i:aP [d] [a]=false) (g:aP [a] [d]=true) (h:(a.cps.toList != d.cps.toList)=true) (p:af):aC (B0 (W b true w)) 6 (.call (.ref 269) ⟨[.ref (p 1 0)],[]⟩) [(p 1 0,ab [.str ("/" ++ a) (p 1 2),.str ("/" ++ d) (p 1 3)] (p 1 1))] (fun j=>(.ret (.str "/" (j 0)),[ab [.str ("/" ++ a) (p 1 2),.str ("/" ++ d) (p 1 3)] (p 1 1)],[])):=
 aA (orcs:=[dw [6,5,4,0] ("/" ++ a) ("/" ++ d),cb ("/" ++ a) "/" ["",a],cb ("/" ++ d) "/" ["",d],o2 "str.startswith" ("/" ++ a) "/" fun _=>.bool true,o2 "str.startswith" ("/" ++ d) "/" fun _=>.bool true,dE w 17,d5 w 21 17,dF w 21 17,a9 "" 0,a9 a ((a.length-1+1:Nat):Int),o2 "str.__ne__" a "." fun _=>.bool true,a9 "" 0,a9 d ((d.length-1+1:Nat):Int),o2 "str.__ne__" d "." fun _=>.bool true,eV [24,27,32] [a] [d],eW [24,27,32] [a] [d] true,dW 27 (fun p=>bc p 1 [a] 2),jM w [39,38,27,32,1] a d [] [],bx 40 "/" [] ""]) (aa (fm (by decide) (by decide)) (aa (cv (fV a c)) (aa (cv (fV d e)) (aa (cn (cJ [a] (.inl ⟨a,c,rfl⟩))) (aa (cn (cJ [d] (.inl ⟨d,e,rfl⟩))) (aa (fo) (aa (fp (by decide)) (aa (fq (by decide)) (aa (bb rfl (by decide)) (aa (bb (n3 a c).1 (q1 a c).2.2.1) (aa (aQ (bP a c)) (aa (bb rfl (by decide)) (aa (bb (n3 d e).1 (q1 d e).2.2.1) (aa (aQ (bP d e)) (aa (fj (by decide) (i)) (aa (fk (by decide) (g)) (aa (fr) (aa (kK (by decide) h (by show 0≤500;lia) (by decide)) (aa (bB (by decide +kernel) (by decide +kernel)) aq))))))))))))))))))) 805 19 [0,0,2,1,0,0,0,0,0,0,0,2,0,0,0,0,0,28,1,1,0,1,0,23,5,7,7,0,7,0,29,7,0,0,0,0,0,30,7,2,8,9,9,0,9,0,29,9,2,1,2,9,9,0,11,9,0,9,0,36,9,0,0,2,9,9,9,0,9,0,37,9,0,0,0,0,3,0,4,0,0,5,0,0,6,0,7,3,2,4,3,2,9,9,0,9,0,8,10,0,0,10,0,10,0,9,10,10,9,10,9,12,11,12,3,3,0,11,0,26,11,10,11,0,10,0,10,0,9,10,10,9,10,9,12,11,12,3,4,0,11,0,26,11,10,11,0,10,0,10,0,9,10,10,9,10,9,16,2,1,12,12,11,2,9,9,0,9,0,8,17,0,0,17,0,17,0,9,17,17,9,17,16,19,18,19,3,5,0,18,0,39,0,0,40,18,18,17,0,17,0,17,0,9,17,17,9,17,16,19,18,19,3,6,0,18,0,39,0,0,40,18,18,0,17,0,17,0,9,17,17,9,17,16,21,19,19,18,18,18,18,7,22,22,8,22,9,23,2,1,2,11,11,0,11,0,23,24,0,0,24,0,24,0,24,24,24,11,24,23,26,25,26,13,13,0,13,0,23,27,0,0,27,0,27,0,24,27,27,13,27,26,29,28,29,10,0,27,0,27,0,24,27,27,13,27,26,29,28,29,11,29,4,12,29,0,28,0,26,28,27,28,0,27,0,27,0,24,27,27,13,27,26,31,29,29,28,0,25,0,26,25,24,25,0,24,0,24,0,24,24,24,11,24,23,26,25,26,14,14,0,14,0,23,32,0,0,32,0,32,0,24,32,32,14,32,31,34,33,34,13,0,32,0,32,0,24,32,32,14,32,31,34,33,34,14,34,4,15,34,0,33,0,26,33,32,33,0,32,0,32,0,24,32,32,14,32,31,36,34,34,33,0,25,0,26,25,24,25,0,24,0,24,0,24,24,24,11,24,23,38,2,1,26,26,25,0,0,2,16,2,1,0,0,2,17,2,1,2,2,1,0,0,2,18,40,40,0,40,0,52,40,19,2,3,2,1,2,3,2,20,0,0,14] [0] (fun n k f=>aB [(f 0).2.1+5])
theorem LD (b:Bool) (w:Yc) (a d e:Str) (c:a∈aD) (g:d∈aD) (h:e∈aD) (k:aP [d,e] [a]=false) (i:aP [a] [d,e]=true) (j:(a.cps.toList != d.cps.toList)=true) (p:af):aC (B0 (W b true w)) 6 (.call (.ref 269) ⟨[.ref (p 1 0)],[]⟩) [(p 1 0,ab [.str ("/" ++ a) (p 1 2),.str ("/" ++ d++("/" ++ e)) (p 1 3)] (p 1 1))] (fun m=>(.ret (.str "/" (m 0)),[ab [.str ("/" ++ a) (p 1 2),.str ("/" ++ d++("/" ++ e)) (p 1 3)] (p 1 1)],[])):=
 aA (orcs:=[dw [6,5,4,0] ("/" ++ a) ("/" ++ d++("/" ++ e)),cb ("/" ++ a) "/" ["",a],cb ("/" ++ d++("/" ++ e)) "/" ["",d,e],o2 "str.startswith" ("/" ++ a) "/" fun _=>.bool true,o2 "str.startswith" ("/" ++ d++("/" ++ e)) "/" fun _=>.bool true,dE w 17,d5 w 21 17,dF w 21 17,a9 "" 0,a9 a ((a.length-1+1:Nat):Int),o2 "str.__ne__" a "." fun _=>.bool true,a9 "" 0,a9 d ((d.length-1+1:Nat):Int),o2 "str.__ne__" d "." fun _=>.bool true,a9 e ((e.length-1+1:Nat):Int),o2 "str.__ne__" e "." fun _=>.bool true,eV [24,27,32] [a] [d,e],eW [24,27,32] [a] [d,e] true,dW 27 (fun p=>bc p 1 [a] 2),jM w [39,38,27,32,1] a d [] [e],bx 40 "/" [] ""]) (aa (fm (by decide) (by decide)) (aa (cv (fV a c)) (aa (cv (d4 d g e h)) (aa (cn (cJ [a] (.inl ⟨a,c,rfl⟩))) (aa (cn (cJ [d,e] (.inr ⟨d,g,e,h,rfl⟩))) (aa (fo) (aa (fp (by decide)) (aa (fq (by decide)) (aa (bb rfl (by decide)) (aa (bb (n3 a c).1 (q1 a c).2.2.1) (aa (aQ (bP a c)) (aa (bb rfl (by decide)) (aa (bb (n3 d g).1 (q1 d g).2.2.1) (aa (aQ (bP d g)) (aa (bb (n3 e h).1 (q1 e h).2.2.1) (aa (aQ (bP e h)) (aa (fj (by decide) (k)) (aa (fk (by decide) (i)) (aa (fr) (aa (kK (by decide) j (by show 0≤500;lia) (by decide)) (aa (bB (by decide +kernel) (by decide +kernel)) aq))))))))))))))))))))) 844 21 [0,0,2,1,0,0,0,0,0,0,0,2,0,0,0,0,0,28,1,1,0,1,0,23,5,7,7,0,7,0,29,7,0,0,0,0,0,30,7,2,8,9,9,0,9,0,29,9,2,1,2,9,9,0,11,9,0,9,0,36,9,0,0,2,9,9,9,0,9,0,37,9,0,0,0,0,3,0,4,0,0,5,0,0,6,0,7,3,2,4,3,2,9,9,0,9,0,8,10,0,0,10,0,10,0,9,10,10,9,10,9,12,11,12,3,3,0,11,0,26,11,10,11,0,10,0,10,0,9,10,10,9,10,9,12,11,12,3,4,0,11,0,26,11,10,11,0,10,0,10,0,9,10,10,9,10,9,16,2,1,12,12,11,2,9,9,0,9,0,8,17,0,0,17,0,17,0,9,17,17,9,17,16,19,18,19,3,5,0,18,0,39,0,0,40,18,18,17,0,17,0,17,0,9,17,17,9,17,16,19,18,19,3,6,0,18,0,39,0,0,40,18,18,0,17,0,17,0,9,17,17,9,17,16,21,19,19,18,18,18,18,7,22,22,8,22,9,23,2,1,2,11,11,0,11,0,23,24,0,0,24,0,24,0,24,24,24,11,24,23,26,25,26,13,13,0,13,0,23,27,0,0,27,0,27,0,24,27,27,13,27,26,29,28,29,10,0,27,0,27,0,24,27,27,13,27,26,29,28,29,11,29,4,12,29,0,28,0,26,28,27,28,0,27,0,27,0,24,27,27,13,27,26,31,29,29,28,0,25,0,26,25,24,25,0,24,0,24,0,24,24,24,11,24,23,26,25,26,14,14,0,14,0,23,32,0,0,32,0,32,0,24,32,32,14,32,31,34,33,34,13,0,32,0,32,0,24,32,32,14,32,31,34,33,34,14,34,4,15,34,0,33,0,26,33,32,33,0,32,0,32,0,24,32,32,14,32,31,34,33,34,16,34,4,17,34,0,33,0,26,33,32,33,0,32,0,32,0,24,32,32,14,32,31,36,34,34,33,0,25,0,26,25,24,25,0,24,0,24,0,24,24,24,11,24,23,38,2,1,26,26,25,0,0,2,18,2,1,0,0,2,19,2,1,2,2,1,0,0,2,20,40,40,0,40,0,52,40,21,2,3,2,1,2,3,2,22,0,0,14] [0] (fun n o f=>aB [(f 0).2.1+5])
theorem LE (b:Bool) (w:Yc) (a g d:Str) (c:a∈aD) (h:g∈aD) (e:d∈aD) (k:aP [d] [a,g]=false) (i:aP [a,g] [d]=true) (j:(a.cps.toList != d.cps.toList)=true) (p:af):aC (B0 (W b true w)) 6 (.call (.ref 269) ⟨[.ref (p 1 0)],[]⟩) [(p 1 0,ab [.str ("/" ++ a++("/" ++ g)) (p 1 2),.str ("/" ++ d) (p 1 3)] (p 1 1))] (fun m=>(.ret (.str "/" (m 0)),[ab [.str ("/" ++ a++("/" ++ g)) (p 1 2),.str ("/" ++ d) (p 1 3)] (p 1 1)],[])):=
 aA (orcs:=[dw [6,5,4,0] ("/" ++ a++("/" ++ g)) ("/" ++ d),cb ("/" ++ a++("/" ++ g)) "/" ["",a,g],cb ("/" ++ d) "/" ["",d],o2 "str.startswith" ("/" ++ a++("/" ++ g)) "/" fun _=>.bool true,o2 "str.startswith" ("/" ++ d) "/" fun _=>.bool true,dE w 17,d5 w 21 17,dF w 21 17,a9 "" 0,a9 a ((a.length-1+1:Nat):Int),o2 "str.__ne__" a "." fun _=>.bool true,a9 g ((g.length-1+1:Nat):Int),o2 "str.__ne__" g "." fun _=>.bool true,a9 "" 0,a9 d ((d.length-1+1:Nat):Int),o2 "str.__ne__" d "." fun _=>.bool true,eV [24,27,32] [a,g] [d],eW [24,27,32] [a,g] [d] true,dW 27 (fun p=>bc p 1 [a,g] 2),jM w [39,38,27,32,1] a d [g] [],bx 40 "/" [] ""]) (aa (fm (by decide) (by decide)) (aa (cv (d4 a c g h)) (aa (cv (fV d e)) (aa (cn (cJ [a,g] (.inr ⟨a,c,g,h,rfl⟩))) (aa (cn (cJ [d] (.inl ⟨d,e,rfl⟩))) (aa (fo) (aa (fp (by decide)) (aa (fq (by decide)) (aa (bb rfl (by decide)) (aa (bb (n3 a c).1 (q1 a c).2.2.1) (aa (aQ (bP a c)) (aa (bb (n3 g h).1 (q1 g h).2.2.1) (aa (aQ (bP g h)) (aa (bb rfl (by decide)) (aa (bb (n3 d e).1 (q1 d e).2.2.1) (aa (aQ (bP d e)) (aa (fj (by decide) (k)) (aa (fk (by decide) (i)) (aa (fr) (aa (kK (by decide) j (by show 1≤500;lia) (by decide)) (aa (bB (by decide +kernel) (by decide +kernel)) aq))))))))))))))))))))) 844 21 [0,0,2,1,0,0,0,0,0,0,0,2,0,0,0,0,0,28,1,1,0,1,0,23,5,7,7,0,7,0,29,7,0,0,0,0,0,30,7,2,8,9,9,0,9,0,29,9,2,1,2,9,9,0,11,9,0,9,0,36,9,0,0,2,9,9,9,0,9,0,37,9,0,0,0,0,3,0,4,0,0,5,0,0,6,0,7,3,2,4,3,2,9,9,0,9,0,8,10,0,0,10,0,10,0,9,10,10,9,10,9,12,11,12,3,3,0,11,0,26,11,10,11,0,10,0,10,0,9,10,10,9,10,9,12,11,12,3,4,0,11,0,26,11,10,11,0,10,0,10,0,9,10,10,9,10,9,16,2,1,12,12,11,2,9,9,0,9,0,8,17,0,0,17,0,17,0,9,17,17,9,17,16,19,18,19,3,5,0,18,0,39,0,0,40,18,18,17,0,17,0,17,0,9,17,17,9,17,16,19,18,19,3,6,0,18,0,39,0,0,40,18,18,0,17,0,17,0,9,17,17,9,17,16,21,19,19,18,18,18,18,7,22,22,8,22,9,23,2,1,2,11,11,0,11,0,23,24,0,0,24,0,24,0,24,24,24,11,24,23,26,25,26,13,13,0,13,0,23,27,0,0,27,0,27,0,24,27,27,13,27,26,29,28,29,10,0,27,0,27,0,24,27,27,13,27,26,29,28,29,11,29,4,12,29,0,28,0,26,28,27,28,0,27,0,27,0,24,27,27,13,27,26,29,28,29,13,29,4,14,29,0,28,0,26,28,27,28,0,27,0,27,0,24,27,27,13,27,26,31,29,29,28,0,25,0,26,25,24,25,0,24,0,24,0,24,24,24,11,24,23,26,25,26,14,14,0,14,0,23,32,0,0,32,0,32,0,24,32,32,14,32,31,34,33,34,15,0,32,0,32,0,24,32,32,14,32,31,34,33,34,16,34,4,17,34,0,33,0,26,33,32,33,0,32,0,32,0,24,32,32,14,32,31,36,34,34,33,0,25,0,26,25,24,25,0,24,0,24,0,24,24,24,11,24,23,38,2,1,26,26,25,0,0,2,18,2,1,0,0,2,19,2,1,2,2,1,0,0,2,20,40,40,0,40,0,52,40,21,2,3,2,1,2,3,2,22,0,0,14] [0] (fun n o f=>aB [(f 0).2.1+5])
theorem LF (b:Bool) (w:Yc) (a g d e:Str) (c:a∈aD) (i:g∈aD) (h:d∈aD) (j:e∈aD) (m:aP [d,e] [a,g]=false) (o:aP [a,g] [d,e]=true) (q:(a.cps.toList != d.cps.toList)=true) (p:af):aC (B0 (W b true w)) 6 (.call (.ref 269) ⟨[.ref (p 1 0)],[]⟩) [(p 1 0,ab [.str ("/" ++ a++("/" ++ g)) (p 1 2),.str ("/" ++ d++("/" ++ e)) (p 1 3)] (p 1 1))] (fun k=>(.ret (.str "/" (k 0)),[ab [.str ("/" ++ a++("/" ++ g)) (p 1 2),.str ("/" ++ d++("/" ++ e)) (p 1 3)] (p 1 1)],[])):=
 aA (orcs:=[dw [6,5,4,0] ("/" ++ a++("/" ++ g)) ("/" ++ d++("/" ++ e)),cb ("/" ++ a++("/" ++ g)) "/" ["",a,g],cb ("/" ++ d++("/" ++ e)) "/" ["",d,e],o2 "str.startswith" ("/" ++ a++("/" ++ g)) "/" fun _=>.bool true,o2 "str.startswith" ("/" ++ d++("/" ++ e)) "/" fun _=>.bool true,dE w 17,d5 w 21 17,dF w 21 17,a9 "" 0,a9 a ((a.length-1+1:Nat):Int),o2 "str.__ne__" a "." fun _=>.bool true,a9 g ((g.length-1+1:Nat):Int),o2 "str.__ne__" g "." fun _=>.bool true,a9 "" 0,a9 d ((d.length-1+1:Nat):Int),o2 "str.__ne__" d "." fun _=>.bool true,a9 e ((e.length-1+1:Nat):Int),o2 "str.__ne__" e "." fun _=>.bool true,eV [24,27,32] [a,g] [d,e],eW [24,27,32] [a,g] [d,e] true,dW 27 (fun p=>bc p 1 [a,g] 2),jM w [39,38,27,32,1] a d [g] [e],bx 40 "/" [] ""]) (aa (fm (by decide) (by decide)) (aa (cv (d4 a c g i)) (aa (cv (d4 d h e j)) (aa (cn (cJ [a,g] (.inr ⟨a,c,g,i,rfl⟩))) (aa (cn (cJ [d,e] (.inr ⟨d,h,e,j,rfl⟩))) (aa (fo) (aa (fp (by decide)) (aa (fq (by decide)) (aa (bb rfl (by decide)) (aa (bb (n3 a c).1 (q1 a c).2.2.1) (aa (aQ (bP a c)) (aa (bb (n3 g i).1 (q1 g i).2.2.1) (aa (aQ (bP g i)) (aa (bb rfl (by decide)) (aa (bb (n3 d h).1 (q1 d h).2.2.1) (aa (aQ (bP d h)) (aa (bb (n3 e j).1 (q1 e j).2.2.1) (aa (aQ (bP e j)) (aa (fj (by decide) (m)) (aa (fk (by decide) (o)) (aa (fr) (aa (kK (by decide) q (by show 1≤500;lia) (by decide)) (aa (bB (by decide +kernel) (by decide +kernel)) aq))))))))))))))))))))))) 883 23 [0,0,2,1,0,0,0,0,0,0,0,2,0,0,0,0,0,28,1,1,0,1,0,23,5,7,7,0,7,0,29,7,0,0,0,0,0,30,7,2,8,9,9,0,9,0,29,9,2,1,2,9,9,0,11,9,0,9,0,36,9,0,0,2,9,9,9,0,9,0,37,9,0,0,0,0,3,0,4,0,0,5,0,0,6,0,7,3,2,4,3,2,9,9,0,9,0,8,10,0,0,10,0,10,0,9,10,10,9,10,9,12,11,12,3,3,0,11,0,26,11,10,11,0,10,0,10,0,9,10,10,9,10,9,12,11,12,3,4,0,11,0,26,11,10,11,0,10,0,10,0,9,10,10,9,10,9,16,2,1,12,12,11,2,9,9,0,9,0,8,17,0,0,17,0,17,0,9,17,17,9,17,16,19,18,19,3,5,0,18,0,39,0,0,40,18,18,17,0,17,0,17,0,9,17,17,9,17,16,19,18,19,3,6,0,18,0,39,0,0,40,18,18,0,17,0,17,0,9,17,17,9,17,16,21,19,19,18,18,18,18,7,22,22,8,22,9,23,2,1,2,11,11,0,11,0,23,24,0,0,24,0,24,0,24,24,24,11,24,23,26,25,26,13,13,0,13,0,23,27,0,0,27,0,27,0,24,27,27,13,27,26,29,28,29,10,0,27,0,27,0,24,27,27,13,27,26,29,28,29,11,29,4,12,29,0,28,0,26,28,27,28,0,27,0,27,0,24,27,27,13,27,26,29,28,29,13,29,4,14,29,0,28,0,26,28,27,28,0,27,0,27,0,24,27,27,13,27,26,31,29,29,28,0,25,0,26,25,24,25,0,24,0,24,0,24,24,24,11,24,23,26,25,26,14,14,0,14,0,23,32,0,0,32,0,32,0,24,32,32,14,32,31,34,33,34,15,0,32,0,32,0,24,32,32,14,32,31,34,33,34,16,34,4,17,34,0,33,0,26,33,32,33,0,32,0,32,0,24,32,32,14,32,31,34,33,34,18,34,4,19,34,0,33,0,26,33,32,33,0,32,0,32,0,24,32,32,14,32,31,36,34,34,33,0,25,0,26,25,24,25,0,24,0,24,0,24,24,24,11,24,23,38,2,1,26,26,25,0,0,2,20,2,1,0,0,2,21,2,1,2,2,1,0,0,2,22,40,40,0,40,0,52,40,23,2,3,2,1,2,3,2,24,0,0,14] [0] (fun n s f=>aB [(f 0).2.1+5])
theorem LG (b:Bool) (w:Yc) (a g e:Str) (c:a∈aD) (d:g∈aD) (h:e∈aD) (m:aP [a,e] [a,g]=false) (j:aP [a,g] [a,e]=true) (k:(g.cps.toList != e.cps.toList)=true) (p:af):aC (B0 (W b true w)) 6 (.call (.ref 269) ⟨[.ref (p 1 0)],[]⟩) [(p 1 0,ab [.str ("/" ++ a++("/" ++ g)) (p 1 2),.str ("/" ++ a++("/" ++ e)) (p 1 3)] (p 1 1))] (fun i=>(.ret (.str ("/" ++ a) (i 0)),[ab [.str ("/" ++ a++("/" ++ g)) (p 1 2),.str ("/" ++ a++("/" ++ e)) (p 1 3)] (p 1 1)],[])):=
 aA (orcs:=[dw [6,5,4,0] ("/" ++ a++("/" ++ g)) ("/" ++ a++("/" ++ e)),cb ("/" ++ a++("/" ++ g)) "/" ["",a,g],cb ("/" ++ a++("/" ++ e)) "/" ["",a,e],o2 "str.startswith" ("/" ++ a++("/" ++ g)) "/" fun _=>.bool true,o2 "str.startswith" ("/" ++ a++("/" ++ e)) "/" fun _=>.bool true,dE w 17,d5 w 21 17,dF w 21 17,a9 "" 0,a9 a ((a.length-1+1:Nat):Int),o2 "str.__ne__" a "." fun _=>.bool true,a9 g ((g.length-1+1:Nat):Int),o2 "str.__ne__" g "." fun _=>.bool true,a9 "" 0,a9 a ((a.length-1+1:Nat):Int),o2 "str.__ne__" a "." fun _=>.bool true,a9 e ((e.length-1+1:Nat):Int),o2 "str.__ne__" e "." fun _=>.bool true,eV [24,27,32] [a,g] [a,e],eW [24,27,32] [a,g] [a,e] true,dW 27 (fun p=>bc p 1 [a,g] 2),wu w [39,38,27,32,1] a g a e,bx 40 "/" [a] a,o2 "str.__add__" "/" a fun i=>.str ("/" ++ a) (i 0)]) (aa (fm (by decide) (by decide)) (aa (cv (d4 a c g d)) (aa (cv (d4 a c e h)) (aa (cn (cJ [a,g] (.inr ⟨a,c,g,d,rfl⟩))) (aa (cn (cJ [a,e] (.inr ⟨a,c,e,h,rfl⟩))) (aa (fo) (aa (fp (by decide)) (aa (fq (by decide)) (aa (bb rfl (by decide)) (aa (bb (n3 a c).1 (q1 a c).2.2.1) (aa (aQ (bP a c)) (aa (bb (n3 g d).1 (q1 g d).2.2.1) (aa (aQ (bP g d)) (aa (bb rfl (by decide)) (aa (bb (n3 a c).1 (q1 a c).2.2.1) (aa (aQ (bP a c)) (aa (bb (n3 e h).1 (q1 e h).2.2.1) (aa (aQ (bP e h)) (aa (fj (by decide) (m)) (aa (fk (by decide) (j)) (aa (fr) (aa (BW (by decide) (bne_self_eq_false _) k (by decide)) (aa (bB (n3 a c).2.2.2.2.2.1 (n3 a c).2.2.2.2.2.2) (aa (fY rfl (by decide +kernel) (dc a c).2.1 (dc a c).2.2) aq)))))))))))))))))))))))) 880 24 [0,0,2,1,0,0,0,0,0,0,0,2,0,0,0,0,0,28,1,1,0,1,0,23,5,7,7,0,7,0,29,7,0,0,0,0,0,30,7,2,8,9,9,0,9,0,29,9,2,1,2,9,9,0,11,9,0,9,0,36,9,0,0,2,9,9,9,0,9,0,37,9,0,0,0,0,3,0,4,0,0,5,0,0,6,0,7,3,2,4,3,2,9,9,0,9,0,8,10,0,0,10,0,10,0,9,10,10,9,10,9,12,11,12,3,3,0,11,0,26,11,10,11,0,10,0,10,0,9,10,10,9,10,9,12,11,12,3,4,0,11,0,26,11,10,11,0,10,0,10,0,9,10,10,9,10,9,16,2,1,12,12,11,2,9,9,0,9,0,8,17,0,0,17,0,17,0,9,17,17,9,17,16,19,18,19,3,5,0,18,0,39,0,0,40,18,18,17,0,17,0,17,0,9,17,17,9,17,16,19,18,19,3,6,0,18,0,39,0,0,40,18,18,0,17,0,17,0,9,17,17,9,17,16,21,19,19,18,18,18,18,7,22,22,8,22,9,23,2,1,2,11,11,0,11,0,23,24,0,0,24,0,24,0,24,24,24,11,24,23,26,25,26,13,13,0,13,0,23,27,0,0,27,0,27,0,24,27,27,13,27,26,29,28,29,10,0,27,0,27,0,24,27,27,13,27,26,29,28,29,11,29,4,12,29,0,28,0,26,28,27,28,0,27,0,27,0,24,27,27,13,27,26,29,28,29,13,29,4,14,29,0,28,0,26,28,27,28,0,27,0,27,0,24,27,27,13,27,26,31,29,29,28,0,25,0,26,25,24,25,0,24,0,24,0,24,24,24,11,24,23,26,25,26,14,14,0,14,0,23,32,0,0,32,0,32,0,24,32,32,14,32,31,34,33,34,15,0,32,0,32,0,24,32,32,14,32,31,34,33,34,16,34,4,17,34,0,33,0,26,33,32,33,0,32,0,32,0,24,32,32,14,32,31,34,33,34,18,34,4,19,34,0,33,0,26,33,32,33,0,32,0,32,0,24,32,32,14,32,31,36,34,34,33,0,25,0,26,25,24,25,0,24,0,24,0,24,24,24,11,24,23,38,2,1,26,26,25,0,0,2,20,2,1,0,0,2,21,2,1,2,2,1,0,0,2,22,40,40,0,40,0,52,40,23,2,3,2,1,2,3,2,24,25] [0] (fun n o f=>aB [(f 23).2.2 0])
end
section
theorem LH (b c:Bool) (w:Yc) (p:af):aC (B0 (W b c w)) 3 (.call (.ref 286) ⟨[.ref (p 1 0)],[]⟩) [(p 1 0,ab [] (p 1 1))] (fun d=>(.ret (.str "/" (d 0)),[ab [] (p 1 1)],[])):=
 aA (orcs:=[kl 0 []]) (aa (vh (by decide)) aq) 220 1 [0,0,2,1,0,0,0,2,1,2,3,0,0,0,0,5,4,5,4,0,0,0,5,0,0,0,0,6,5,0,0,0,0,6,0,0,0,6,5,0,0,6,0,0,0,0,0,0,1,0,2,7,7,7,7,0,0,2,6,5,4,0,5,0,0,0,0,8,7,0,0,0,0,8,0,0,0,0,3,0,4,0,0,5,0,0,6,0,7,5,4,5,5,4,5,4,4,0,4,0,8,9,0,9,0,9,0,9,9,9,4,9,8,11,0,5] [0] (fun n a f=>aB [a+1])
def jP (b:Yh):aH:=bA (fun p=>.call (.ref 286) ⟨[.ref (p 1 0)],[]⟩) b (fun p=>[(p 1 0,ab [] (p 1 1))]) fun p a=>(.ret (.str "/" (a 0)),[ab [] (p 1 1)],[])
theorem kM {b c:Bool} {w:Yc} {m:Nat} {a:Yh} (d:a.Nodup) (e:3≤m):(jP a).Sure (B0 (W b c w)) m:=
 (bS d fun p=>LH b c w p).le e
theorem i7 {l m:Yh} (h:(l != m)=true):(l==m)=false:=by
 cases e:l==m with
 | false=>rfl
 | true=>rw [bne,e] at h;cases h
theorem Cq {b c:Bool} {w:Yc} {m j:Nat} {a:Str} (d:a∈aD) (e:6≤m):(dm [a] [a] [a] j).Sure (B0 (W b c w)) m:=
 (bS (List.nodup_cons.mpr ⟨List.not_mem_nil,List.nodup_nil⟩) fun p=>by
  cases c
  ·exact Lp b w a d p
  ·exact Lz b w a d p:aH.Sure (B0 (W b c w)) 6 _).le e
theorem Cr {b c:Bool} {w:Yc} {m j:Nat} {a g:Str} (d:a∈aD) (e:g∈aD) (f:6≤m):(dm [a,g] [a,g] [a,g] j).Sure (B0 (W b c w)) m:=
 (bS (List.nodup_cons.mpr ⟨List.not_mem_nil,List.nodup_nil⟩) fun p=>by
  cases c
  ·exact Lq b w a g d e p
  ·exact LA b w a g d e p:aH.Sure (B0 (W b c w)) 6 _).le f
theorem Cs {b c:Bool} {w:Yc} {m j:Nat} {a e:Str} (g:a∈aD) (h:e∈aD) (f:aP [a,e] [a]=false) (d:aP [a] [a,e]=true) (i:6≤m):(dm [a] [a,e] [a] j).Sure (B0 (W b c w)) m:=
 (bS (List.nodup_cons.mpr ⟨List.not_mem_nil,List.nodup_nil⟩) fun p=>by
  cases c
  ·exact Lr b w a e g h f d p
  ·exact LB b w a e g h f d p:aH.Sure (B0 (W b c w)) 6 _).le i
theorem Ct {b c:Bool} {w:Yc} {m j:Nat} {a d:Str} (h:a∈aD) (i:d∈aD) (g:aP [d] [a]=false) (e:aP [a] [d]=true) (f:(a.cps.toList != d.cps.toList)=true) (k:6≤m):(dm [a] [d] [] j).Sure (B0 (W b c w)) m:=
 (bS (List.nodup_cons.mpr ⟨List.not_mem_nil,List.nodup_nil⟩) fun p=>by
  cases c
  ·exact Ls b w a d h i g e f p
  ·exact LC b w a d h i g e f p:aH.Sure (B0 (W b c w)) 6 _).le k
theorem Cu {b c:Bool} {w:Yc} {m j:Nat} {a d e:Str} (i:a∈aD) (k:d∈aD) (n:e∈aD) (h:aP [d,e] [a]=false) (f:aP [a] [d,e]=true) (g:(a.cps.toList != d.cps.toList)=true) (o:6≤m):(dm [a] [d,e] [] j).Sure (B0 (W b c w)) m:=
 (bS (List.nodup_cons.mpr ⟨List.not_mem_nil,List.nodup_nil⟩) fun p=>by
  cases c
  ·exact Lu b w a d e i k n h f g p
  ·exact LD b w a d e i k n h f g p:aH.Sure (B0 (W b c w)) 6 _).le o
theorem Cv {b c:Bool} {w:Yc} {m j:Nat} {a g d:Str} (i:a∈aD) (n:g∈aD) (k:d∈aD) (h:aP [d] [a,g]=false) (e:aP [a,g] [d]=true) (f:(a.cps.toList != d.cps.toList)=true) (o:6≤m):(dm [a,g] [d] [] j).Sure (B0 (W b c w)) m:=
 (bS (List.nodup_cons.mpr ⟨List.not_mem_nil,List.nodup_nil⟩) fun p=>by
  cases c
  ·exact Lw b w a g d i n k h e f p
  ·exact LE b w a g d i n k h e f p:aH.Sure (B0 (W b c w)) 6 _).le o
theorem Cw {b c:Bool} {w:Yc} {m j:Nat} {a g d e:Str} (k:a∈aD) (o:g∈aD) (n:d∈aD) (q:e∈aD) (i:aP [d,e] [a,g]=false) (f:aP [a,g] [d,e]=true) (h:(a.cps.toList != d.cps.toList)=true) (s:6≤m):(dm [a,g] [d,e] [] j).Sure (B0 (W b c w)) m:=
 (bS (List.nodup_cons.mpr ⟨List.not_mem_nil,List.nodup_nil⟩) fun p=>by
  cases c
  ·exact Lx b w a g d e k o n q i f h p
  ·exact LF b w a g d e k o n q i f h p:aH.Sure (B0 (W b c w)) 6 _).le s
theorem Cy {b c:Bool} {w:Yc} {m j:Nat} {a g e:Str} (i:a∈aD) (k:g∈aD) (n:e∈aD) (h:aP [a,e] [a,g]=false) (d:aP [a,g] [a,e]=true) (f:(g.cps.toList != e.cps.toList)=true) (o:6≤m):(dm [a,g] [a,e] [a] j).Sure (B0 (W b c w)) m:=
 (bS (List.nodup_cons.mpr ⟨List.not_mem_nil,List.nodup_nil⟩) fun p=>by
  cases c
  ·exact Ly b w a g e i k n h d f p
  ·exact LG b w a g e i k n h d f p:aH.Sure (B0 (W b c w)) 6 _).le o
end
section
def wL (w:Yc) (e a:nE) (b:Obj) (u v:Yd) (i:Nat) (c d:Yb) (p:af) (f:Ye):Yf:=[aW 0 (rawInt (f 0)) [.bool false,.bool false,.ref (p 2 0),.ref (p 3 0)],az [.ref (p 4 0),.ref (p 5 0)] 0,az [.ref (p 11 0),.ref (p 12 0)] 0,am (.ref (p 6 0)) (i+1),am (.ref (p 7 0)) (i+1),ab c (p 6 1),ab d (p 7 1),b,(aE e (p 11)).2,(aE a (p 12)).2]
theorem Cz (b c:Bool) (w:Yc) (j g:nE) (h:Obj) (u v:Yd) (i:Nat) (a d:Yb) (p:af) (m:a[i]? = some (.ref (p 11 0))) (k:d[i]? = some (.ref (p 12 0))):aI (B0 (W b c w)) 8 (pyNext (.ref (p 1 0))) [(p 1 0,ba (p 2 0) (p 3 0)),(p 2 0,az [.ref (p 4 0),.ref (p 5 0)] 0),(p 3 0,az [u,v] 0),(p 4 0,am (.ref (p 6 0)) i),(p 5 0,am (.ref (p 7 0)) i),(p 6 0,ab a (p 6 1)),(p 7 0,ab d (p 7 1)),(p 8 0,h),aE j (p 11),aE g (p 12)] fun e=>((some (.ref (e 0))),wL w j g h u v i a d p e,[(e 0,az [.ref (p 11 0),.ref (p 12 0)] 0)]++[]):=by
 rw [nl]
 exact bt (enc:=kf) mW (orcs:=[cD 3 5 a i (.ref (p 11 0)),cD 4 6 d i (.ref (p 12 0))]) (aa (cT (by decide) m) (aa (cT (by decide) k) aq)) 36 2 [1,0,1,0,94,1,1,2,1,1,1,0,4,2,3,3,2,3,5,3,3,3,2,3,3,1,0,1,0] [0,1,2,3,4,5,6,7,8,9,10] none (fun n o f=>aB [(f 1).1+0])
def CA (w:Yc) (h c:nE) (e n j k f m b:Yd) (i:Nat) (d g:Yb) (p:af) (a:Ye):Yf:=[ba (p 2 0) (p 3 0),az [.ref (p 4 0),.ref (p 5 0)] 0,az [.ref (p 11 0),.ref (p 12 0)] 0,am (.ref (p 6 0)) i,am (.ref (p 7 0)) i,ab d (p 6 1),ab g (p 7 1),aG w (f7 p e n j k f m b++([("one",a 0,.ref (p 11 0)),("two",a 1,.ref (p 12 0))]:List (Str×Nat×Yd))) (p 8 1+1+1),(aE h (p 11)).2,(aE c (p 12)).2,az [.ref (p 11 0),.ref (p 12 0)] 0]
theorem LI (b c:Bool) (w:Yc) (j o:nE) (e t s k h d m:Yd) (i:Nat) (q g:Yb) (p:af):aI (B0 (W b c w)) 8 (assign (fT (cp w)) (dj w p) (.ref (p 14 0))) [(p 1 0,ba (p 2 0) (p 3 0)),(p 2 0,az [.ref (p 4 0),.ref (p 5 0)] 0),(p 3 0,az [.ref (p 11 0),.ref (p 12 0)] 0),(p 4 0,am (.ref (p 6 0)) i),(p 5 0,am (.ref (p 7 0)) i),(p 6 0,ab q (p 6 1)),(p 7 0,ab g (p 7 1)),(p 8 0,aG w (f7 p e t s k h d m) (p 8 1)),aE j (p 11),aE o (p 12),(p 14 0,az [.ref (p 11 0),.ref (p 12 0)] 0)] fun u=>((),CA w j o e t s k h d m i q g p u,[]++[]):=by
 rw [kw]
 exact bt (enc:=iU) kg (orcs:=[]) aq 63 0 [11,11,11,0,11,0,8,12,12,0,12,0,9,12,12,11,12,11,12,0,12,0,9,12,12,11,12,11,12,0,12,0,9,12,12,11,12,11,14,8,7,8,7] [0,1,2,3,4,5,6,7,8,9,10] none (fun n a f=>aB [a+0,a+1])
def CB (w:Yc) (o1 c o3:Yd) (g b:nE) (d n h j f k a:Yd) (i:Nat) (e m:Yb) (p:af) (o:Ye):Yf:=[ba (p 2 0) (p 3 0),az [.ref (p 4 0),.ref (p 5 0)] 0,az [.ref (p 11 0),.ref (p 12 0)] 0,am (.ref (p 6 0)) i,am (.ref (p 7 0)) i,ab e (p 6 1),ab m (p 7 1),aG w (f7 p d n h j f k a++([("one",p 8 16,.ref (p 11 0)),("two",p 8 18,.ref (p 12 0)),("same",p 8 20,o3)]:List (Str×Nat×Yd))) (p 8 1),(aE g (p 11)).2,(aE b (p 12)).2,az [.ref (p 11 0),.ref (p 12 0)] 0]
theorem LJ (b c:Bool) (w:Yc) (o1 a o3:Yd) (j o:nE) (e t s k h d m:Yd) (i:Nat) (q g:Yb) (p:af):aI (B0 (W b c w)) 8 (assign (fT (cp w)) (dj w p) (.ref (p 14 0))) [(p 1 0,ba (p 2 0) (p 3 0)),(p 2 0,az [.ref (p 4 0),.ref (p 5 0)] 0),(p 3 0,az [.ref (p 11 0),.ref (p 12 0)] 0),(p 4 0,am (.ref (p 6 0)) i),(p 5 0,am (.ref (p 7 0)) i),(p 6 0,ab q (p 6 1)),(p 7 0,ab g (p 7 1)),(p 8 0,aG w (f7 p e t s k h d m++([("one",p 8 16,o1),("two",p 8 18,a),("same",p 8 20,o3)]:List (Str×Nat×Yd))) (p 8 1)),aE j (p 11),aE o (p 12),(p 14 0,az [.ref (p 11 0),.ref (p 12 0)] 0)] fun u=>((),CB w o1 a o3 j o e t s k h d m i q g p u,[]++[]):=by
 rw [kw]
 exact bt (enc:=iU) kg (orcs:=[]) aq 63 0 [11,11,11,0,11,0,8,12,12,0,12,0,9,12,12,11,12,11,12,0,12,0,9,12,12,11,12,11,12,0,12,0,9,12,12,11,12,11,14,8,7,8,7] [0,1,2,3,4,5,6,7,8,9,10] none (fun n x f=>fun _=>0)
theorem LK (b c:Bool) (w:Yc) (a:Str) (h t s m k e o:Yd) (i:Nat) (q j:Yb) (p:af) (d:a∈aD):aI (B0 (W b c w)) 8 (execs (fB (cp w)) (dj w p)) [(p 1 0,ba (p 2 0) (p 3 0)),(p 2 0,az [.ref (p 4 0),.ref (p 5 0)] 0),(p 3 0,az [.ref (p 11 0),.ref (p 12 0)] 0),(p 4 0,am (.ref (p 6 0)) i),(p 5 0,am (.ref (p 7 0)) i),(p 6 0,ab q (p 6 1)),(p 7 0,ab j (p 7 1)),(p 8 0,aG w (f7 p h t s m k e o++([("one",p 8 16,.ref (p 11 0)),("two",p 8 18,.ref (p 12 0))]:List (Str×Nat×Yd))) (p 8 1)),aE [a] (p 11),aE [a] (p 12)] fun g=>(.next,[ba (p 2 0) (p 3 0),az [.ref (p 4 0),.ref (p 5 0)] 0,az [.ref (p 11 0),.ref (p 12 0)] 0,am (.ref (p 6 0)) i,am (.ref (p 7 0)) i,ab q (p 6 1),ab j (p 7 1),aG w (f7 p h t s m k e o++([("one",p 8 16,.ref (p 11 0)),("two",p 8 18,.ref (p 12 0)),("same",g 0,.int 1 (g 1))]:List (Str×Nat×Yd))) (p 8 1+1),(aE [a] (p 11)).2,(aE [a] (p 12)).2],[]++[]):=by
 rw [cH]
 exact bt (enc:=cc) cG (orcs:=[o2 "str.__eq__" a a fun _=>.bool true,dz [8] a,dz [9] a,dm [a] [a] [a] 10,c7 8 11 (fun p=>bc p 1 [a] 2) none (some 1) (fun p=>bc p 1 [a] 2),dz [12] a,o2 "str.__ne__" (aU [a]) (aU [a]) fun _=>.bool false]) (aa (cy (beq_self_eq_true _)) (aa (dJ [8] (by decide) a d (by decide)) (aa (dJ [9] (by decide) a d (by decide)) (aa (Cq d (by decide)) (aa (dB (by decide) (fun _=>by show 1≤1000;lia) (fun _=>by kernel_rfl)) (aa (dJ [12] (by decide) a d (by decide)) (aa (aQ (bne_self_eq_false _)) aq))))))) 184 7 [8,7,0,8,0,0,8,0,0,11,9,0,9,0,60,9,0,0,63,8,0,0,8,0,0,11,10,0,10,0,60,10,0,0,63,8,8,9,9,9,0,9,0,54,9,8,8,10,10,10,0,10,0,54,10,2,8,0,0,16,8,7,0,8,0,0,8,0,0,11,9,0,9,0,60,9,0,0,63,0,0,8,0,3,0,8,0,4,0,5,0,8,8,9,9,9,6,0,7,8] [0,1,2,3,4,5,6,7,8,9] none (fun n u f=>aB [u+1,(f 0).2.1+1])
theorem LL (b c:Bool) (w:Yc) (a g:Str) (k x u q o h s:Yd) (i:Nat) (t m:Yb) (p:af) (d:a∈aD) (e:g∈aD):aI (B0 (W b c w)) 8 (execs (fB (cp w)) (dj w p)) [(p 1 0,ba (p 2 0) (p 3 0)),(p 2 0,az [.ref (p 4 0),.ref (p 5 0)] 0),(p 3 0,az [.ref (p 11 0),.ref (p 12 0)] 0),(p 4 0,am (.ref (p 6 0)) i),(p 5 0,am (.ref (p 7 0)) i),(p 6 0,ab t (p 6 1)),(p 7 0,ab m (p 7 1)),(p 8 0,aG w (f7 p k x u q o h s++([("one",p 8 16,.ref (p 11 0)),("two",p 8 18,.ref (p 12 0))]:List (Str×Nat×Yd))) (p 8 1)),aE [a,g] (p 11),aE [a,g] (p 12)] fun j=>(.next,[ba (p 2 0) (p 3 0),az [.ref (p 4 0),.ref (p 5 0)] 0,az [.ref (p 11 0),.ref (p 12 0)] 0,am (.ref (p 6 0)) i,am (.ref (p 7 0)) i,ab t (p 6 1),ab m (p 7 1),aG w (f7 p k x u q o h s++([("one",p 8 16,.ref (p 11 0)),("two",p 8 18,.ref (p 12 0)),("same",j 0,.int 2 (j 1))]:List (Str×Nat×Yd))) (p 8 1+1),(aE [a,g] (p 11)).2,(aE [a,g] (p 12)).2],[]++[]):=by
 rw [cH]
 exact bt (enc:=cc) cG (orcs:=[o2 "str.__eq__" a a fun _=>.bool true,o2 "str.__eq__" g g fun _=>.bool true,dA [8] a g,dA [9] a g,dm [a,g] [a,g] [a,g] 10,c7 8 11 (fun p=>bc p 1 [a,g] 2) none (some 2) (fun p=>bc p 1 [a,g] 2),dA [12] a g,o2 "str.__ne__" (aU [a,g]) (aU [a,g]) fun _=>.bool false]) (aa (cy (beq_self_eq_true _)) (aa (cy (beq_self_eq_true _)) (aa (dK [8] (by decide) a g d e (by decide)) (aa (dK [9] (by decide) a g d e (by decide)) (aa (Cr d e (by decide)) (aa (dB (by decide) (fun _=>by show 2≤1000;lia) (fun _=>by kernel_rfl)) (aa (dK [12] (by decide) a g d e (by decide)) (aa (aQ (bne_self_eq_false _)) aq)))))))) 282 8 [8,7,0,8,0,0,8,0,0,11,9,0,9,0,60,9,0,0,63,8,0,0,8,0,0,11,10,0,10,0,60,10,0,0,63,8,8,9,9,9,0,9,0,54,9,8,8,10,10,10,0,10,0,54,10,2,8,0,0,16,8,7,0,8,0,0,8,0,0,11,9,0,9,0,60,9,0,0,63,8,0,0,8,0,0,11,10,0,10,0,60,10,0,0,63,8,8,9,9,9,0,9,0,54,9,8,8,10,10,10,0,10,0,54,10,3,8,0,0,16,8,7,0,8,0,0,8,0,0,11,9,0,9,0,60,9,0,0,63,0,0,8,0,4,0,8,0,5,0,6,0,8,8,9,9,9,7,0,8,9] [0,1,2,3,4,5,6,7,8,9] none (fun n y f=>aB [y+1,(f 1).2.1+1])
theorem LM (b c:Bool) (w:Yc) (a e:Str) (j u t o m g q:Yd) (i:Nat) (s k:Yb) (p:af) (d:a∈aD) (x:e∈aD) (z:aP [a,e] [a]=false) (A:aP [a] [a,e]=true):aI (B0 (W b c w)) 8 (execs (fB (cp w)) (dj w p)) [(p 1 0,ba (p 2 0) (p 3 0)),(p 2 0,az [.ref (p 4 0),.ref (p 5 0)] 0),(p 3 0,az [.ref (p 11 0),.ref (p 12 0)] 0),(p 4 0,am (.ref (p 6 0)) i),(p 5 0,am (.ref (p 7 0)) i),(p 6 0,ab s (p 6 1)),(p 7 0,ab k (p 7 1)),(p 8 0,aG w (f7 p j u t o m g q++([("one",p 8 16,.ref (p 11 0)),("two",p 8 18,.ref (p 12 0))]:List (Str×Nat×Yd))) (p 8 1)),aE [a] (p 11),aE [a,e] (p 12)] fun h=>(.next,[ba (p 2 0) (p 3 0),az [.ref (p 4 0),.ref (p 5 0)] 0,az [.ref (p 11 0),.ref (p 12 0)] 0,am (.ref (p 6 0)) i,am (.ref (p 7 0)) i,ab s (p 6 1),ab k (p 7 1),aG w (f7 p j u t o m g q++([("one",p 8 16,.ref (p 11 0)),("two",p 8 18,.ref (p 12 0)),("same",h 0,.int 1 (h 1))]:List (Str×Nat×Yd))) (p 8 1+1),(aE [a] (p 11)).2,(aE [a,e] (p 12)).2],[]++[]):=by
 rw [cH]
 exact bt (enc:=cc) cG (orcs:=[o2 "str.__eq__" a a fun _=>.bool true,dz [8] a,dA [9] a e,dm [a] [a,e] [a] 10,c7 8 11 (fun p=>bc p 1 [a] 2) none (some 1) (fun p=>bc p 1 [a] 2),dz [12] a,o2 "str.__ne__" (aU [a]) (aU [a]) fun _=>.bool false]) (aa (cy (beq_self_eq_true _)) (aa (dJ [8] (by decide) a d (by decide)) (aa (dK [9] (by decide) a e d x (by decide)) (aa (Cs d x z A (by decide)) (aa (dB (by decide) (fun _=>by show 1≤1000;lia) (fun _=>by kernel_rfl)) (aa (dJ [12] (by decide) a d (by decide)) (aa (aQ (bne_self_eq_false _)) aq))))))) 184 7 [8,7,0,8,0,0,8,0,0,11,9,0,9,0,60,9,0,0,63,8,0,0,8,0,0,11,10,0,10,0,60,10,0,0,63,8,8,9,9,9,0,9,0,54,9,8,8,10,10,10,0,10,0,54,10,2,8,0,0,16,8,7,0,8,0,0,8,0,0,11,9,0,9,0,60,9,0,0,63,0,0,8,0,3,0,8,0,4,0,5,0,8,8,9,9,9,6,0,7,8] [0,1,2,3,4,5,6,7,8,9] none (fun n y f=>aB [y+1,(f 0).2.1+1])
theorem LN (b c:Bool) (w:Yc) (a d:Str) (k y x q o g s:Yd) (i:Nat) (u m:Yb) (p:af) (z:a∈aD) (j:d∈aD) (t:(a.cps.toList != d.cps.toList)=true) (A:aP [d] [a]=false) (B:aP [a] [d]=true):aI (B0 (W b c w)) 8 (execs (fB (cp w)) (dj w p)) [(p 1 0,ba (p 2 0) (p 3 0)),(p 2 0,az [.ref (p 4 0),.ref (p 5 0)] 0),(p 3 0,az [.ref (p 11 0),.ref (p 12 0)] 0),(p 4 0,am (.ref (p 6 0)) i),(p 5 0,am (.ref (p 7 0)) i),(p 6 0,ab u (p 6 1)),(p 7 0,ab m (p 7 1)),(p 8 0,aG w (f7 p k y x q o g s++([("one",p 8 16,.ref (p 11 0)),("two",p 8 18,.ref (p 12 0))]:List (Str×Nat×Yd))) (p 8 1)),aE [a] (p 11),aE [d] (p 12)] fun h=>(.next,[ba (p 2 0) (p 3 0),az [.ref (p 4 0),.ref (p 5 0)] 0,az [.ref (p 11 0),.ref (p 12 0)] 0,am (.ref (p 6 0)) i,am (.ref (p 7 0)) i,ab u (p 6 1),ab m (p 7 1),aG w (f7 p k y x q o g s++([("one",p 8 16,.ref (p 11 0)),("two",p 8 18,.ref (p 12 0)),("same",h 0,.int 0 (h 1))]:List (Str×Nat×Yd))) (p 8 1+1),(aE [a] (p 11)).2,(aE [d] (p 12)).2],[]++[]):=by
 rw [cH]
 exact bt (enc:=cc) cG (orcs:=[o2 "str.__eq__" a d fun _=>.bool false,dz [8] a,dz [9] d,dm [a] [d] [] 10,c7 8 11 (fun p=>bc p 1 [a] 2) none (some 0) (fun p=>bc p 1 [] 2),jP [12],o2 "str.__ne__" (aU []) (aU []) fun _=>.bool false]) (aa (cy (i7 t)) (aa (dJ [8] (by decide) a z (by decide)) (aa (dJ [9] (by decide) d j (by decide)) (aa (Ct z j A B t (by decide)) (aa (dB (by decide) (fun _=>by show 1≤1000;lia) (fun _=>by kernel_rfl)) (aa (kM (by decide) (by decide)) (aa (aQ (bne_self_eq_false _)) aq))))))) 141 7 [8,7,0,8,0,0,8,0,0,11,9,0,9,0,60,9,0,0,63,8,0,0,8,0,0,11,10,0,10,0,60,10,0,0,63,8,8,9,9,9,0,9,0,54,9,8,8,10,10,10,0,10,0,54,10,2,0,0,8,0,3,0,8,0,4,0,5,0,8,8,9,9,9,6,0,7,8] [0,1,2,3,4,5,6,7,8,9] none (fun n e f=>aB [e+1,e+0])
theorem LO (b c:Bool) (w:Yc) (a d e:Str) (m z y s q h t:Yd) (i:Nat) (x o:Yb) (p:af) (A:a∈aD) (k:d∈aD) (B:e∈aD) (u:(a.cps.toList != d.cps.toList)=true) (C:aP [d,e] [a]=false) (D:aP [a] [d,e]=true):aI (B0 (W b c w)) 8 (execs (fB (cp w)) (dj w p)) [(p 1 0,ba (p 2 0) (p 3 0)),(p 2 0,az [.ref (p 4 0),.ref (p 5 0)] 0),(p 3 0,az [.ref (p 11 0),.ref (p 12 0)] 0),(p 4 0,am (.ref (p 6 0)) i),(p 5 0,am (.ref (p 7 0)) i),(p 6 0,ab x (p 6 1)),(p 7 0,ab o (p 7 1)),(p 8 0,aG w (f7 p m z y s q h t++([("one",p 8 16,.ref (p 11 0)),("two",p 8 18,.ref (p 12 0))]:List (Str×Nat×Yd))) (p 8 1)),aE [a] (p 11),aE [d,e] (p 12)] fun j=>(.next,[ba (p 2 0) (p 3 0),az [.ref (p 4 0),.ref (p 5 0)] 0,az [.ref (p 11 0),.ref (p 12 0)] 0,am (.ref (p 6 0)) i,am (.ref (p 7 0)) i,ab x (p 6 1),ab o (p 7 1),aG w (f7 p m z y s q h t++([("one",p 8 16,.ref (p 11 0)),("two",p 8 18,.ref (p 12 0)),("same",j 0,.int 0 (j 1))]:List (Str×Nat×Yd))) (p 8 1+1),(aE [a] (p 11)).2,(aE [d,e] (p 12)).2],[]++[]):=by
 rw [cH]
 exact bt (enc:=cc) cG (orcs:=[o2 "str.__eq__" a d fun _=>.bool false,dz [8] a,dA [9] d e,dm [a] [d,e] [] 10,c7 8 11 (fun p=>bc p 1 [a] 2) none (some 0) (fun p=>bc p 1 [] 2),jP [12],o2 "str.__ne__" (aU []) (aU []) fun _=>.bool false]) (aa (cy (i7 u)) (aa (dJ [8] (by decide) a A (by decide)) (aa (dK [9] (by decide) d e k B (by decide)) (aa (Cu A k B C D u (by decide)) (aa (dB (by decide) (fun _=>by show 1≤1000;lia) (fun _=>by kernel_rfl)) (aa (kM (by decide) (by decide)) (aa (aQ (bne_self_eq_false _)) aq))))))) 141 7 [8,7,0,8,0,0,8,0,0,11,9,0,9,0,60,9,0,0,63,8,0,0,8,0,0,11,10,0,10,0,60,10,0,0,63,8,8,9,9,9,0,9,0,54,9,8,8,10,10,10,0,10,0,54,10,2,0,0,8,0,3,0,8,0,4,0,5,0,8,8,9,9,9,6,0,7,8] [0,1,2,3,4,5,6,7,8,9] none (fun n g f=>aB [g+1,g+0])
theorem LP (b c:Bool) (w:Yc) (a g d:Str) (m A z s q h u:Yd) (i:Nat) (y o:Yb) (p:af) (B:a∈aD) (t:g∈aD) (k:d∈aD) (x:(a.cps.toList != d.cps.toList)=true) (C:aP [d] [a,g]=false) (D:aP [a,g] [d]=true):aI (B0 (W b c w)) 8 (execs (fB (cp w)) (dj w p)) [(p 1 0,ba (p 2 0) (p 3 0)),(p 2 0,az [.ref (p 4 0),.ref (p 5 0)] 0),(p 3 0,az [.ref (p 11 0),.ref (p 12 0)] 0),(p 4 0,am (.ref (p 6 0)) i),(p 5 0,am (.ref (p 7 0)) i),(p 6 0,ab y (p 6 1)),(p 7 0,ab o (p 7 1)),(p 8 0,aG w (f7 p m A z s q h u++([("one",p 8 16,.ref (p 11 0)),("two",p 8 18,.ref (p 12 0))]:List (Str×Nat×Yd))) (p 8 1)),aE [a,g] (p 11),aE [d] (p 12)] fun j=>(.next,[ba (p 2 0) (p 3 0),az [.ref (p 4 0),.ref (p 5 0)] 0,az [.ref (p 11 0),.ref (p 12 0)] 0,am (.ref (p 6 0)) i,am (.ref (p 7 0)) i,ab y (p 6 1),ab o (p 7 1),aG w (f7 p m A z s q h u++([("one",p 8 16,.ref (p 11 0)),("two",p 8 18,.ref (p 12 0)),("same",j 0,.int 0 (j 1))]:List (Str×Nat×Yd))) (p 8 1+1),(aE [a,g] (p 11)).2,(aE [d] (p 12)).2],[]++[]):=by
 rw [cH]
 exact bt (enc:=cc) cG (orcs:=[o2 "str.__eq__" a d fun _=>.bool false,dA [8] a g,dz [9] d,dm [a,g] [d] [] 10,c7 8 11 (fun p=>bc p 1 [a,g] 2) none (some 0) (fun p=>bc p 1 [] 2),jP [12],o2 "str.__ne__" (aU []) (aU []) fun _=>.bool false]) (aa (cy (i7 x)) (aa (dK [8] (by decide) a g B t (by decide)) (aa (dJ [9] (by decide) d k (by decide)) (aa (Cv B t k C D x (by decide)) (aa (dB (by decide) (fun _=>by show 2≤1000;lia) (fun _=>by kernel_rfl)) (aa (kM (by decide) (by decide)) (aa (aQ (bne_self_eq_false _)) aq))))))) 141 7 [8,7,0,8,0,0,8,0,0,11,9,0,9,0,60,9,0,0,63,8,0,0,8,0,0,11,10,0,10,0,60,10,0,0,63,8,8,9,9,9,0,9,0,54,9,8,8,10,10,10,0,10,0,54,10,2,0,0,8,0,3,0,8,0,4,0,5,0,8,8,9,9,9,6,0,7,8] [0,1,2,3,4,5,6,7,8,9] none (fun n e f=>aB [e+1,e+0])
theorem LQ (b c:Bool) (w:Yc) (a g d e:Str) (o B A t s j x:Yd) (i:Nat) (z q:Yb) (p:af) (C:a∈aD) (u:g∈aD) (m:d∈aD) (D:e∈aD) (y:(a.cps.toList != d.cps.toList)=true) (E:aP [d,e] [a,g]=false) (F:aP [a,g] [d,e]=true):aI (B0 (W b c w)) 8 (execs (fB (cp w)) (dj w p)) [(p 1 0,ba (p 2 0) (p 3 0)),(p 2 0,az [.ref (p 4 0),.ref (p 5 0)] 0),(p 3 0,az [.ref (p 11 0),.ref (p 12 0)] 0),(p 4 0,am (.ref (p 6 0)) i),(p 5 0,am (.ref (p 7 0)) i),(p 6 0,ab z (p 6 1)),(p 7 0,ab q (p 7 1)),(p 8 0,aG w (f7 p o B A t s j x++([("one",p 8 16,.ref (p 11 0)),("two",p 8 18,.ref (p 12 0))]:List (Str×Nat×Yd))) (p 8 1)),aE [a,g] (p 11),aE [d,e] (p 12)] fun k=>(.next,[ba (p 2 0) (p 3 0),az [.ref (p 4 0),.ref (p 5 0)] 0,az [.ref (p 11 0),.ref (p 12 0)] 0,am (.ref (p 6 0)) i,am (.ref (p 7 0)) i,ab z (p 6 1),ab q (p 7 1),aG w (f7 p o B A t s j x++([("one",p 8 16,.ref (p 11 0)),("two",p 8 18,.ref (p 12 0)),("same",k 0,.int 0 (k 1))]:List (Str×Nat×Yd))) (p 8 1+1),(aE [a,g] (p 11)).2,(aE [d,e] (p 12)).2],[]++[]):=by
 rw [cH]
 exact bt (enc:=cc) cG (orcs:=[o2 "str.__eq__" a d fun _=>.bool false,dA [8] a g,dA [9] d e,dm [a,g] [d,e] [] 10,c7 8 11 (fun p=>bc p 1 [a,g] 2) none (some 0) (fun p=>bc p 1 [] 2),jP [12],o2 "str.__ne__" (aU []) (aU []) fun _=>.bool false]) (aa (cy (i7 y)) (aa (dK [8] (by decide) a g C u (by decide)) (aa (dK [9] (by decide) d e m D (by decide)) (aa (Cw C u m D E F y (by decide)) (aa (dB (by decide) (fun _=>by show 2≤1000;lia) (fun _=>by kernel_rfl)) (aa (kM (by decide) (by decide)) (aa (aQ (bne_self_eq_false _)) aq))))))) 141 7 [8,7,0,8,0,0,8,0,0,11,9,0,9,0,60,9,0,0,63,8,0,0,8,0,0,11,10,0,10,0,60,10,0,0,63,8,8,9,9,9,0,9,0,54,9,8,8,10,10,10,0,10,0,54,10,2,0,0,8,0,3,0,8,0,4,0,5,0,8,8,9,9,9,6,0,7,8] [0,1,2,3,4,5,6,7,8,9] none (fun n h f=>aB [h+1,h+0])
theorem LR (b c:Bool) (w:Yc) (a g e:Str) (k z y q o h t:Yd) (i:Nat) (x m:Yb) (p:af) (d:a∈aD) (s:g∈aD) (A:e∈aD) (u:(g.cps.toList != e.cps.toList)=true) (C:aP [a,e] [a,g]=false) (D:aP [a,g] [a,e]=true):aI (B0 (W b c w)) 8 (execs (fB (cp w)) (dj w p)) [(p 1 0,ba (p 2 0) (p 3 0)),(p 2 0,az [.ref (p 4 0),.ref (p 5 0)] 0),(p 3 0,az [.ref (p 11 0),.ref (p 12 0)] 0),(p 4 0,am (.ref (p 6 0)) i),(p 5 0,am (.ref (p 7 0)) i),(p 6 0,ab x (p 6 1)),(p 7 0,ab m (p 7 1)),(p 8 0,aG w (f7 p k z y q o h t++([("one",p 8 16,.ref (p 11 0)),("two",p 8 18,.ref (p 12 0))]:List (Str×Nat×Yd))) (p 8 1)),aE [a,g] (p 11),aE [a,e] (p 12)] fun j=>(.next,[ba (p 2 0) (p 3 0),az [.ref (p 4 0),.ref (p 5 0)] 0,az [.ref (p 11 0),.ref (p 12 0)] 0,am (.ref (p 6 0)) i,am (.ref (p 7 0)) i,ab x (p 6 1),ab m (p 7 1),aG w (f7 p k z y q o h t++([("one",p 8 16,.ref (p 11 0)),("two",p 8 18,.ref (p 12 0)),("same",j 0,.int 1 (j 1))]:List (Str×Nat×Yd))) (p 8 1+1),(aE [a,g] (p 11)).2,(aE [a,e] (p 12)).2],[]++[]):=by
 rw [cH]
 exact bt (enc:=cc) cG (orcs:=[o2 "str.__eq__" a a fun _=>.bool true,o2 "str.__eq__" g e fun _=>.bool false,dA [8] a g,dA [9] a e,dm [a,g] [a,e] [a] 10,c7 8 11 (fun p=>bc p 1 [a,g] 2) none (some 1) (fun p=>bc p 1 [a] 2),dz [12] a,o2 "str.__ne__" (aU [a]) (aU [a]) fun _=>.bool false]) (aa (cy (beq_self_eq_true _)) (aa (cy (i7 u)) (aa (dK [8] (by decide) a g d s (by decide)) (aa (dK [9] (by decide) a e d A (by decide)) (aa (Cy d s A C D u (by decide)) (aa (dB (by decide) (fun _=>by show 2≤1000;lia) (fun _=>by kernel_rfl)) (aa (dJ [12] (by decide) a d (by decide)) (aa (aQ (bne_self_eq_false _)) aq)))))))) 239 8 [8,7,0,8,0,0,8,0,0,11,9,0,9,0,60,9,0,0,63,8,0,0,8,0,0,11,10,0,10,0,60,10,0,0,63,8,8,9,9,9,0,9,0,54,9,8,8,10,10,10,0,10,0,54,10,2,8,0,0,16,8,7,0,8,0,0,8,0,0,11,9,0,9,0,60,9,0,0,63,8,0,0,8,0,0,11,10,0,10,0,60,10,0,0,63,8,8,9,9,9,0,9,0,54,9,8,8,10,10,10,0,10,0,54,10,3,0,0,8,0,4,0,8,0,5,0,6,0,8,8,9,9,9,7,0,8,9] [0,1,2,3,4,5,6,7,8,9] none (fun n B f=>aB [B+1,(f 0).2.1+1])
theorem LS (b c:Bool) (w:Yc) (a:Str) (u:Yd) (g s q k j e m:Yd) (i:Nat) (o h:Yb) (p:af) (d:a∈aD):aI (B0 (W b c w)) 8 (execs (fB (cp w)) (dj w p)) [(p 1 0,ba (p 2 0) (p 3 0)),(p 2 0,az [.ref (p 4 0),.ref (p 5 0)] 0),(p 3 0,az [.ref (p 11 0),.ref (p 12 0)] 0),(p 4 0,am (.ref (p 6 0)) i),(p 5 0,am (.ref (p 7 0)) i),(p 6 0,ab o (p 6 1)),(p 7 0,ab h (p 7 1)),(p 8 0,aG w (f7 p g s q k j e m++([("one",p 8 16,.ref (p 11 0)),("two",p 8 18,.ref (p 12 0)),("same",p 8 20,u)]:List (Str×Nat×Yd))) (p 8 1)),aE [a] (p 11),aE [a] (p 12)] fun t=>(.next,[ba (p 2 0) (p 3 0),az [.ref (p 4 0),.ref (p 5 0)] 0,az [.ref (p 11 0),.ref (p 12 0)] 0,am (.ref (p 6 0)) i,am (.ref (p 7 0)) i,ab o (p 6 1),ab h (p 7 1),aG w (f7 p g s q k j e m++([("one",p 8 16,.ref (p 11 0)),("two",p 8 18,.ref (p 12 0)),("same",p 8 20,.int 1 (t 1))]:List (Str×Nat×Yd))) (p 8 1),(aE [a] (p 11)).2,(aE [a] (p 12)).2],[]++[]):=by
 rw [cH]
 exact bt (enc:=cc) cG (orcs:=[o2 "str.__eq__" a a fun _=>.bool true,dz [8] a,dz [9] a,dm [a] [a] [a] 10,c7 8 11 (fun p=>bc p 1 [a] 2) none (some 1) (fun p=>bc p 1 [a] 2),dz [12] a,o2 "str.__ne__" (aU [a]) (aU [a]) fun _=>.bool false]) (aa (cy (beq_self_eq_true _)) (aa (dJ [8] (by decide) a d (by decide)) (aa (dJ [9] (by decide) a d (by decide)) (aa (Cq d (by decide)) (aa (dB (by decide) (fun _=>by show 1≤1000;lia) (fun _=>by kernel_rfl)) (aa (dJ [12] (by decide) a d (by decide)) (aa (aQ (bne_self_eq_false _)) aq))))))) 184 7 [8,7,0,8,0,0,8,0,0,11,9,0,9,0,60,9,0,0,63,8,0,0,8,0,0,11,10,0,10,0,60,10,0,0,63,8,8,9,9,9,0,9,0,54,9,8,8,10,10,10,0,10,0,54,10,2,8,0,0,16,8,7,0,8,0,0,8,0,0,11,9,0,9,0,60,9,0,0,63,0,0,8,0,3,0,8,0,4,0,5,0,8,8,9,9,9,6,0,7,8] [0,1,2,3,4,5,6,7,8,9] none (fun n x f=>aB [p 8 20,(f 0).2.1+1])
theorem LT (b c:Bool) (w:Yc) (a g:Str) (y:Yd) (j u t o m h q:Yd) (i:Nat) (s k:Yb) (p:af) (d:a∈aD) (e:g∈aD):aI (B0 (W b c w)) 8 (execs (fB (cp w)) (dj w p)) [(p 1 0,ba (p 2 0) (p 3 0)),(p 2 0,az [.ref (p 4 0),.ref (p 5 0)] 0),(p 3 0,az [.ref (p 11 0),.ref (p 12 0)] 0),(p 4 0,am (.ref (p 6 0)) i),(p 5 0,am (.ref (p 7 0)) i),(p 6 0,ab s (p 6 1)),(p 7 0,ab k (p 7 1)),(p 8 0,aG w (f7 p j u t o m h q++([("one",p 8 16,.ref (p 11 0)),("two",p 8 18,.ref (p 12 0)),("same",p 8 20,y)]:List (Str×Nat×Yd))) (p 8 1)),aE [a,g] (p 11),aE [a,g] (p 12)] fun x=>(.next,[ba (p 2 0) (p 3 0),az [.ref (p 4 0),.ref (p 5 0)] 0,az [.ref (p 11 0),.ref (p 12 0)] 0,am (.ref (p 6 0)) i,am (.ref (p 7 0)) i,ab s (p 6 1),ab k (p 7 1),aG w (f7 p j u t o m h q++([("one",p 8 16,.ref (p 11 0)),("two",p 8 18,.ref (p 12 0)),("same",p 8 20,.int 2 (x 1))]:List (Str×Nat×Yd))) (p 8 1),(aE [a,g] (p 11)).2,(aE [a,g] (p 12)).2],[]++[]):=by
 rw [cH]
 exact bt (enc:=cc) cG (orcs:=[o2 "str.__eq__" a a fun _=>.bool true,o2 "str.__eq__" g g fun _=>.bool true,dA [8] a g,dA [9] a g,dm [a,g] [a,g] [a,g] 10,c7 8 11 (fun p=>bc p 1 [a,g] 2) none (some 2) (fun p=>bc p 1 [a,g] 2),dA [12] a g,o2 "str.__ne__" (aU [a,g]) (aU [a,g]) fun _=>.bool false]) (aa (cy (beq_self_eq_true _)) (aa (cy (beq_self_eq_true _)) (aa (dK [8] (by decide) a g d e (by decide)) (aa (dK [9] (by decide) a g d e (by decide)) (aa (Cr d e (by decide)) (aa (dB (by decide) (fun _=>by show 2≤1000;lia) (fun _=>by kernel_rfl)) (aa (dK [12] (by decide) a g d e (by decide)) (aa (aQ (bne_self_eq_false _)) aq)))))))) 282 8 [8,7,0,8,0,0,8,0,0,11,9,0,9,0,60,9,0,0,63,8,0,0,8,0,0,11,10,0,10,0,60,10,0,0,63,8,8,9,9,9,0,9,0,54,9,8,8,10,10,10,0,10,0,54,10,2,8,0,0,16,8,7,0,8,0,0,8,0,0,11,9,0,9,0,60,9,0,0,63,8,0,0,8,0,0,11,10,0,10,0,60,10,0,0,63,8,8,9,9,9,0,9,0,54,9,8,8,10,10,10,0,10,0,54,10,3,8,0,0,16,8,7,0,8,0,0,8,0,0,11,9,0,9,0,60,9,0,0,63,0,0,8,0,4,0,8,0,5,0,6,0,8,8,9,9,9,7,0,8,9] [0,1,2,3,4,5,6,7,8,9] none (fun n z f=>aB [p 8 20,(f 1).2.1+1])
theorem LU (b c:Bool) (w:Yc) (a e:Str) (A:Yd) (h t s m k g o:Yd) (i:Nat) (q j:Yb) (p:af) (d:a∈aD) (u:e∈aD) (y:aP [a,e] [a]=false) (z:aP [a] [a,e]=true):aI (B0 (W b c w)) 8 (execs (fB (cp w)) (dj w p)) [(p 1 0,ba (p 2 0) (p 3 0)),(p 2 0,az [.ref (p 4 0),.ref (p 5 0)] 0),(p 3 0,az [.ref (p 11 0),.ref (p 12 0)] 0),(p 4 0,am (.ref (p 6 0)) i),(p 5 0,am (.ref (p 7 0)) i),(p 6 0,ab q (p 6 1)),(p 7 0,ab j (p 7 1)),(p 8 0,aG w (f7 p h t s m k g o++([("one",p 8 16,.ref (p 11 0)),("two",p 8 18,.ref (p 12 0)),("same",p 8 20,A)]:List (Str×Nat×Yd))) (p 8 1)),aE [a] (p 11),aE [a,e] (p 12)] fun x=>(.next,[ba (p 2 0) (p 3 0),az [.ref (p 4 0),.ref (p 5 0)] 0,az [.ref (p 11 0),.ref (p 12 0)] 0,am (.ref (p 6 0)) i,am (.ref (p 7 0)) i,ab q (p 6 1),ab j (p 7 1),aG w (f7 p h t s m k g o++([("one",p 8 16,.ref (p 11 0)),("two",p 8 18,.ref (p 12 0)),("same",p 8 20,.int 1 (x 1))]:List (Str×Nat×Yd))) (p 8 1),(aE [a] (p 11)).2,(aE [a,e] (p 12)).2],[]++[]):=by
 rw [cH]
 exact bt (enc:=cc) cG (orcs:=[o2 "str.__eq__" a a fun _=>.bool true,dz [8] a,dA [9] a e,dm [a] [a,e] [a] 10,c7 8 11 (fun p=>bc p 1 [a] 2) none (some 1) (fun p=>bc p 1 [a] 2),dz [12] a,o2 "str.__ne__" (aU [a]) (aU [a]) fun _=>.bool false]) (aa (cy (beq_self_eq_true _)) (aa (dJ [8] (by decide) a d (by decide)) (aa (dK [9] (by decide) a e d u (by decide)) (aa (Cs d u y z (by decide)) (aa (dB (by decide) (fun _=>by show 1≤1000;lia) (fun _=>by kernel_rfl)) (aa (dJ [12] (by decide) a d (by decide)) (aa (aQ (bne_self_eq_false _)) aq))))))) 184 7 [8,7,0,8,0,0,8,0,0,11,9,0,9,0,60,9,0,0,63,8,0,0,8,0,0,11,10,0,10,0,60,10,0,0,63,8,8,9,9,9,0,9,0,54,9,8,8,10,10,10,0,10,0,54,10,2,8,0,0,16,8,7,0,8,0,0,8,0,0,11,9,0,9,0,60,9,0,0,63,0,0,8,0,3,0,8,0,4,0,5,0,8,8,9,9,9,6,0,7,8] [0,1,2,3,4,5,6,7,8,9] none (fun n B f=>aB [p 8 20,(f 0).2.1+1])
theorem LV (b c:Bool) (w:Yc) (a d:Str) (C:Yd) (h u t m k e o:Yd) (i:Nat) (s j:Yb) (p:af) (x:a∈aD) (g:d∈aD) (q:(a.cps.toList != d.cps.toList)=true) (A:aP [d] [a]=false) (B:aP [a] [d]=true):aI (B0 (W b c w)) 8 (execs (fB (cp w)) (dj w p)) [(p 1 0,ba (p 2 0) (p 3 0)),(p 2 0,az [.ref (p 4 0),.ref (p 5 0)] 0),(p 3 0,az [.ref (p 11 0),.ref (p 12 0)] 0),(p 4 0,am (.ref (p 6 0)) i),(p 5 0,am (.ref (p 7 0)) i),(p 6 0,ab s (p 6 1)),(p 7 0,ab j (p 7 1)),(p 8 0,aG w (f7 p h u t m k e o++([("one",p 8 16,.ref (p 11 0)),("two",p 8 18,.ref (p 12 0)),("same",p 8 20,C)]:List (Str×Nat×Yd))) (p 8 1)),aE [a] (p 11),aE [d] (p 12)] fun z=>(.next,[ba (p 2 0) (p 3 0),az [.ref (p 4 0),.ref (p 5 0)] 0,az [.ref (p 11 0),.ref (p 12 0)] 0,am (.ref (p 6 0)) i,am (.ref (p 7 0)) i,ab s (p 6 1),ab j (p 7 1),aG w (f7 p h u t m k e o++([("one",p 8 16,.ref (p 11 0)),("two",p 8 18,.ref (p 12 0)),("same",p 8 20,.int 0 (z 1))]:List (Str×Nat×Yd))) (p 8 1),(aE [a] (p 11)).2,(aE [d] (p 12)).2],[]++[]):=by
 rw [cH]
 exact bt (enc:=cc) cG (orcs:=[o2 "str.__eq__" a d fun _=>.bool false,dz [8] a,dz [9] d,dm [a] [d] [] 10,c7 8 11 (fun p=>bc p 1 [a] 2) none (some 0) (fun p=>bc p 1 [] 2),jP [12],o2 "str.__ne__" (aU []) (aU []) fun _=>.bool false]) (aa (cy (i7 q)) (aa (dJ [8] (by decide) a x (by decide)) (aa (dJ [9] (by decide) d g (by decide)) (aa (Ct x g A B q (by decide)) (aa (dB (by decide) (fun _=>by show 1≤1000;lia) (fun _=>by kernel_rfl)) (aa (kM (by decide) (by decide)) (aa (aQ (bne_self_eq_false _)) aq))))))) 141 7 [8,7,0,8,0,0,8,0,0,11,9,0,9,0,60,9,0,0,63,8,0,0,8,0,0,11,10,0,10,0,60,10,0,0,63,8,8,9,9,9,0,9,0,54,9,8,8,10,10,10,0,10,0,54,10,2,0,0,8,0,3,0,8,0,4,0,5,0,8,8,9,9,9,6,0,7,8] [0,1,2,3,4,5,6,7,8,9] none (fun n y f=>aB [p 8 20,y+0])
theorem LW (b c:Bool) (w:Yc) (a d e:Str) (E:Yd) (j x u o m g q:Yd) (i:Nat) (t k:Yb) (p:af) (y:a∈aD) (h:d∈aD) (z:e∈aD) (s:(a.cps.toList != d.cps.toList)=true) (C:aP [d,e] [a]=false) (D:aP [a] [d,e]=true):aI (B0 (W b c w)) 8 (execs (fB (cp w)) (dj w p)) [(p 1 0,ba (p 2 0) (p 3 0)),(p 2 0,az [.ref (p 4 0),.ref (p 5 0)] 0),(p 3 0,az [.ref (p 11 0),.ref (p 12 0)] 0),(p 4 0,am (.ref (p 6 0)) i),(p 5 0,am (.ref (p 7 0)) i),(p 6 0,ab t (p 6 1)),(p 7 0,ab k (p 7 1)),(p 8 0,aG w (f7 p j x u o m g q++([("one",p 8 16,.ref (p 11 0)),("two",p 8 18,.ref (p 12 0)),("same",p 8 20,E)]:List (Str×Nat×Yd))) (p 8 1)),aE [a] (p 11),aE [d,e] (p 12)] fun B=>(.next,[ba (p 2 0) (p 3 0),az [.ref (p 4 0),.ref (p 5 0)] 0,az [.ref (p 11 0),.ref (p 12 0)] 0,am (.ref (p 6 0)) i,am (.ref (p 7 0)) i,ab t (p 6 1),ab k (p 7 1),aG w (f7 p j x u o m g q++([("one",p 8 16,.ref (p 11 0)),("two",p 8 18,.ref (p 12 0)),("same",p 8 20,.int 0 (B 1))]:List (Str×Nat×Yd))) (p 8 1),(aE [a] (p 11)).2,(aE [d,e] (p 12)).2],[]++[]):=by
 rw [cH]
 exact bt (enc:=cc) cG (orcs:=[o2 "str.__eq__" a d fun _=>.bool false,dz [8] a,dA [9] d e,dm [a] [d,e] [] 10,c7 8 11 (fun p=>bc p 1 [a] 2) none (some 0) (fun p=>bc p 1 [] 2),jP [12],o2 "str.__ne__" (aU []) (aU []) fun _=>.bool false]) (aa (cy (i7 s)) (aa (dJ [8] (by decide) a y (by decide)) (aa (dK [9] (by decide) d e h z (by decide)) (aa (Cu y h z C D s (by decide)) (aa (dB (by decide) (fun _=>by show 1≤1000;lia) (fun _=>by kernel_rfl)) (aa (kM (by decide) (by decide)) (aa (aQ (bne_self_eq_false _)) aq))))))) 141 7 [8,7,0,8,0,0,8,0,0,11,9,0,9,0,60,9,0,0,63,8,0,0,8,0,0,11,10,0,10,0,60,10,0,0,63,8,8,9,9,9,0,9,0,54,9,8,8,10,10,10,0,10,0,54,10,2,0,0,8,0,3,0,8,0,4,0,5,0,8,8,9,9,9,6,0,7,8] [0,1,2,3,4,5,6,7,8,9] none (fun n A f=>aB [p 8 20,A+0])
theorem LX (b c:Bool) (w:Yc) (a g d:Str) (E:Yd) (j y x o m e s:Yd) (i:Nat) (u k:Yb) (p:af) (z:a∈aD) (q:g∈aD) (h:d∈aD) (t:(a.cps.toList != d.cps.toList)=true) (C:aP [d] [a,g]=false) (D:aP [a,g] [d]=true):aI (B0 (W b c w)) 8 (execs (fB (cp w)) (dj w p)) [(p 1 0,ba (p 2 0) (p 3 0)),(p 2 0,az [.ref (p 4 0),.ref (p 5 0)] 0),(p 3 0,az [.ref (p 11 0),.ref (p 12 0)] 0),(p 4 0,am (.ref (p 6 0)) i),(p 5 0,am (.ref (p 7 0)) i),(p 6 0,ab u (p 6 1)),(p 7 0,ab k (p 7 1)),(p 8 0,aG w (f7 p j y x o m e s++([("one",p 8 16,.ref (p 11 0)),("two",p 8 18,.ref (p 12 0)),("same",p 8 20,E)]:List (Str×Nat×Yd))) (p 8 1)),aE [a,g] (p 11),aE [d] (p 12)] fun B=>(.next,[ba (p 2 0) (p 3 0),az [.ref (p 4 0),.ref (p 5 0)] 0,az [.ref (p 11 0),.ref (p 12 0)] 0,am (.ref (p 6 0)) i,am (.ref (p 7 0)) i,ab u (p 6 1),ab k (p 7 1),aG w (f7 p j y x o m e s++([("one",p 8 16,.ref (p 11 0)),("two",p 8 18,.ref (p 12 0)),("same",p 8 20,.int 0 (B 1))]:List (Str×Nat×Yd))) (p 8 1),(aE [a,g] (p 11)).2,(aE [d] (p 12)).2],[]++[]):=by
 rw [cH]
 exact bt (enc:=cc) cG (orcs:=[o2 "str.__eq__" a d fun _=>.bool false,dA [8] a g,dz [9] d,dm [a,g] [d] [] 10,c7 8 11 (fun p=>bc p 1 [a,g] 2) none (some 0) (fun p=>bc p 1 [] 2),jP [12],o2 "str.__ne__" (aU []) (aU []) fun _=>.bool false]) (aa (cy (i7 t)) (aa (dK [8] (by decide) a g z q (by decide)) (aa (dJ [9] (by decide) d h (by decide)) (aa (Cv z q h C D t (by decide)) (aa (dB (by decide) (fun _=>by show 2≤1000;lia) (fun _=>by kernel_rfl)) (aa (kM (by decide) (by decide)) (aa (aQ (bne_self_eq_false _)) aq))))))) 141 7 [8,7,0,8,0,0,8,0,0,11,9,0,9,0,60,9,0,0,63,8,0,0,8,0,0,11,10,0,10,0,60,10,0,0,63,8,8,9,9,9,0,9,0,54,9,8,8,10,10,10,0,10,0,54,10,2,0,0,8,0,3,0,8,0,4,0,5,0,8,8,9,9,9,6,0,7,8] [0,1,2,3,4,5,6,7,8,9] none (fun n A f=>aB [p 8 20,A+0])
theorem LY (b c:Bool) (w:Yc) (a g d e:Str) (G:Yd) (k z y q o h t:Yd) (i:Nat) (x m:Yb) (p:af) (A:a∈aD) (s:g∈aD) (j:d∈aD) (B:e∈aD) (u:(a.cps.toList != d.cps.toList)=true) (E:aP [d,e] [a,g]=false) (F:aP [a,g] [d,e]=true):aI (B0 (W b c w)) 8 (execs (fB (cp w)) (dj w p)) [(p 1 0,ba (p 2 0) (p 3 0)),(p 2 0,az [.ref (p 4 0),.ref (p 5 0)] 0),(p 3 0,az [.ref (p 11 0),.ref (p 12 0)] 0),(p 4 0,am (.ref (p 6 0)) i),(p 5 0,am (.ref (p 7 0)) i),(p 6 0,ab x (p 6 1)),(p 7 0,ab m (p 7 1)),(p 8 0,aG w (f7 p k z y q o h t++([("one",p 8 16,.ref (p 11 0)),("two",p 8 18,.ref (p 12 0)),("same",p 8 20,G)]:List (Str×Nat×Yd))) (p 8 1)),aE [a,g] (p 11),aE [d,e] (p 12)] fun D=>(.next,[ba (p 2 0) (p 3 0),az [.ref (p 4 0),.ref (p 5 0)] 0,az [.ref (p 11 0),.ref (p 12 0)] 0,am (.ref (p 6 0)) i,am (.ref (p 7 0)) i,ab x (p 6 1),ab m (p 7 1),aG w (f7 p k z y q o h t++([("one",p 8 16,.ref (p 11 0)),("two",p 8 18,.ref (p 12 0)),("same",p 8 20,.int 0 (D 1))]:List (Str×Nat×Yd))) (p 8 1),(aE [a,g] (p 11)).2,(aE [d,e] (p 12)).2],[]++[]):=by
 rw [cH]
 exact bt (enc:=cc) cG (orcs:=[o2 "str.__eq__" a d fun _=>.bool false,dA [8] a g,dA [9] d e,dm [a,g] [d,e] [] 10,c7 8 11 (fun p=>bc p 1 [a,g] 2) none (some 0) (fun p=>bc p 1 [] 2),jP [12],o2 "str.__ne__" (aU []) (aU []) fun _=>.bool false]) (aa (cy (i7 u)) (aa (dK [8] (by decide) a g A s (by decide)) (aa (dK [9] (by decide) d e j B (by decide)) (aa (Cw A s j B E F u (by decide)) (aa (dB (by decide) (fun _=>by show 2≤1000;lia) (fun _=>by kernel_rfl)) (aa (kM (by decide) (by decide)) (aa (aQ (bne_self_eq_false _)) aq))))))) 141 7 [8,7,0,8,0,0,8,0,0,11,9,0,9,0,60,9,0,0,63,8,0,0,8,0,0,11,10,0,10,0,60,10,0,0,63,8,8,9,9,9,0,9,0,54,9,8,8,10,10,10,0,10,0,54,10,2,0,0,8,0,3,0,8,0,4,0,5,0,8,8,9,9,9,6,0,7,8] [0,1,2,3,4,5,6,7,8,9] none (fun n C f=>aB [p 8 20,C+0])
theorem LZ (b c:Bool) (w:Yc) (a g e:Str) (D:Yd) (j y x o m h s:Yd) (i:Nat) (u k:Yb) (p:af) (d:a∈aD) (q:g∈aD) (z:e∈aD) (t:(g.cps.toList != e.cps.toList)=true) (B:aP [a,e] [a,g]=false) (C:aP [a,g] [a,e]=true):aI (B0 (W b c w)) 8 (execs (fB (cp w)) (dj w p)) [(p 1 0,ba (p 2 0) (p 3 0)),(p 2 0,az [.ref (p 4 0),.ref (p 5 0)] 0),(p 3 0,az [.ref (p 11 0),.ref (p 12 0)] 0),(p 4 0,am (.ref (p 6 0)) i),(p 5 0,am (.ref (p 7 0)) i),(p 6 0,ab u (p 6 1)),(p 7 0,ab k (p 7 1)),(p 8 0,aG w (f7 p j y x o m h s++([("one",p 8 16,.ref (p 11 0)),("two",p 8 18,.ref (p 12 0)),("same",p 8 20,D)]:List (Str×Nat×Yd))) (p 8 1)),aE [a,g] (p 11),aE [a,e] (p 12)] fun A=>(.next,[ba (p 2 0) (p 3 0),az [.ref (p 4 0),.ref (p 5 0)] 0,az [.ref (p 11 0),.ref (p 12 0)] 0,am (.ref (p 6 0)) i,am (.ref (p 7 0)) i,ab u (p 6 1),ab k (p 7 1),aG w (f7 p j y x o m h s++([("one",p 8 16,.ref (p 11 0)),("two",p 8 18,.ref (p 12 0)),("same",p 8 20,.int 1 (A 1))]:List (Str×Nat×Yd))) (p 8 1),(aE [a,g] (p 11)).2,(aE [a,e] (p 12)).2],[]++[]):=by
 rw [cH]
 exact bt (enc:=cc) cG (orcs:=[o2 "str.__eq__" a a fun _=>.bool true,o2 "str.__eq__" g e fun _=>.bool false,dA [8] a g,dA [9] a e,dm [a,g] [a,e] [a] 10,c7 8 11 (fun p=>bc p 1 [a,g] 2) none (some 1) (fun p=>bc p 1 [a] 2),dz [12] a,o2 "str.__ne__" (aU [a]) (aU [a]) fun _=>.bool false]) (aa (cy (beq_self_eq_true _)) (aa (cy (i7 t)) (aa (dK [8] (by decide) a g d q (by decide)) (aa (dK [9] (by decide) a e d z (by decide)) (aa (Cy d q z B C t (by decide)) (aa (dB (by decide) (fun _=>by show 2≤1000;lia) (fun _=>by kernel_rfl)) (aa (dJ [12] (by decide) a d (by decide)) (aa (aQ (bne_self_eq_false _)) aq)))))))) 239 8 [8,7,0,8,0,0,8,0,0,11,9,0,9,0,60,9,0,0,63,8,0,0,8,0,0,11,10,0,10,0,60,10,0,0,63,8,8,9,9,9,0,9,0,54,9,8,8,10,10,10,0,10,0,54,10,2,8,0,0,16,8,7,0,8,0,0,8,0,0,11,9,0,9,0,60,9,0,0,63,8,0,0,8,0,0,11,10,0,10,0,60,10,0,0,63,8,8,9,9,9,0,9,0,54,9,8,8,10,10,10,0,10,0,54,10,3,0,0,8,0,4,0,8,0,5,0,6,0,8,8,9,9,9,7,0,8,9] [0,1,2,3,4,5,6,7,8,9] none (fun n E f=>aB [p 8 20,(f 0).2.1+1])
end
section
theorem L1 (b c:Bool) (w:Yc) (u v:Yd) (i:Nat) (a d:Yb) (e:Nat) (g:a[i]? = some (.ref e)) (f:d.length≤i) (p:af):aC (B0 (W b c w)) 9 (jz (cp w) (p 1 0) (p 8 0) [p 9 0,p 13 0]) [(p 1 0,ba (p 2 0) (p 3 0)),(p 2 0,az [.ref (p 4 0),.ref (p 5 0)] 0),(p 3 0,az [u,v] 0),(p 4 0,am (.ref (p 6 0)) i),(p 5 0,am (.ref (p 7 0)) i),(p 6 0,ab a (p 6 1)),(p 7 0,ab d (p 7 1))] (fun h=>(.next,[ba (p 2 0) (p 3 0),az [.ref (p 4 0),.ref (p 5 0)] 0,az [.ref e,v] 0,am (.ref (p 6 0)) (i+1),am .none i,ab a (p 6 1),ab d (p 7 1)],[])):=
 aA (orcs:=[cD 3 5 a i (.ref e),fK 4 6 d i]) (aa (cT (by decide) g) (aa (iR (by decide) f) aq)) 30 2 [1,0,1,0,94,1,1,2,1,1,1,0,4,2,3,3,2,3,5,3,1,0,8,0] [0,1,2,3,4,5,6] (fun _ _ _ _=>0) (hc:=aS (sO _ _ _ _))
end
def iv:Yg→Yg→Nat
 | x::xs,y::ys=>match decide (x=y) with
  | true=>iv xs ys+1
  | false=>0
 | _,_=>0
theorem p3 {a d:Str} (h:a≠d):(a.cps.toList != d.cps.toList)=true:=by
 cases e:a.cps.toList != d.cps.toList with
 | true=>rfl
 | false=>
  have:a.cps.toList=d.cps.toList:=by simpa [bne] using e
  exact absurd (Ao this) h
theorem p5 {a d:Str} {f e:Yg} (h:a≠d):iv (a::f) (d::e)=0:=by
 show (match decide (a=d) with | true=>_ | false=>0)=0
 rw [decide_eq_false h]
theorem tt {a:Str} {e d:Yg}:iv (a::e) (a::d)=iv e d+1:=by
 show (match decide (a=a) with | true=>_ | false=>0)=_
 rw [decide_eq_true rfl]
theorem nF {d a:Yg} (f:aP a d=false) (h:d≠a):aP d a=true:=by
 cases e:aP d a with
 | true=>rfl
 | false=>exact absurd (vH d a e f) h
theorem CC {P:Yg→Yg→Nat→Prop} (A:∀a∈aD,P [a] [a] 1) (B:∀a∈aD,∀g∈aD,P [a,g] [a,g] 2)
  (C:∀a∈aD,∀e∈aD,aP [a,e] [a]=false→aP [a] [a,e]=true→P [a] [a,e] 1)
  (s:∀a∈aD,∀d∈aD,aP [d] [a]=false→aP [a] [d]=true→(a.cps.toList != d.cps.toList)=true→P [a] [d] 0)
  (t:∀a∈aD,∀d∈aD,∀e∈aD,aP [d,e] [a]=false→aP [a] [d,e]=true→(a.cps.toList != d.cps.toList)=true→P [a] [d,e] 0)
  (u:∀a∈aD,∀g∈aD,∀d∈aD,aP [d] [a,g]=false→aP [a,g] [d]=true→(a.cps.toList != d.cps.toList)=true→P [a,g] [d] 0)
  (x:∀a∈aD,∀g∈aD,∀d∈aD,∀e∈aD,aP [d,e] [a,g]=false→aP [a,g] [d,e]=true→(a.cps.toList != d.cps.toList)=true→P [a,g] [d,e] 0)
  (E:∀a∈aD,∀g∈aD,∀e∈aD,aP [a,e] [a,g]=false→aP [a,g] [a,e]=true→(g.cps.toList != e.cps.toList)=true→P [a,g] [a,e] 1)
  {k n:Yg} (hx:cE k) (y:cE n) (f:aP n k=false):P k n (iv k n):=by
 rcases hx with ⟨a,h,rfl⟩ | ⟨a,h,g,m,rfl⟩ <;> rcases y with ⟨d,j,rfl⟩ | ⟨d,j,e,o,rfl⟩
 ·by_cases q:a=d
  ·subst q;rw [tt];exact A a h
  ·rw [p5 q];exact s a h d j f (nF f fun z=>q (by cases z;rfl)) (p3 q)
 ·by_cases q:a=d
  ·subst q;rw [tt];exact C a h e o f (nF f fun z=>by cases z)
  ·rw [p5 q];exact t a h d j e o f (nF f fun z=>by cases z) (p3 q)
 ·by_cases q:a=d
  ·subst q
   have:aP [a] [a,g]=true:=by
    show (if a==a then aP [] [g] else _)=true
    rw [beq_self_eq_true,if_pos rfl];rfl
   rw [this] at f;cases f
  ·rw [p5 q];exact u a h g m d j f (nF f fun z=>by cases z) (p3 q)
 ·by_cases q:a=d
  ·subst q
   rw [tt]
   by_cases q2:g=e
   ·subst q2;rw [tt];exact B a h g m
   ·rw [p5 q2];exact E a h g m e o f (nF f fun z=>q2 (by cases z;rfl)) (p3 q2)
  ·rw [p5 q];exact x a h g m d j e o f (nF f fun z=>q (by cases z;rfl)) (p3 q)
section
def iw (w:Yc) (p:af):Code:=jz (cp w) (p 1 0) (p 8 0) [p 9 0,p 13 0]
theorem CD (w:Yc) (p:af):iw w p = .forLoop (.Tuple (nb (fT (cp w))) (nm (fT (cp w))) (nq (fT (cp w)))) (.ref (p 1 0)) (fB (cp w)) [] (dj w p):=by
 unfold iw dj
 rw [vl (Ln w),Lo,←wK]
def tu (p:af) (vs ws:Yb) (u v:Yd) (i:Nat) (a:Obj) (e d:Yg):Ya:=[(p 1 0,ba (p 2 0) (p 3 0)),(p 2 0,az [.ref (p 4 0),.ref (p 5 0)] 0),(p 3 0,az [u,v] 0),(p 4 0,am (.ref (p 6 0)) i),(p 5 0,am (.ref (p 7 0)) i),(p 6 0,ab vs (p 6 1)),(p 7 0,ab ws (p 7 1)),(p 8 0,a),aE e (p 11),aE d (p 12)]
def nG (p:af) (vs ws:Yb) (u v:Yd) (i:Nat) (a:Obj) (e d:Yg):Yf:=[ba (p 2 0) (p 3 0),az [.ref (p 4 0),.ref (p 5 0)] 0,az [u,v] 0,am (.ref (p 6 0)) i,am (.ref (p 7 0)) i,ab vs (p 6 1),ab ws (p 7 1),a,(aE e (p 11)).2,(aE d (p 12)).2]
section
variable (b c:Bool) (w:Yc) (p:af) (v1 v2 v3 v4 v5 v6 v7:Yd) (i:Nat) (vs ws:Yb)
theorem L2 {o m:Yg} (hx:cE o) (x:cE m) (h:aP m o=false):aI (B0 (W b c w)) 8 (execs (fB (cp w)) (dj w p)) (tu p vs ws (.ref (p 11 0)) (.ref (p 12 0)) i (aG w (f7 p v1 v2 v3 v4 v5 v6 v7++([("one",p 8 16,.ref (p 11 0)),("two",p 8 18,.ref (p 12 0))]:List (Str×Nat×Yd))) (p 8 1)) o m) fun u=>
  (.next,nG p vs ws (.ref (p 11 0)) (.ref (p 12 0)) i (aG w (f7 p v1 v2 v3 v4 v5 v6 v7++([("one",p 8 16,.ref (p 11 0)),("two",p 8 18,.ref (p 12 0)),("same",u 0,.int (iv o m:Nat) (u 1))]:List (Str×Nat×Yd))) (p 8 1+1)) o m,[]):=
 CC (P:=fun o m n=>aI (B0 (W b c w)) 8 (execs (fB (cp w)) (dj w p)) (tu p vs ws (.ref (p 11 0)) (.ref (p 12 0)) i (aG w (f7 p v1 v2 v3 v4 v5 v6 v7++([("one",p 8 16,.ref (p 11 0)),("two",p 8 18,.ref (p 12 0))]:List (Str×Nat×Yd))) (p 8 1)) o m) fun u=>
  (.next,nG p vs ws (.ref (p 11 0)) (.ref (p 12 0)) i (aG w (f7 p v1 v2 v3 v4 v5 v6 v7++([("one",p 8 16,.ref (p 11 0)),("two",p 8 18,.ref (p 12 0)),("same",u 0,.int (n:Nat) (u 1))]:List (Str×Nat×Yd))) (p 8 1+1)) o m,[]))
  (fun a f=>LK b c w a v1 v2 v3 v4 v5 v6 v7 i vs ws p f)
  (fun a f g s=>LL b c w a g v1 v2 v3 v4 v5 v6 v7 i vs ws p f s)
  (fun a f e t h j=>LM b c w a e v1 v2 v3 v4 v5 v6 v7 i vs ws p f t h j)
  (fun a f d q h j k=>LN b c w a d v1 v2 v3 v4 v5 v6 v7 i vs ws p f q k h j)
  (fun a f d q e t h j k=>LO b c w a d e v1 v2 v3 v4 v5 v6 v7 i vs ws p f q t k h j)
  (fun a f g s d q h j k=>LP b c w a g d v1 v2 v3 v4 v5 v6 v7 i vs ws p f s q k h j)
  (fun a f g s d q e t h j k=>LQ b c w a g d e v1 v2 v3 v4 v5 v6 v7 i vs ws p f s q t k h j)
  (fun a f g s e t h j k=>LR b c w a g e v1 v2 v3 v4 v5 v6 v7 i vs ws p f s t k h j)
  hx x h
theorem L3 (o3:Yd) {o m:Yg} (hx:cE o) (x:cE m) (h:aP m o=false):aI (B0 (W b c w)) 8 (execs (fB (cp w)) (dj w p)) (tu p vs ws (.ref (p 11 0)) (.ref (p 12 0)) i (aG w (f7 p v1 v2 v3 v4 v5 v6 v7++([("one",p 8 16,.ref (p 11 0)),("two",p 8 18,.ref (p 12 0)),("same",p 8 20,o3)]:List (Str×Nat×Yd))) (p 8 1)) o m) fun u=>
  (.next,nG p vs ws (.ref (p 11 0)) (.ref (p 12 0)) i (aG w (f7 p v1 v2 v3 v4 v5 v6 v7++([("one",p 8 16,.ref (p 11 0)),("two",p 8 18,.ref (p 12 0)),("same",p 8 20,.int (iv o m:Nat) (u 1))]:List (Str×Nat×Yd))) (p 8 1)) o m,[]):=
 CC (P:=fun o m n=>aI (B0 (W b c w)) 8 (execs (fB (cp w)) (dj w p)) (tu p vs ws (.ref (p 11 0)) (.ref (p 12 0)) i (aG w (f7 p v1 v2 v3 v4 v5 v6 v7++([("one",p 8 16,.ref (p 11 0)),("two",p 8 18,.ref (p 12 0)),("same",p 8 20,o3)]:List (Str×Nat×Yd))) (p 8 1)) o m) fun u=>
  (.next,nG p vs ws (.ref (p 11 0)) (.ref (p 12 0)) i (aG w (f7 p v1 v2 v3 v4 v5 v6 v7++([("one",p 8 16,.ref (p 11 0)),("two",p 8 18,.ref (p 12 0)),("same",p 8 20,.int (n:Nat) (u 1))]:List (Str×Nat×Yd))) (p 8 1)) o m,[]))
  (fun a f=>LS b c w a o3 v1 v2 v3 v4 v5 v6 v7 i vs ws p f)
  (fun a f g s=>LT b c w a g o3 v1 v2 v3 v4 v5 v6 v7 i vs ws p f s)
  (fun a f e t h j=>LU b c w a e o3 v1 v2 v3 v4 v5 v6 v7 i vs ws p f t h j)
  (fun a f d q h j k=>LV b c w a d o3 v1 v2 v3 v4 v5 v6 v7 i vs ws p f q k h j)
  (fun a f d q e t h j k=>LW b c w a d e o3 v1 v2 v3 v4 v5 v6 v7 i vs ws p f q t k h j)
  (fun a f g s d q h j k=>LX b c w a g d o3 v1 v2 v3 v4 v5 v6 v7 i vs ws p f s q k h j)
  (fun a f g s d q e t h j k=>LY b c w a g d e o3 v1 v2 v3 v4 v5 v6 v7 i vs ws p f s q t k h j)
  (fun a f g s e t h j k=>LZ b c w a g e o3 v1 v2 v3 v4 v5 v6 v7 i vs ws p f s t k h j)
  hx x h
end
end
structure i8 where
 u:Yd
 v:Yd
 k:Option (Nat×Nat×Nat×Yd×Yd×Yd)
 n:Nat
abbrev jQ:=RD×RD
def nH (p:af) (v1 v2 v3 v4 v5 v6 v7:Yd):Option (Nat×Nat×Nat×Yd×Yd×Yd)→List (Str×Nat×Yd)
 | none=>f7 p v1 v2 v3 v4 v5 v6 v7
 | some (a,b,t3,o1,o2,o3)=>f7 p v1 v2 v3 v4 v5 v6 v7++([("one",a,o1),("two",b,o2),("same",t3,o3)]:List (Str×Nat×Yd))
def pG (p:af) (d:jQ) (n a b c t3:Nat):af:=fun j i=>match j,i with
 | 11,i=>d.1.2 i
 | 12,i=>d.2.2 i
 | 14,_=>a
 | 8,1=>n
 | 8,16=>b
 | 8,18=>c
 | 8,20=>t3
 | j,i=>p j i
section
section
variable (w:Yc) (p:af) (v1 v2 v3 v4 v5 v6 v7:Yd) (vs ws:Yb)
def iz (i:Nat) (s:i8):Ya:=[(p 1 0,ba (p 2 0) (p 3 0)),(p 2 0,az [.ref (p 4 0),.ref (p 5 0)] 0),(p 3 0,az [s.u,s.v] 0),(p 4 0,am (.ref (p 6 0)) i),(p 5 0,am (.ref (p 7 0)) i),(p 6 0,ab vs (p 6 1)),(p 7 0,ab ws (p 7 1)),(p 8 0,aG w (nH p v1 v2 v3 v4 v5 v6 v7 s.k) s.n)]
def jR (d:jQ):Ya:=[aE d.1.1 d.1.2,aE d.2.1 d.2.2]
def tw (d:jQ) (s:i8) (a:Ye):i8:=
 {u:=.ref (d.1.2 0),v:=.ref (d.2.2 0),
  k:=match s.k with
   | none=>some (a 0,a 1,a 2,.ref (d.1.2 0),.ref (d.2.2 0),.int (iv d.1.1 d.2.1:Nat) (a 3))
   | some (b,c,t3,_,_,_)=>some (b,c,t3,.ref (d.1.2 0),.ref (d.2.2 0),.int (iv d.1.1 d.2.1:Nat) (a 3)),
  n:=match s.k with
   | none=>s.n+1+1+1
   | some _=>s.n}
def tx:Option (Nat×Nat×Nat×Yd×Yd×Yd)→Ye→Nat→Nat
 | none,a=>f9 (ev (od a) 0) (ev (od a) 1) (od (od a) 0) (od (od a) 1)
 | some _,a=>f9 0 0 0 (od (od a) 1)
theorem L4 (b c:Bool) {d:jQ} (i:Nat) (u v:Yd) (n:Nat) (hx:cE d.1.1) (s:cE d.2.1) (m:aP d.2.1 d.1.1=false) (o:vs[i]? = some (.ref (d.1.2 0))) (k:ws[i]? = some (.ref (d.2.2 0))) :
  aL (B0 (W b c w)) 9 (iw w p) (iz w p v1 v2 v3 v4 v5 v6 v7 vs ws i ⟨u,v,none,n⟩++jR d) fun g=>(.error (iw w p),bH (iz w p v1 v2 v3 v4 v5 v6 v7 vs ws (i+1) (tw d ⟨u,v,none,n⟩ (tx none g)))++bH (jR d),[]):=by
 rw [CD]
 have j:=fun q=>LI b c w d.1.1 d.2.1 v1 v2 v3 v4 v5 v6 v7 (i+1) vs ws (pG p d n q 0 0 0)
 rw [wK] at j
 exact lz (bG (W b c w)) (e:=0) (rest:=tc p) (Z0:=ba (p 2 0) (p 3 0)) (T:=(iz w p v1 v2 v3 v4 v5 v6 v7 vs ws i ⟨u,v,none,n⟩).tail++jR d)
  (o1:=fun g=>(wL w d.1.1 d.2.1 (aG w (f7 p v1 v2 v3 v4 v5 v6 v7) n) u v i vs ws (pG p d n 0 0 0 0) g).tail) (V1:=fun g=>az [.ref (d.1.2 0),.ref (d.2.2 0)] 0)
  (o2:=fun g f=>(CA w d.1.1 d.2.1 v1 v2 v3 v4 v5 v6 v7 (i+1) vs ws (pG p d n (g 0) 0 0 0) f).tail.dropLast) (V2:=fun _ _=>az [.ref (d.1.2 0),.ref (d.2.2 0)] 0)
  (o3:=fun g f h=>(nG (pG p d (n+1+1) (g 0) (f 0) (f 1) 0) vs ws (.ref (d.1.2 0)) (.ref (d.2.2 0)) (i+1) (aG w (f7 p v1 v2 v3 v4 v5 v6 v7++([("one",f 0,.ref (d.1.2 0)),("two",f 1,.ref (d.2.2 0)),("same",h 0,.int (iv d.1.1 d.2.1:Nat) (h 1))]:List (Str×Nat×Yd))) (n+1+1+1)) d.1.1 d.2.1).tail)
  (gU (by intro id a e;cases e)) (Cz b c w d.1.1 d.2.1 (aG w (f7 p v1 v2 v3 v4 v5 v6 v7) n) u v i vs ws (pG p d n 0 0 0 0) o k) (fun _=>rfl)
  (fun g=>j (g 0)) (fun _ _=>rfl)
  (fun g f=>L2 b c w (pG p d (n+1+1) (g 0) (f 0) (f 1) 0) v1 v2 v3 v4 v5 v6 v7 (i+1) vs ws hx s m) (fun _ _ _=>rfl) fun g=>rfl
theorem L5 (b c:Bool) {d:jQ} (i:Nat) (u v:Yd) (n g h t3:Nat) (o1 o2 o3:Yd) (hx:cE d.1.1) (x:cE d.2.1) (q:aP d.2.1 d.1.1=false) (s:vs[i]? = some (.ref (d.1.2 0))) (o:ws[i]? = some (.ref (d.2.2 0))) :
  aL (B0 (W b c w)) 9 (iw w p) (iz w p v1 v2 v3 v4 v5 v6 v7 vs ws i ⟨u,v,some (g,h,t3,o1,o2,o3),n⟩++jR d) fun f=>(.error (iw w p),bH (iz w p v1 v2 v3 v4 v5 v6 v7 vs ws (i+1) (tw d ⟨u,v,some (g,h,t3,o1,o2,o3),n⟩ (tx (some (g,h,t3,o1,o2,o3)) f)))++bH (jR d),[]):=by
 rw [CD]
 have m:=fun t=>LJ b c w o1 o2 o3 d.1.1 d.2.1 v1 v2 v3 v4 v5 v6 v7 (i+1) vs ws (pG p d n t g h t3)
 rw [wK] at m
 exact lz (bG (W b c w)) (e:=0) (rest:=tc p) (Z0:=ba (p 2 0) (p 3 0)) (T:=(iz w p v1 v2 v3 v4 v5 v6 v7 vs ws i ⟨u,v,some (g,h,t3,o1,o2,o3),n⟩).tail++jR d)
  (o1:=fun f=>(wL w d.1.1 d.2.1 (aG w (nH p v1 v2 v3 v4 v5 v6 v7 (some (g,h,t3,o1,o2,o3))) n) u v i vs ws (pG p d n 0 0 0 0) f).tail) (V1:=fun f=>az [.ref (d.1.2 0),.ref (d.2.2 0)] 0)
  (o2:=fun f j=>(CB w o1 o2 o3 d.1.1 d.2.1 v1 v2 v3 v4 v5 v6 v7 (i+1) vs ws (pG p d n (f 0) g h t3) j).tail.dropLast) (V2:=fun _ _=>az [.ref (d.1.2 0),.ref (d.2.2 0)] 0)
  (o3:=fun f j k=>(nG (pG p d n (f 0) g h t3) vs ws (.ref (d.1.2 0)) (.ref (d.2.2 0)) (i+1) (aG w (f7 p v1 v2 v3 v4 v5 v6 v7++([("one",g,.ref (d.1.2 0)),("two",h,.ref (d.2.2 0)),("same",t3,.int (iv d.1.1 d.2.1:Nat) (k 1))]:List (Str×Nat×Yd))) n) d.1.1 d.2.1).tail)
  (gU (by intro id a e;cases e)) (Cz b c w d.1.1 d.2.1 (aG w (nH p v1 v2 v3 v4 v5 v6 v7 (some (g,h,t3,o1,o2,o3))) n) u v i vs ws (pG p d n 0 0 0 0) s o) (fun _=>rfl)
  (fun f=>m (f 0)) (fun _ _=>rfl)
  (fun f j=>L3 b c w (pG p d n (f 0) g h t3) v1 v2 v3 v4 v5 v6 v7 (i+1) vs ws o3 hx x q) (fun _ _ _=>rfl) fun f=>rfl
theorem L6 (b c:Bool) {d:jQ} {s:i8} {i:Nat} (hx:cE d.1.1) (g:cE d.2.1) (e:aP d.2.1 d.1.1=false) (f:vs[i]? = some (.ref (d.1.2 0))) (a:ws[i]? = some (.ref (d.2.2 0))) :
  aL (B0 (W b c w)) 9 (iw w p) (iz w p v1 v2 v3 v4 v5 v6 v7 vs ws i s++jR d) fun h=>(.error (iw w p),bH (iz w p v1 v2 v3 v4 v5 v6 v7 vs ws (i+1) (tw d s (tx s.k h)))++bH (jR d),[]):=by
 obtain ⟨u,v,k,n⟩:=s
 cases k with
 | none=>exact L4 w p v1 v2 v3 v4 v5 v6 v7 vs ws b c i u v n hx g e f a
 | some k=>
  obtain ⟨j,q,t3,o,o2,m⟩:=k
  exact L5 w p v1 v2 v3 v4 v5 v6 v7 vs ws b c i u v n j q t3 o o2 m hx g e f a
def lG (R:Yi) (g:Ye):List jQ:=(cC R g).zip ((cC R g).drop 1)
theorem CE:∀(R:Yi) (g:Ye),(be R g).map (·.1)=(b9 R g).map fun d=>d.2 0
 | [],_=>rfl
 | r::l,g=>by show ev g 2::(be l (od g)).map _=ev g 2::(b9 l (od g)).map _;rw [CE l]
theorem L7 {R:Yi} (g:Ye) (h:0<R.length):(cC R g).Perm (b9 R g):=by
 have p:=(nj R h).map fun i=>(b9 R g).getD i ([],id)
 have e:(List.range R.length).map (fun i=>(b9 R g).getD i ([],id))=b9 R g:=by
  refine List.ext_getElem (by simp [f5]) fun i b a => ?_
  simp [List.getD,a]
 rw [e] at p
 exact p
theorem L8 {R:Yi} {g:Nat→Nat} (h:0<R.length) (nd:((be R g).map (·.1)).Nodup):((cC R g).map fun d=>d.2 0).Nodup:=by
 rw [CE] at nd
 exact ((L7 g h).map _).nodup_iff.mpr nd
theorem L9 {R:Yi} {g:Nat→Nat} (h:0<R.length) (nd:((be R g).map (·.1)).Nodup) {k:Nat} {d:jQ} (e:(lG R g)[k]? = some d) :
  (cC R g)[k]? = some d.1∧(cC R g)[k+1]? = some d.2∧aP d.2.1 d.1.1=false∧d.1.2 0≠d.2.2 0:=by
 unfold lG at e
 rw [List.getElem?_zip_eq_some] at e
 obtain ⟨i,b⟩:=e
 rw [List.getElem?_drop,Nat.add_comm] at b
 obtain ⟨hk1,q1⟩:=List.getElem?_eq_some_iff.mp i
 obtain ⟨hk2,q2⟩:=List.getElem?_eq_some_iff.mp b
 refine ⟨i,b,?_,?_⟩
 ·have n:=AC R h
  have m:k+1<(perm R).length:=by rw [Bj h,←jK g h];exact hk2
  have:=(List.pairwise_iff_getElem.mp n) k (k+1) (by lia) m (Nat.lt_succ_self _)
  have q:∀j (c:j<(perm R).length) (a:j<(cC R g).length),((cC R g)[j]'a).1=R.getD ((perm R)[j]'c) []:=fun j c a=>by
   have z:=congrArg (fun l:Yi=>l[j]?) (Bk g h)
   simp only [List.getElem?_map,List.getElem?_eq_getElem a,Option.map_some] at z
   unfold io at z
   simp only [List.getElem?_map,List.getElem?_eq_getElem c,Option.map_some] at z
   exact Option.some.inj z
  rw [←q1,←q2,q k (by lia) hk1,q (k+1) m hk2]
  exact this
 ·have f:=L8 h nd
  have z:=(List.pairwise_iff_getElem.mp f) k (k+1) (by simpa using hk1) (by simpa using hk2) (Nat.lt_succ_self _)
  simp only [List.getElem_map] at z
  rw [←q1,←q2]
  exact z
def wM (a:Nat) (n:Nat) (s:i8):Yf:=[ba (p 2 0) (p 3 0),az [.ref (p 4 0),.ref (p 5 0)] 0,az [.ref a,s.v] 0,am (.ref (p 6 0)) (n+1),am .none n,ab vs (p 6 1),ab ws (p 7 1),aG w (nH p v1 v2 v3 v4 v5 v6 v7 s.k) s.n]
theorem Ma (b c:Bool) (s:i8) (a:Nat) (d:vs[ws.length]? = some (.ref a)):aL (B0 (W b c w)) 9 (iw w p) (iz w p v1 v2 v3 v4 v5 v6 v7 vs ws ws.length s) fun _=>(.ok .next,wM w p v1 v2 v3 v4 v5 v6 v7 vs ws a ws.length s,[]):=
 aL.lift (need:=[(p 1 0,ba (p 2 0) (p 3 0)),(p 2 0,az [.ref (p 4 0),.ref (p 5 0)] 0),(p 3 0,az [s.u,s.v] 0),(p 4 0,am (.ref (p 6 0)) ws.length),(p 5 0,am (.ref (p 7 0)) ws.length),(p 6 0,ab vs (p 6 1)),(p 7 0,ab ws (p 7 1))]) [(p 8 0,aG w (nH p v1 v2 v3 v4 v5 v6 v7 s.k) s.n)] (src:=[]) (k:=fun _=>.ok .next) (o:=fun _=>[ba (p 2 0) (p 3 0),az [.ref (p 4 0),.ref (p 5 0)] 0,az [.ref a,s.v] 0,am (.ref (p 6 0)) (ws.length+1),am .none ws.length,ab vs (p 6 1),ab ws (p 7 1)]) (ads:=fun _=>[])
  (L1 b c w s.u s.v ws.length vs ws a d (Nat.le_refl _) p) (fun _=>rfl) (fun _ h=>nomatch h) List.nodup_nil
end
end
section
def qG (p:af):af:=fun j i=>match j,i with | 9,_=>p 0 3 | 13,_=>p 0 4 | j,i=>p j i
def wN (p:af):i8:=⟨.none,.none,none,p 8 1⟩
def CF (d:jQ) (s:i8) (a:Ye):i8:=tw d s (tx s.k a)
def fG (R:Yi) (g:Ye) (p:af) (a:Ye):i8:=b5 CF (lG R g) (wN p) a
def p6 (R:Yi) (g:Ye):Nat:=match (cC R g)[R.length-1]? with
 | some d=>d.2 0
 | none=>0
def db (R:Yi) (g:Ye):Yb:=f8 (aT R g) (perm R)
def Mb (d:af→Code) (w:Yc) (f:Yh) (R:Yi) (g:Ye) (c a b:Yd):aH:=bA d f
 (fun p=>iz w (qG p) (.ref (p 8 3)) (.ref (p 8 5)) (.ref (p 8 7)) c a b (.ref (p 8 15)) (db R g) ((db R g).drop 1) 0 (wN p))
 (fun p e=>(.next,wM w (qG p) (.ref (p 8 3)) (.ref (p 8 5)) (.ref (p 8 7)) c a b (.ref (p 8 15)) (db R g) ((db R g).drop 1) (p6 R g) (R.length-1) (fG R g p e),[]))
def CG (w:Yc) (d:Yh) (R:Yi) (g:Ye) (c a b:Yd):aH:=Mb (fun p=>iw w (qG p)) w d R g c a b
theorem Mc {b c:Bool} {w:Yc} {m:Nat} {E:Yh} {R:Yi} {g:Nat→Nat} {u t o:Yd} (H:E.Nodup) (z:∀r∈R,cE r) (f:0<R.length) (N:9≤m):(CG w E R g u t o).SureF (B0 (W b c w)) m (be R g):=by
 refine (pe H (fun _ _=>rfl) fun p=>aL.nd fun nd => ?_:aH.SureF (B0 (W b c w)) 9 _ _).le N
 have ndS:((be R g).map (·.1)).Nodup:=List.Sublist.nodup (List.Sublist.map _ (List.sublist_append_right _ _)) nd
 have n:db R g=(cC R g).map f4:=(wg g f).symm
 have G:(db R g).length=R.length:=by rw [n,List.length_map,jK g f]
 have x:((db R g).drop 1).length=R.length-1:=by rw [List.length_drop,G]
 have gl:(lG R g).length=R.length-1:=by
  unfold lG
  rw [List.length_zip,List.length_drop,jK g f]
  lia
 have a:∀(k:Nat) (d:RD),(cC R g)[k]? = some d→(db R g)[k]? = some (.ref (d.2 0)):=fun k d e=>by rw [n,List.getElem?_map,e];rfl
 have j:(db R g)[((db R g).drop 1).length]? = some (.ref (p6 R g)):=by
  rw [x]
  have I:R.length-1<(cC R g).length:=by rw [jK g f];lia
  have e:=List.getElem?_eq_getElem I
  rw [a _ _ e]
  unfold p6
  rw [e]
 have L:=sH (bG (W b c w)) (m:=9) (code:=iw w (qG p)) (be R g) (fun i s=>iz w (qG p) (.ref (p 8 3)) (.ref (p 8 5)) (.ref (p 8 7)) u t o (.ref (p 8 15)) (db R g) ((db R g).drop 1) i s) (fun s=>wM w (qG p) (.ref (p 8 3)) (.ref (p 8 5)) (.ref (p 8 7)) u t o (.ref (p 8 15)) (db R g) ((db R g).drop 1) (p6 R g) ((db R g).drop 1).length s) CF jR nu
  (fun i d _=>(lG R g)[i]? = some d) (fun _ _=>True) ((db R g).drop 1).length (fun _ _ _ _=>rfl)
  (fun i d s Q P O=>by
   obtain ⟨B,A,K,J⟩:=L9 f ndS O
   have D:=pO f (List.mem_of_getElem? B)
   have C:=pO f (List.mem_of_getElem? A)
   refine ⟨fun q y => ?_,?_,fun _=>trivial,L6 w (qG p) (.ref (p 8 3)) (.ref (p 8 5)) (.ref (p 8 7)) u t o (.ref (p 8 15)) (db R g) ((db R g).drop 1) b c (z _ D.2) (z _ C.2) K (a _ _ B) ?_⟩
   ·rcases List.mem_cons.mp y with rfl | y
    ·exact D.1
    ·have:q=aE d.2.1 d.2.2:=by simpa using y
     rw [this];exact C.1
   ·show [d.1.2 0,d.2.2 0].Nodup
    rw [List.nodup_cons]
    exact ⟨fun h=>J (by simpa using h),by simp⟩
   ·rw [List.getElem?_drop,Nat.add_comm]
    exact a _ _ A)
  (fun s _=>Ma w (qG p) (.ref (p 8 3)) (.ref (p 8 5)) (.ref (p 8 7)) u t o (.ref (p 8 15)) (db R g) ((db R g).drop 1) b c s (p6 R g) j)
  (fun _ _=>rfl) (lG R g) 0 (wN p) (by rw [gl,x];lia) trivial (fun k d e _=>by rw [Nat.zero_add];exact e)
 refine aL.re (out:=_) L fun F=>⟨F,?_⟩
 rw [pL,x]
 rfl
end
theorem Md {R:Yi} {g:Nat→Nat} (h:0<R.length):(db R g).length=R.length:=by
 unfold db
 rw [←wg g h,List.length_map,jK g h]
section
def lH (w:Yc) (a c b:Yd) (R:bu) (p:af):Ya:=[(p 8 0,aG w [("script",p 8 2,.ref (p 16 0)),("rows",p 8 4,.ref (p 6 0)),("written",p 8 6,.ref (p 7 0)),("row",p 8 8,a),("parts",p 8 10,c),("path",p 8 12,b),("due",p 8 14,.ref (p 17 0))] (p 8 1)),(p 7 0,ab (aT (R.map (·.map ao)) (p 21)) (p 7 1))]
def CH (w:Yc) (a d b:Yd) (R:bu) (p:af) (c:Ye):Flow:=.next
def nI (w:Yc) (b d c:Yd) (R:bu) (p:af) (a:Ye):Yf:=[aG w (nH p (.ref (p 16 0)) (.ref (p 6 0)) (.ref (p 7 0)) b d c (.ref (p 17 0)) (fG (R.map (·.map ao)) (p 21) p a).k) (fG (R.map (·.map ao)) (p 21) p a).n,ab (aT (R.map (·.map ao)) (p 21)) (p 7 1)]
def CI (w:Yc) (a d b:Yd) (R:bu) (p:af) (c:Ye):Ya:=[]
def CJ (w:Yc) (a d b:Yd) (R:bu) (p:af) (c:Ye):Ya:=[]
theorem Me (b c:Bool) (w:Yc) (a e d:Yd) (R:bu) (p:af) (i:∀r∈R,b7 r) (q:6≤R.length) (j:R.length≤12):aI (B0 (W b c w)) 10 (execs [sS w 8] (bl w p)) (lH w a e d R p++be (R.map (·.map ao)) (p 21)) fun g=>(CH w a e d R p g,nI w a e d R p g++bH (be (R.map (·.map ao)) (p 21)),CI w a e d R p g++CJ w a e d R p g):=by
 have h:=mY (b:=b) (c:=c) (m:=9) (t:=nk [sS w 8] (bl w p)) (need:=lH w a e d R p) (val:=CH w a e d R p) (objs:=nI w a e d R p) (ads:=CI w a e d R p) (tail:=CJ w a e d R p) (enc:=cc) cG (orcs:=[lC [1] (R.map (·.map ao)) (p 21),lC [1] (R.map (·.map ao)) (p 21),c7 3 4 (fun _=>(db (R.map (·.map ao)) (p 21))) (some 1) none (fun _=>(db (R.map (·.map ao)) (p 21)).drop 1),CG w [10,8,9,6,7,2,5,0] (R.map (·.map ao)) (p 21) a e d]) (be (R.map (·.map ao)) (p 21)) (jr (we (by decide) (by rw [List.length_map];lia) (by rw [List.length_map];lia) (by decide)) (jr (we (by decide) (by rw [List.length_map];lia) (by rw [List.length_map];lia) (by decide)) (jr (aH.Sure.toF (o:=c7 3 4 (fun _=>(db (R.map (·.map ao)) (p 21))) (some 1) none (fun _=>(db (R.map (·.map ao)) (p 21)).drop 1)) (dB (vs:=fun _=>(db (R.map (·.map ao)) (p 21))) (by decide) (fun _=>by rw [Md (by rw [List.length_map];lia),List.length_map];lia) (fun _=>Bt _)) _) (jr (Mc (by decide) (wj i) (by rw [List.length_map];lia) (by decide)) pd)))) 79 4 [0,0,0,0,1,2,0,0,1,3,4,4,4,4,0,95,0,0,0,0,0,92,3,3,0,3,0,23,7,6,6,0,6,0,23,8,11,11,0,11,0,29,11,11,11,0,11,0,93,11,5] [0,1] none (fun n k f=>(f 3).2.2)
 rw [←cH] at h
 exact h
end
section
open SeqAt MeetsSeq3
structure bp (B:bf) (h0:Heap) (L0:List Addr) (T:Ya) (h:Heap):Prop where
 nd:(T.map (·.1)).Nodup
 own:∀p∈T,h.get? p.1=some p.2
 lo:∀p∈T,B.lo≤p.1
 inB:B.In h
 keep:∀b ob,h0.get? b=some ob→b∉L0→h.get? b=some ob
 size:h0.objs.size≤h.objs.size
 new:∀p∈T,p.1∈L0∨h0.objs.size≤p.1
theorem bp.sub {B:bf} {h0:Heap} {L0:List Addr} {T b:Ya} {h:Heap} (H:bp B h0 L0 T h) (c:∃l:Ya,l.Perm b∧l.Sublist T):bp B h0 L0 b h:=by
 obtain ⟨l,p,s⟩:=c
 have mem:∀q∈b,q∈T:=fun q a=>s.subset (p.mem_iff.mpr a)
 refine ⟨?_,fun q a=>H.own q (mem q a),fun q a=>H.lo q (mem q a),H.inB,H.keep,H.size,fun q a=>H.new q (mem q a)⟩
 exact (p.map _).nodup_iff.mp (List.Sublist.nodup (s.map _) H.nd)
structure bw {α : Type} (B:bf) (A:Around) (t:Sem α) (Q : α→Shared→Prop) (E:Yd→Shared→Prop) (s:Shared):Prop where
 go:wpAny B.M A t Q E s
section
variable {B:bf} {m:Nat} {α : Type} {A:Around} {h0 h:Heap} {L0:List Addr} {tk:Nat} {gs:Array GenState} {d:Drawn} {os:OsState} {E:Yd→Shared→Prop}
theorem bp.step (O:B.Ok) {t:Sem α} {e:Ya} {v:Ye→α} {o:Ye→Yf} {N:Ye→Ya} (P:aI B m t e fun f=>(v f,o f,N f)) (V:∀f,(o f).length=e.length) (F:Ya) (U:Lv m A) (H:bp B h0 L0 (e++F) h) {Q : α→Shared→Prop}
  (T:∀w u f,bp B h0 L0 ((e.map (·.1)).zip (o f)++N f++F) w→Q (v f) ⟨w,gs,d,u,os⟩):bw B A t Q E ⟨h,gs,d,tk,os⟩:=by
 have nd:=H.nd
 rw [List.map_append,List.nodup_append] at nd
 refine ⟨P.go A U h tk gs d os Q E nd.1 (fun p k=>⟨H.own p (List.mem_append_left _ k),H.lo p (List.mem_append_left _ k)⟩) H.inB fun w u f le G k j C=>T w u f ?_⟩
 have L:=jq (V f)
 have i:∀a∈e.map (·.1),B.lo≤a∧(a∈L0∨h0.objs.size≤a)∧a<h.objs.size:=fun a j=>by
  obtain ⟨p,k,rfl⟩:=List.mem_map.mp j
  exact ⟨H.lo p (List.mem_append_left _ k),H.new p (List.mem_append_left _ k),iq (H.own p (List.mem_append_left _ k))⟩
 have R:∀q∈(e.map (·.1)).zip (o f),q.1∈e.map (·.1):=fun q c=>by rw [←L];exact List.mem_map_of_mem c
 have D:∀q∈F,q.1<h.objs.size:=fun q c=>iq (H.own q (List.mem_append_right _ c))
 refine ⟨?_,fun q c => ?_,fun q c => ?_,mR O H.inB le (fun a j=>(i a j).1) G,fun b J q K => ?_,Nat.le_trans H.size le,fun q c => ?_⟩
 ·rw [List.map_append,List.map_append,L]
  refine List.nodup_append.mpr ⟨List.nodup_append.mpr ⟨nd.1,C,fun a g b x => ?_⟩,nd.2.1,fun a g b x => ?_⟩
  ·obtain ⟨z,n,rfl⟩:=List.mem_map.mp x
   exact Nat.ne_of_lt (Nat.lt_of_lt_of_le (i a g).2.2 (j z n).2)
  ·rcases List.mem_append.mp g with g | g
   ·exact nd.2.2 a g b x
   ·obtain ⟨z,n,rfl⟩:=List.mem_map.mp g
    obtain ⟨y,X,rfl⟩:=List.mem_map.mp x
    exact Nat.ne_of_gt (Nat.lt_of_lt_of_le (D y X) (j z n).2)
 ·rcases List.mem_append.mp c with c | c
  ·rcases List.mem_append.mp c with c | c
   ·exact k q c
   ·exact (j q c).1
  ·exact G q.1 q.2 (H.own q (List.mem_append_right _ c)) fun I=>nd.2.2 _ I _ (List.mem_map_of_mem c) rfl
 ·rcases List.mem_append.mp c with c | c
  ·rcases List.mem_append.mp c with c | c
   ·exact (i _ (R q c)).1
   ·exact Nat.le_trans H.inB.2 (j q c).2
  ·exact H.lo q (List.mem_append_right _ c)
 ·have S:=H.keep b J q K
  refine G b J S fun I => ?_
  rcases (i b I).2.1 with g | g
  ·exact K g
  ·exact absurd (iq q) (Nat.not_lt.mpr g)
 ·rcases List.mem_append.mp c with c | c
  ·rcases List.mem_append.mp c with c | c
   ·exact (i _ (R q c)).2.1
   ·exact .inr (Nat.le_trans H.size (j q c).2)
  ·exact H.new q (List.mem_append_right _ c)
theorem bp.stepS (O:B.Ok) {t:Sem α} {a S:Ya} {v:Ye→α} {o:Ye→Yf} {N:Ye→Ya} (P:aI B m t (a++S) fun b=>(v b,o b++bH S,N b)) (g:∀b,(o b).length=a.length) (F:Ya) (j:Lv m A) (H:bp B h0 L0 (a++S++F) h) {Q : α→Shared→Prop}
  (i:∀e c b,bp B h0 L0 ((a.map (·.1)).zip (o b)++S++N b++F) e→Q (v b) ⟨e,gs,d,c,os⟩):bw B A t Q E ⟨h,gs,d,tk,os⟩:=
 bp.step O P (fun b=>by rw [List.length_append,List.length_append,g,sG]) F j H fun e c b f=>i e c b (by rw [vd (g b)] at f;exact f)
theorem bw.cons {s:Stmt} {l:List Stmt} {a:Env} {Q:Flow→Shared→Prop} {st:Shared} (h:bw B A (PySem.exec s a) (fun f b=>match f with | .next=>bw B A (execs l a) Q E b | f=>Q f b) E st):bw B A (execs (s::l) a) Q E st:=
 ⟨wpAny_execs_cons (wpAny_mono h.go (fun f b q=>by cases f <;> first | exact q.go | exact q) fun _ _ q=>q)⟩
theorem bp.stmt (O:B.Ok) {s:Stmt} {l:List Stmt} {c:Env} {a:Ya} {o:Ye→Yf} {N:Ye→Ya} (P:aI B m (PySem.exec s c) a fun b=>(Flow.next,o b,N b)) (j:∀b,(o b).length=a.length) (F:Ya) (i:Lv m A) (H:bp B h0 L0 (a++F) h) {Q:Flow→Shared→Prop}
  (g:∀f e b,bp B h0 L0 ((a.map (·.1)).zip (o b)++N b++F) f→bw B A (execs l c) Q E ⟨f,gs,d,e,os⟩):bw B A (execs (s::l) c) Q E ⟨h,gs,d,tk,os⟩:=
 bw.cons (bp.step O P j F i H g)
theorem bp.stmtS (O:B.Ok) {s:Stmt} {l:List Stmt} {b:Env} {a S:Ya} {o:Ye→Yf} {N:Ye→Ya} (P:aI B m (PySem.exec s b) (a++S) fun ax=>(Flow.next,o ax++bH S,N ax)) (i:∀ax,(o ax).length=a.length) (F:Ya) (g:Lv m A) (H:bp B h0 L0 (a++S++F) h) {Q:Flow→Shared→Prop}
  (f:∀e c ax,bp B h0 L0 ((a.map (·.1)).zip (o ax)++S++N ax++F) e→bw B A (execs l b) Q E ⟨e,gs,d,c,os⟩):bw B A (execs (s::l) b) Q E ⟨h,gs,d,tk,os⟩:=
 bw.cons (bp.stepS O P i F g H f)
theorem bw.ifNe {l r:Expr} {b o:List Stmt} {P j:Pos} {a:Env} {Q:Flow→Shared→Prop} {st:Shared} (k:behindInMarks .NotEq r=false)
  (h:bw B A (eval l a) (fun v f=>bw B A (eval r a) (fun u g=>bw B A (compareOp .NotEq v u) (fun c s3=>bw B A (truthy c) (fun t e=>t=false∧bw B A (execs o a) Q E e) E s3) E g) E f) E st):bw B A (PySem.exec (.If (.Compare l [.NotEq] [r] P) b o j) a) Q E st:=by
 refine ⟨wpAny_If (wpAny_isTrue_Compare1 (wpAny_mono h.go (fun v f q1=>wpAny_mono q1.go (fun u g q2=>wpAny_mono q2.go (fun c s3 q3=>wpAny_mono q3.go (fun t e i => ?_) fun _ _ q=>q) fun _ _ q=>q) fun _ _ q=>q) fun _ _ q=>q) k)⟩
 obtain ⟨rfl,q⟩:=i
 exact q.go
end
section
variable {B:bf} {A:Around} {E:Yd→Shared→Prop} {s:Shared} {Q:Bool→Shared→Prop}
theorem bw.neLists {a b:Addr} {e f:Yb} {n t:Nat} {g:Yg} (o:A.units<cLine) (p:s.heap.get? a=some (ab e n)) (j:s.heap.get? b=some (ab f t)) (i:StrsAre e g) (k:StrsAre f g) (h:Q false s) :
  bw B A (compareOp .NotEq (.ref a) (.ref b)) (fun c s3=>bw B A (truthy c) Q E s3) E s:=by
 refine ⟨wpAny_mono (vS (B:=B) (E:=E) o p j i k h) (fun c s3 q=>⟨q⟩) fun _ _ q=>q⟩
theorem bw.neRows {a b:Addr} {R:Yi} {f g:Yb} {n H:Nat} (X:A.units+10<cLine) (U:s.heap.get? a=some (ab f n)) (O:s.heap.get? b=some (ab g H)) (lv:f.length=R.length) (T:g.length=R.length)
  (z:∀(j:Nat) (r:Yg),R[j]? = some r→∃x y o p k I,f[j]? = some (.ref x)∧g[j]? = some (.ref y)∧x≠y∧s.heap.get? x=some (ab o k)∧s.heap.get? y=some (ab p I)∧StrsAre o r∧StrsAre p r) (h:Q false s) :
  bw B A (compareOp .NotEq (.ref a) (.ref b)) (fun c s3=>bw B A (truthy c) Q E s3) E s:=by
 have u:A.units<cLine:=by lia
 have q:=RcNeAt.lists (A:=A) (s:=s) (l:=a) (b:=b) (items:=f.toArray) (items2:=g.toArray) (e:=fun _=>true) ⟨_,U,rfl,n,rfl⟩ ⟨_,O,rfl,H,rfl⟩ (by rw [List.size_toArray,List.size_toArray,lv,T]) u fun j t F=>by
  rw [List.size_toArray] at t F
  have L:j<R.length:=by rw [←lv];exact t
  obtain ⟨x,y,o,p,k,I,P,K,N,V,S,G,J⟩:=z j R[j] (List.getElem?_eq_getElem L)
  have w:f.toArray[j] = .ref x:=by rw [List.getElem_toArray];exact Option.some.inj ((List.getElem?_eq_getElem t).symm.trans P)
  have D:g.toArray[j] = .ref y:=by rw [List.getElem_toArray];exact Option.some.inj ((List.getElem?_eq_getElem F).symm.trans K)
  rw [w,D]
  refine EqAt.of_refs N ?_
  have q:=RcAt.lists (A:=A.in1) (s:=s) (l:=x) (b:=y) (e:=fun i=>R[j][i]? == R[j][i]?) ⟨_,V,rfl,_,rfl⟩ ⟨_,S,rfl,_,rfl⟩ (by rw [List.size_toArray,List.size_toArray,ig G,ig J]) (by show A.units+1<cLine;lia) (uU G J)
  have C:(List.range o.toArray.size).all (fun i=>R[j][i]? == R[j][i]?)=true:=by
   rw [List.all_eq_true]
   intro i _
   exact beq_self_eq_true _
  rw [C] at q
  exact q
 have C:(List.range f.toArray.size).all (fun _=>true)=true:=by simp
 rw [C] at q
 refine ⟨?_⟩
 exact q B.prog B.w E _ ⟨wpAny_truthy_bool h⟩
end
end
theorem CK (a:Addr×Obj) [BEq (Addr×Obj)] (T:Ya):T.count a=(T.map fun x=>if x==a then 1 else 0).sum:=by
 induction T with
 | nil=>rfl
 | cons x l d=>rw [List.count_cons,d,List.map_cons,List.sum_cons,Nat.add_comm]
theorem gf {T d:Ya} (h:∀f:Addr×Obj→Nat,(T.map f).sum=(d.map f).sum):T.Perm d:=by
 classical
 refine List.perm_iff_count.mpr fun a => ?_
 rw [CK,CK]
 exact h _
theorem bp.perm {B:bf} {f:Heap} {d:List Addr} {T e:Ya} {h:Heap} (H:bp B f d T h) (p:T.Perm e):bp B f d e h:=H.sub ⟨T,p,List.Sublist.refl _⟩
theorem bp.left {B:bf} {e:Heap} {d:List Addr} {T X:Ya} {h:Heap} (H:bp B e d (T++X) h):bp B e d T h:=H.sub ⟨T,List.Perm.refl _,List.sublist_append_left _ _⟩
section
variable (a b c s r g wl x y z hh due:Addr×Obj) (S SR SW Sx F:Ya)
theorem Mf:([a,b,c,s]++([r]++S)++[]).Perm ([a,b,c,r]++S++[s]):=gf fun f=>by simp only [List.map_append,List.map_cons,List.map_nil,List.sum_append,List.sum_cons,List.sum_nil];lia
theorem Mg:([a,b,c,r]++SR++([wl]++SW)++[s]).Perm ([a,b,c]++([r,wl,s]++SR++SW)):=gf fun f=>by simp only [List.map_append,List.map_cons,List.map_nil,List.sum_append,List.sum_cons,List.sum_nil];lia
theorem Mh:([a,b,c]++([g]++[])++([r,wl,s]++SR++SW)).Perm ([a,b,c,g,r,wl]++(SR++([s]++SW))):=gf fun f=>by simp only [List.map_append,List.map_cons,List.map_nil,List.sum_append,List.sum_cons,List.sum_nil];lia
theorem Mi:([a,b,c,g,r,wl]++([]++[])++(SR++([s]++SW))).Perm ([a,b,c,g,r,wl]++SR++([s]++SW)):=gf fun f=>by simp only [List.map_append,List.map_cons,List.map_nil,List.sum_append,List.sum_cons,List.sum_nil];lia
theorem Mj:([a,b,c,g,r,wl]++SR++([x]++Sx)++([s]++SW)).Perm ([a,b]++([c,g,r,wl,s]++SR++SW)++([x]++Sx)):=gf fun f=>by simp only [List.map_append,List.map_cons,List.map_nil,List.sum_append,List.sum_cons,List.sum_nil];lia
theorem Mk:([a,b]++([hh]++[])++([c,g,r,wl,s]++SR++SW)).Perm ([a,b,hh,r,wl]++(SR++SW)++[c,g,s]):=gf fun f=>by simp only [List.map_append,List.map_cons,List.map_nil,List.sum_append,List.sum_cons,List.sum_nil];lia
theorem Ml:([a,b,hh,r,wl]++(SR++SW)++([]++[])++[c,g,s]).Perm ([a,wl]++SW++([b,hh,r,s,c,g]++SR)):=gf fun f=>by simp only [List.map_append,List.map_cons,List.map_nil,List.sum_append,List.sum_cons,List.sum_nil];lia
theorem Mm:([a,wl]++SW++([due]++[])++([b,hh,r,s,c,g]++SR)).Perm ([a,b,hh,due,r]++([wl,s]++SW)++([c,g]++SR)):=gf fun f=>by simp only [List.map_append,List.map_cons,List.map_nil,List.sum_append,List.sum_cons,List.sum_nil];lia
theorem Mo:([a,b,hh,due,r]++([]++[])++F).Perm ([a,b,hh,due,r]++F):=gf fun f=>by simp only [List.map_append,List.map_cons,List.map_nil,List.sum_append,List.sum_cons,List.sum_nil];lia
theorem Mp:([a,b,hh,due,r]++([x]++[])++F).Perm ([a,b,hh,due,r]++([x]++F)):=gf fun f=>by simp only [List.map_append,List.map_cons,List.map_nil,List.sum_append,List.sum_cons,List.sum_nil];lia
theorem Mq:([a,b,hh,due,r]++([y]++[])++([x]++F)).Perm ([a,b,hh,due,r]++F++[x,y]):=gf fun f=>by simp only [List.map_append,List.map_cons,List.map_nil,List.sum_append,List.sum_cons,List.sum_nil];lia
theorem Ms:([a,b,hh,due,r]++([z]++[])++([wl,s]++SW)).Perm ([a,wl]++SW++[s]++[b,hh,due,r,z]):=gf fun f=>by simp only [List.map_append,List.map_cons,List.map_nil,List.sum_append,List.sum_cons,List.sum_nil];lia
theorem Mt:([a,wl]++SW++([]++[])++[s]).Perm ([s]++([a,wl]++SW)):=gf fun f=>by simp only [List.map_append,List.map_cons,List.map_nil,List.sum_append,List.sum_cons,List.sum_nil];lia
end
theorem bw.ifOr3 {B:bf} {A:Around} {E:Yd→Shared→Prop} {e G j i f:Expr} {b o:List Stmt} {T J D X:Pos} {d:Env} {Q:Flow→Shared→Prop} {st:Shared} (V:behindInMarks .NotEq j=false) (R:behindInMarks .NotEq f=false)
  (h:bw B A (PySem.isTrue e d (eval e d)) (fun t p=>t=false∧bw B A (eval G d) (fun v K=>bw B A (eval j d) (fun u N=>bw B A (compareOp .NotEq v u) (fun c s3=>bw B A (truthy c) (fun t C=>t=false∧
   bw B A (eval i d) (fun v L=>bw B A (eval f d) (fun u H=>bw B A (compareOp .NotEq v u) (fun c I=>bw B A (truthy c) (fun t n=>t=false∧bw B A (execs o d) Q E n) E I) E H) E L) E C) E s3) E N) E K) E p) E st) :
  bw B A (PySem.exec (.If (.BoolOp .Or [e,.Compare G [.NotEq] [j] J,.Compare i [.NotEq] [f] D] T) b o X) d) Q E st:=by
 refine ⟨wpAny_If (wpAny_isTrue_BoolOp (wpAny_allTrue_Or_cons (wpAny_mono h.go (fun t p m => ?_) fun _ _ q=>q)))⟩
 obtain ⟨rfl,m⟩:=m
 show wpAny _ A (allTrue .Or [.Compare G [.NotEq] [j] J,.Compare i [.NotEq] [f] D] d) _ E p
 refine wpAny_allTrue_Or_cons (wpAny_isTrue_Compare1 (wpAny_mono m.go (fun v K q1=>wpAny_mono q1.go (fun u N q2=>wpAny_mono q2.go (fun c s3 q3=>wpAny_mono q3.go (fun t C w => ?_) fun _ _ q=>q) fun _ _ q=>q) fun _ _ q=>q) fun _ _ q=>q) V)
 obtain ⟨rfl,w⟩:=w
 show wpAny _ A (allTrue .Or [.Compare i [.NotEq] [f] D] d) _ E C
 refine wpAny_allTrue_Or_cons (wpAny_isTrue_Compare1 (wpAny_mono w.go (fun v L P=>wpAny_mono P.go (fun u H O=>wpAny_mono O.go (fun c I U=>wpAny_mono U.go (fun t n k => ?_) fun _ _ q=>q) fun _ _ q=>q) fun _ _ q=>q) fun _ _ q=>q) R)
 obtain ⟨rfl,k⟩:=k
 show wpAny _ A (allTrue .Or [] d) _ E n
 refine wpAny_allTrue_Or_nil ?_
 exact k.go
section
open SeqAt MeetsSeq3
theorem bp.go {B:bf} {h0:Heap} {L0:List Addr} {T a f e:Ya} {h:Heap} (H:bp B h0 L0 T h) (i:T=a) (p:a.Perm f) (g:f=e):bp B h0 L0 e h:=by
 subst i;subst g;exact H.perm p
def gl (l:Ya) (i:Nat):Addr×Obj:=l.getD i (0,de)
def p8 (p:af) (a:Ye):af:=fun j i=>match j,i with | 8,1=>p 8 1+1 | 8,4=>a 1 | 6,0=>a 0 | 6,1=>a 2 | 20,i=>a (i+3) | j,i=>p j i
def ty (p:af) (a:Ye):af:=fun j i=>match j,i with | 8,1=>p 8 1+1 | 8,6=>a 1 | 7,0=>a 0 | 7,1=>a 2 | 21,i=>a (i+3) | j,i=>p j i
def qa (p:af) (a:Ye):af:=fun j i=>match j,i with | 15,i=>a i | j,i=>p j i
def tz (p:af) (a:Ye):af:=fun j i=>match j,i with | 10,0=>a 0 | 10,1=>0 | j,i=>p j i
def wP (R:bu) (p:af) (a:Ye):af:=fun j i=>match j,i with | 8,1=>(fD R (p 20) (p 21) p a).n | 8,8=>kT 0 (fD R (p 20) (p 21) p a).k | 8,10=>kT 1 (fD R (p 20) (p 21) p a).k | 8,12=>kT 2 (fD R (p 20) (p 21) p a).k | 10,1=>(fD R (p 20) (p 21) p a).hn | j,i=>p j i
def nJ (p:af) (ax:Ye):af:=fun j i=>match j,i with | 8,1=>p 8 1+1 | 8,14=>ax 1 | 17,0=>ax 0 | 17,1=>ax 2 | j,i=>p j i
def cw (p:af) (a:Ye):af:=fun j i=>match j,i with | 10,1=>a 0 | 17,1=>a 2 | j,i=>p j i
def cQ (p:af) (a:Ye):af:=fun j i=>match j,i with | 10,1=>a 1 | j,i=>p j i
def i9 (B:bf) (h0:Heap) (L0:List Addr) (s:Addr×Obj) (gs:Array GenState) (d:Drawn) (os:OsState) (Q:Flow→Shared→Prop):Prop:=∀e a X,bp B h0 L0 ([s]++X) e→Q (.ret (.bool true)) ⟨e,gs,d,a,os⟩
section
variable {b c:Bool} {w:Yc} {A:Around} {h0 h:Heap} {L0:List Addr} {tk:Nat} {gs:Array GenState} {d:Drawn} {os:OsState} {E:Yd→Shared→Prop} {Q:Flow→Shared→Prop} {s:Addr×Obj}
theorem Mu (p:af) (g:Lv 10 A) (X:Ya) (e:i9 (B0 (W b c w)) h0 L0 s gs d os Q) (H:bp (B0 (W b c w)) h0 L0 ([s]++X) h):bw (B0 (W b c w)) A (execs [sS w 9] (bl w p)) Q E ⟨h,gs,d,tk,os⟩:=
 bp.step (bG (W b c w)) (Lm b c w p) (fun j=>by kernel_rfl) ([s]++X) (g.le (by decide)) H fun f a j i=>e f a X (i.go (by kernel_rfl) (List.Perm.refl ([s]++X)) (by kernel_rfl))
theorem Mv (a f e:Yd) (R:bu) (p:af) (m:∀r∈R,b7 r) (q:6≤R.length) (i:R.length≤12) (j:Lv 10 A) (k:i9 (B0 (W b c w)) h0 L0 s gs d os Q)
  (H:bp (B0 (W b c w)) h0 L0 (lH w a f e R p++be (R.map (·.map ao)) (p 21)++[s]) h):bw (B0 (W b c w)) A (execs [sS w 8,sS w 9] (bl w p)) Q E ⟨h,gs,d,tk,os⟩:=
 bp.stmtS (bG (W b c w)) (Me b c w a f e R p m q i).exec (fun g=>by kernel_rfl) [s] j H fun t n g o=>Mu p j ([gl (((lH w a f e R p).map (·.1)).zip (nI w a f e R p g)) 0,gl (((lH w a f e R p).map (·.1)).zip (nI w a f e R p g)) 1]++be (R.map (·.map ao)) (p 21)) k
  (o.go (by kernel_rfl) (Mt (gl (((lH w a f e R p).map (·.1)).zip (nI w a f e R p g)) 0) s (gl (((lH w a f e R p).map (·.1)).zip (nI w a f e R p g)) 1) (be (R.map (·.map ao)) (p 21))) (by kernel_rfl))
end
end
section
open SeqAt MeetsSeq3
theorem wQ {A:Around} (a:Lv 10 A):A.units+10<cLine:=by
 have:=a.2.2
 have e:cLine=9900:=rfl
 lia
structure F7 (n:Nat) (L D:Yb) (x:Str) (t1 t2:Nat) (due:Yg):Prop where
 h0:0<L.length
 hv:L.length≤90
 hs:bk L
 hx:dP L = .str x t1
 hd:D[(0:Int).toNat]? = some (.str x t2)
 dl:D.length≤500
 len:∀t,(cL L "/zz" t).length=n
 st:∀t,bk (cL L "/zz" t)
 hp:∀t,Hp (cL L "/zz" t)
 pv:∀t,StrsAre (fS n (cL L "/zz" t)) (due.drop 1++[("/zz" : Str)])
 pr:∀t,fU n (cL L "/zz" t)=[]
 dv:∀t,StrsAre (D.drop 1++[.str "/zz" t]) (due.drop 1++[("/zz" : Str)])
section
def e7 (w:Yc) (i:Nat):Expr:=cY (c3 (bN (sS w 7))) i
theorem Mw (w:Yc):sS w 7 = .If (.BoolOp .Or [e7 w 0,.Compare (d3 (e7 w 1)) [.NotEq] [dd (e7 w 1)] (na (e7 w 1)),.Compare (d3 (e7 w 2)) [.NotEq] [dd (e7 w 2)] (na (e7 w 2))] (vm (bN (sS w 7)))) (pp (sS w 7)) [] (pq (sS w 7)):=by kernel_rfl
theorem Mx (w:Yc):behindInMarks .NotEq (dd (e7 w 1))=false:=by kernel_rfl
theorem My (w:Yc):behindInMarks .NotEq (dd (e7 w 2))=false:=by kernel_rfl
section
variable {b c:Bool} {w:Yc} {A:Around} {h0 h:Heap} {L0:List Addr} {tk:Nat} {gs:Array GenState} {d:Drawn} {os:OsState} {E:Yd→Shared→Prop} {Q:Flow→Shared→Prop} {s:Addr×Obj}
theorem Mz (i k j:Yd) (L D:Yb) (x:Str) (G P:Nat) (q:Yg) (R:bu) (p:af) (f:F7 R.length L D x G P q) (hr:∀r∈R,b7 r) (S:6≤R.length) (t:R.length≤12) (o:Lv 10 A) (hQ:i9 (B0 (W b c w)) h0 L0 s gs d os Q)
  (H:bp (B0 (W b c w)) h0 L0 (lE w i k j L D x G P R p++([(p 7 0,ab (aT (R.map (·.map ao)) (p 21)) (p 7 1)),s]++be (R.map (·.map ao)) (p 21))) h):bw (B0 (W b c w)) A (execs [sS w 7,sS w 8,sS w 9] (bl w p)) Q E ⟨h,gs,d,tk,os⟩:=by
 refine bw.cons ?_
 rw [Mw]
 refine bw.ifOr3 (Mx w) (My w) ?_
 refine bp.step (bG (W b c w)) (Lh b c w i k j L D x G P R p f.h0 f.hv f.hs f.hx f.hd) (fun ax=>by kernel_rfl) _ (o.le (by decide)) H fun h1 tk1 e U=>⟨rfl,?_⟩
 generalize hF:([(p 7 0,ab (aT (R.map (·.map ao)) (p 21)) (p 7 1)),s]++be (R.map (·.map ao)) (p 21))=F at U
 obtain ⟨N1,hN1⟩:∃N,N=ts w i k j (cL L "/zz" (e 1)) D R (cw p e):=⟨_,rfl⟩
 have C:bp (B0 (W b c w)) h0 L0 (ts w i k j (cL L "/zz" (e 1)) D R (cw p e)++F) h1:=U.go (by kernel_rfl) (List.Perm.refl (ts w i k j (cL L "/zz" (e 1)) D R (cw p e)++F)) rfl
 refine bp.step (bG (W b c w)) (Li b c w i k j (cL L "/zz" (e 1)) D R (cw p e) (f.len _) (by rw [f.len];lia) (f.st _) (f.hp _) S) (fun ax=>by kernel_rfl) F (o.le (by decide)) C fun h2 tk2 g H2 => ?_
 obtain ⟨M,Y⟩:∃M,M=fU (aT R (p 20)).length (cL L "/zz" (e 1)):=⟨_,rfl⟩
 have y:M=[]:=by rw [Y,ly,f.pr]
 obtain ⟨Z,V⟩:∃Z,Z=fS (aT R (p 20)).length (cL L "/zz" (e 1)):=⟨_,rfl⟩
 have I:StrsAre Z (q.drop 1++[("/zz" : Str)]):=by rw [V,ly];exact f.pv _
 have z:bp (B0 (W b c w)) h0 L0 (lF w i k j M D R (cQ (cw p e) g)++([(g 0,ab Z (g 2))]++F)) h2:=by
  subst Y;subst V
  exact H2.go (by kernel_rfl) (Mp (gl (lF w i k j (fU (aT R (p 20)).length (cL L "/zz" (e 1))) D R (cQ (cw p e) g)) 0) (gl (lF w i k j (fU (aT R (p 20)).length (cL L "/zz" (e 1))) D R (cQ (cw p e) g)) 1) (gl (lF w i k j (fU (aT R (p 20)).length (cL L "/zz" (e 1))) D R (cQ (cw p e) g)) 4) (g 0,ab (fS (aT R (p 20)).length (cL L "/zz" (e 1))) (g 2)) (gl (lF w i k j (fU (aT R (p 20)).length (cL L "/zz" (e 1))) D R (cQ (cw p e) g)) 2) (gl (lF w i k j (fU (aT R (p 20)).length (cL L "/zz" (e 1))) D R (cQ (cw p e) g)) 3) F) (by kernel_rfl)
 refine bp.step (bG (W b c w)) (Lj b c w i k j M D R (cQ (cw p e) g) f.dl) (fun ax=>by kernel_rfl) _ (o.le (by decide)) z fun J tk3 m K => ?_
 have gx:J.get? (g 0)=some (ab Z (g 2)):=K.own _ (List.mem_append_right _ (.head _))
 have gy:J.get? (m 0)=some (ab (D.drop 1++[.str "/zz" (m 1)]) 0):=K.own _ (List.mem_append_left _ (List.mem_append_right _ (.head _)))
 refine bw.neLists (a:=g 0) (b:=m 0) (Nat.lt_of_le_of_lt (Nat.le_add_right _ _) (wQ o)) gx gy I (f.dv _) ⟨rfl,?_⟩
 have B:bp (B0 (W b c w)) h0 L0 ((dG w i k j M D R (cQ (cw p e) g))++F) J:=bp.left (X:=[(g 0,ab Z (g 2)),(m 0,ab (D.drop 1++[.str "/zz" (m 1)]) 0)]) (K.go (by kernel_rfl) (Mq (gl (dG w i k j M D R (cQ (cw p e) g)) 0) (gl (dG w i k j M D R (cQ (cw p e) g)) 1) (gl (dG w i k j M D R (cQ (cw p e) g)) 4) (g 0,ab Z (g 2)) (m 0,ab (D.drop 1++[.str "/zz" (m 1)]) 0) (gl (dG w i k j M D R (cQ (cw p e) g)) 2) (gl (dG w i k j M D R (cQ (cw p e) g)) 3) F) (by kernel_rfl))
 refine bp.step (bG (W b c w)) (Lk b c w i k j M D R (cQ (cw p e) g)) (fun ax=>by kernel_rfl) _ (o.le (by decide)) B fun h4 tk4 ax4 H4 => ?_
 have u:bp (B0 (W b c w)) h0 L0 ((Cp w i k j M D R (cQ (cw p e) g))++F) h4:=H4.go (by kernel_rfl) (Mo (gl (dG w i k j M D R (cQ (cw p e) g)) 0) (gl (dG w i k j M D R (cQ (cw p e) g)) 1) (gl (dG w i k j M D R (cQ (cw p e) g)) 4) (gl (dG w i k j M D R (cQ (cw p e) g)) 2) (gl (dG w i k j M D R (cQ (cw p e) g)) 3) F) (by kernel_rfl)
 refine bp.step (bG (W b c w)) (Ll b c w i k j M D R (cQ (cw p e) g)) (fun ax=>by kernel_rfl) _ (o.le (by decide)) u fun T tk5 n O => ?_
 subst y
 have ga:T.get? (p 10 0)=some (ab [] (g 1)):=O.own _ (List.mem_append_left _ (List.mem_append_left _ (.tail _ (.tail _ (.head _)))))
 have gb:T.get? (n 0)=some (ab [] 0):=O.own _ (List.mem_append_left _ (List.mem_append_right _ (.head _)))
 refine bw.neLists (a:=p 10 0) (b:=n 0) (Nat.lt_of_le_of_lt (Nat.le_add_right _ _) (wQ o)) ga gb .nil .nil ⟨rfl,?_⟩
 refine ⟨wpAny_execs_nil ?_⟩
 show bw (B0 (W b c w)) A (execs [sS w 8,sS w 9] (bl w p)) Q E _
 subst hF
 exact Mv i k j R p hr S t o hQ (bp.left (X:=[(gl (dG w i k j [] D R (cQ (cw p e) g)) 1),(gl (dG w i k j [] D R (cQ (cw p e) g)) 2),(gl (dG w i k j [] D R (cQ (cw p e) g)) 3),(gl (dG w i k j [] D R (cQ (cw p e) g)) 4),(n 0,ab [] 0)]) (O.go (by kernel_rfl) (Ms (gl (dG w i k j [] D R (cQ (cw p e) g)) 0) (gl (dG w i k j [] D R (cQ (cw p e) g)) 1) s (gl (dG w i k j [] D R (cQ (cw p e) g)) 4) (p 7 0,ab (aT (R.map (·.map ao)) (p 21)) (p 7 1)) (n 0,ab [] 0) (gl (dG w i k j [] D R (cQ (cw p e) g)) 2) (gl (dG w i k j [] D R (cQ (cw p e) g)) 3) (be (R.map (·.map ao)) (p 21))) (by kernel_rfl)))
end
end
end
section
open SeqAt MeetsSeq3
theorem CM:∀{vs:Yb},bk vs→StrsAre vs (vs.map sv)
 | [],_=>.nil
 | v::r,h=>by
  obtain ⟨y,t,rfl⟩:=h v (.head _)
  exact .cons _ _ (CM fun u a=>h u (.tail _ a))
theorem CN:∀{vs b:Yb} {c a:Yg},StrsAre vs c→StrsAre b a→StrsAre (vs++b) (c++a)
 | _,_,_,_,.nil,h=>h
 | _,_,_,_,.cons _ _ h,k=>.cons _ _ (CN h k)
theorem MA {R:bu} {L:Yb} {g ax:Nat→Nat} (j:∀r∈R,b7 r) (C:6≤R.length) (w:R.length≤12) (o:Hp L) (i:bk L) (h:L.length=R.length) (z:(L.map sv).Perm ((R.map (·.map ao)).map aU)) :
  ∃x m n,F7 R.length L (c2 gd (cC (R.map (·.map ao)) g) ax) x m n ((io (R.map (·.map ao))).map aU):=by
 have s:=wj j
 have A:(R.map (·.map ao)).length=R.length:=List.length_map ..
 have f:0<(R.map (·.map ao)).length:=by lia
 have k:L.length≤90:=by lia
 have P:=HV _ f
 have a:=fun t=>HO o i k z (fun e=>by rw [List.map_eq_nil_iff] at e;rw [e] at f;exact absurd f (by decide)) (HW _ f s) (P.map aU) (y:="/zz") (fun x hx=>by
  obtain ⟨r,j,rfl⟩:=List.mem_map.mp hx
  exact HU (s r j)) t
 have b:StrsAre (c2 gd (cC (R.map (·.map ao)) g) ax) ((io (R.map (·.map ao))).map aU):=by
  have q:=Bl (cC (R.map (·.map ao)) g) ax
  have e:(cC (R.map (·.map ao)) g).map (fun d=>aU d.1)=(io (R.map (·.map ao))).map aU:=by
   rw [←Bk g f,List.map_map];rfl
  rw [e] at q
  exact q
 have dl:((io (R.map (·.map ao))).map aU).length=R.length:=by rw [List.length_map,P.length_eq,A]
 obtain ⟨y,m,p⟩:=i (dP L) ((vF o i (by lia) k).2.mem_iff.mp (.head _))
 generalize u:(io (R.map (·.map ao))).map aU=B at a b dl
 generalize c2 gd (cC (R.map (·.map ao)) g) ax=D at b
 have c:=ig b
 cases b with
 | nil=>exact absurd dl (by show ¬0=R.length;lia)
 | cons x n b=>
  have hx:y=x:=by
   have:=(a 0).1
   rw [p] at this
   exact this
  subst hx
  refine ⟨y,m,n,by lia,k,i,p,rfl,?_,fun t => ?_,fun t=>(a t).2.2.2.1,fun t=>(a t).2.2.2.2.2,fun t => ?_,fun t => ?_,fun t => ?_⟩
  ·rw [c,dl];lia
  ·rw [(a t).2.2.2.2.1,h]
  ·have q:=CM (vs:=fS R.length (cL L "/zz" t)) (by
    refine HM (a t).2.2.2.1 ?_
    exact (vG _ _ (by rw [(a t).2.2.2.2.1,h]) (a t).2.2.2.2.2 (a t).2.2.2.1 (by lia)).1)
   have e:=(a t).2.1
   rw [h] at e
   rw [e] at q
   exact q
  ·have e:=(a t).2.2.1
   rw [h] at e
   exact e
  ·exact CN b (.cons _ _ .nil)
end
section
open SeqAt MeetsSeq3
section
section
variable {b c:Bool} {w:Yc} {A:Around} {h0 h:Heap} {L0:List Addr} {tk:Nat} {gs:Array GenState} {d:Drawn} {os:OsState} {E:Yd→Shared→Prop} {Q:Flow→Shared→Prop} {s:Addr×Obj}
theorem MB (a j e:Yd) (L:Yb) (t g:Addr×Obj) (R:bu) (p:af) (o:∀r∈R,b7 r) (q:6≤R.length) (k:R.length≤12) (u:Lv 10 A) (B:i9 (B0 (W b c w)) h0 L0 s gs d os Q) (z:Hp L) (D:bk L) (C:L.length=R.length) (y:(L.map sv).Perm ((R.map (·.map ao)).map aU))
  (H:bp (B0 (W b c w)) h0 L0 (p1 w a j e R p++(be (R.map (·.map ao)) (p 21))++([(p 9 0,aJ (.ref (p 10 0))),(p 10 0,ab L (p 10 1)),(p 6 0,ab (aT R (p 20)) (p 6 1)),s,t,g]++(be R (p 20)))) h):bw (B0 (W b c w)) A (execs [sS w 6,sS w 7,sS w 8,sS w 9] (bl w p)) Q E ⟨h,gs,d,tk,os⟩:=
 bp.stmtS (bG (W b c w)) (Lg b c w a j e R p o q k).exec (fun ax=>by kernel_rfl) _ (u.le (by decide)) H fun I F ax G=>by
  obtain ⟨x,m,n,f⟩:=MA (g:=p 21) (ax:=fun i=>ax (i+3)) o q k z D C y
  exact Mz a j e L _ x m n _ R (nJ p ax) f o q k u B (bp.left (X:=[t,g]++(be R (p 20))) (G.go (by kernel_rfl) (Mm (gl (lE w a j e L (c2 gd (cC (R.map (·.map ao)) (p 21)) fun i=>ax (i+3)) x m n R (nJ p ax)) 0) (gl (lE w a j e L (c2 gd (cC (R.map (·.map ao)) (p 21)) fun i=>ax (i+3)) x m n R (nJ p ax)) 1) t s (gl (lE w a j e L (c2 gd (cC (R.map (·.map ao)) (p 21)) fun i=>ax (i+3)) x m n R (nJ p ax)) 4) g (p 7 0,ab (aT (R.map (·.map ao)) (p 21)) (p 7 1)) (gl (lE w a j e L (c2 gd (cC (R.map (·.map ao)) (p 21)) fun i=>ax (i+3)) x m n R (nJ p ax)) 2) (gl (lE w a j e L (c2 gd (cC (R.map (·.map ao)) (p 21)) fun i=>ax (i+3)) x m n R (nJ p ax)) 3) (be R (p 20)) (be (R.map (·.map ao)) (p 21))) (by kernel_rfl)))
theorem MC (f g:Addr×Obj) (R:bu) (p:af) (i:∀r∈R,b7 r) (m:6≤R.length) (e:R.length≤12) (o:Lv 10 A) (t:i9 (B0 (W b c w)) h0 L0 s gs d os Q)
  (H:bp (B0 (W b c w)) h0 L0 (nD w R p++((be R (p 20))++(be (R.map (·.map ao)) (p 21)))++[f,g,s]) h):bw (B0 (W b c w)) A (execs [sS w 5,sS w 6,sS w 7,sS w 8,sS w 9] (bl w p)) Q E ⟨h,gs,d,tk,os⟩:=by
 have P:=(Lf b c w R p i m e).exec
 rw [List.append_assoc] at P
 refine bp.stmtS (bG (W b c w)) P (fun a=>by kernel_rfl) _ (o.le (by decide)) H fun D B a C => ?_
 obtain ⟨y,z,n,q⟩:=Bh (gc R (p 20) (p 21)) (tj p) a (fun j _ x=>absurd x (Nat.not_lt_zero _)) (fun v u=>by cases u) (by rw [nz];show 0+R.length≤90;lia)
 exact MB (kV 0 (fD R (p 20) (p 21) p a).k) (kV 1 (fD R (p 20) (p 21) p a).k) (kV 2 (fD R (p 20) (p 21) p a).k) (fD R (p 20) (p 21) p a).hv f g R (wP R p a) i m e o t y z (by rw [nz] at n;exact n.trans (Nat.zero_add _)) (by
  rw [Be (fun r=>aU (r.map ao))] at q
  rw [List.map_map]
  exact q) (C.go (by kernel_rfl) (Ml (gl (p1 w (kV 0 (fD R (p 20) (p 21) p a).k) (kV 1 (fD R (p 20) (p 21) p a).k) (kV 2 (fD R (p 20) (p 21) p a).k) R (wP R p a)) 0) (p 9 0,aJ (.ref (p 10 0))) f s (p 6 0,ab (aT R (p 20)) (p 6 1)) g (gl (p1 w (kV 0 (fD R (p 20) (p 21) p a).k) (kV 1 (fD R (p 20) (p 21) p a).k) (kV 2 (fD R (p 20) (p 21) p a).k) R (wP R p a)) 1) (p 10 0,ab (fD R (p 20) (p 21) p a).hv (fD R (p 20) (p 21) p a).hn) (be R (p 20)) (be (R.map (·.map ao)) (p 21))) (by kernel_rfl))
theorem MD (f g:Addr×Obj) (R:bu) (p:af) (k:∀r∈R,b7 r) (o:6≤R.length) (e:R.length≤12) (i:Lv 10 A) (j:i9 (B0 (W b c w)) h0 L0 s gs d os Q)
  (H:bp (B0 (W b c w)) h0 L0 (Cg w p++([f,g,(p 6 0,ab (aT R (p 20)) (p 6 1)),(p 7 0,ab (aT (R.map (·.map ao)) (p 21)) (p 7 1)),s]++(be R (p 20))++(be (R.map (·.map ao)) (p 21)))) h):bw (B0 (W b c w)) A (execs [sS w 4,sS w 5,sS w 6,sS w 7,sS w 8,sS w 9] (bl w p)) Q E ⟨h,gs,d,tk,os⟩:=
 bp.stmt (bG (W b c w)) (Ld b c w p).exec (fun a=>by kernel_rfl) _ (i.le (by decide)) H fun q m a n=>
  MC f g R (tz p a) k o e i j (n.go (by kernel_rfl) (Mk (gl (nD w R (tz p a)) 0) (gl (nD w R (tz p a)) 1) f s (p 6 0,ab (aT R (p 20)) (p 6 1)) g (p 7 0,ab (aT (R.map (·.map ao)) (p 21)) (p 7 1)) (gl (nD w R (tz p a)) 2) (be R (p 20)) (be (R.map (·.map ao)) (p 21))) (by kernel_rfl))
end
end
end
section
open SeqAt MeetsSeq3
theorem ME (w:Yc):sS w 3 = .If (.Compare (d3 (bN (sS w 3))) [.NotEq] [dd (bN (sS w 3))] (na (bN (sS w 3)))) (pp (sS w 3)) [] (pq (sS w 3)):=by kernel_rfl
theorem MF (w:Yc):behindInMarks .NotEq (dd (bN (sS w 3)))=false:=by kernel_rfl
theorem CO {δ : Type} (a : δ→Ye→Yd):∀(f:List δ) (e:Ye),(c2 a f e).length=f.length
 | [],_=>rfl
 | _::r,e=>by show (c2 a r (od e)).length+1=_;rw [CO a r];rfl
theorem CP {δ : Type} (g : δ→Ye→Yd) (f : δ→Ye→Ya):∀(k:List δ) (i:Ye) (j:Nat) (d : δ),k[j]? = some d→∃a,(c2 g k i)[j]? = some (g d a)∧∀q∈f d a,q∈fP f k i
 | e::r,i,0,d,h=>by
  obtain rfl:e=d:=Option.some.inj h
  exact ⟨ev i,rfl,fun q m=>List.mem_append_left _ m⟩
 | e::r,i,j+1,d,h=>by
  obtain ⟨a,o,n⟩:=CP g f r (od i) j d h
  exact ⟨a,o,fun q m=>List.mem_append_right _ (n q m)⟩
section
section
variable {b c:Bool} {w:Yc} {A:Around} {h0 h:Heap} {L0:List Addr} {tk:Nat} {gs:Array GenState} {d:Drawn} {os:OsState} {E:Yd→Shared→Prop} {Q:Flow→Shared→Prop} {s:Addr×Obj}
theorem MG (R:bu) (p:af) (B:∀r∈R,b7 r) (C:6≤R.length) (o:R.length≤12) (y:Lv 10 A) (K:i9 (B0 (W b c w)) h0 L0 s gs d os Q)
  (H:bp (B0 (W b c w)) h0 L0 (dX w R p++((be R (p 20))++([s]++(be (R.map (·.map ao)) (p 21))))) h):bw (B0 (W b c w)) A (execs [sS w 3,sS w 4,sS w 5,sS w 6,sS w 7,sS w 8,sS w 9] (bl w p)) Q E ⟨h,gs,d,tk,os⟩:=by
 refine bw.cons ?_
 rw [ME]
 refine bw.ifNe (MF w) ?_
 refine bp.step (bG (W b c w)) (K9 b c w R p) (fun G=>by kernel_rfl) _ (y.le (by decide)) H fun O L J U => ?_
 have z:bp (B0 (W b c w)) h0 L0 (pY w R p++(be R (p 20))++([s]++(be (R.map (·.map ao)) (p 21)))) O:=U.go (by kernel_rfl) (Mi (gl (dX w R p) 0) (gl (dX w R p) 1) (gl (dX w R p) 2) s (gl (dX w R p) 4) (gl (dX w R p) 3) (gl (dX w R p) 5) (be R (p 20)) (be (R.map (·.map ao)) (p 21))) (by kernel_rfl)
 refine bp.stepS (bG (W b c w)) (Lc b c w R p B C o) (fun G=>by kernel_rfl) _ (y.le (by decide)) z fun D T g n => ?_
 have Y:D.get? (p 7 0)=some (ab (aT (R.map (·.map ao)) (p 21)) (p 7 1)):=n.own _ (List.mem_append_left _ (List.mem_append_left _ (List.mem_append_left _ (.tail _ (.tail _ (.tail _ (.tail _ (.tail _ (.head _)))))))))
 have I:D.get? (g 0)=some (ab (c2 eQ (b9 R (p 20)) fun i=>g (i+2)) (g 1)):=n.own _ (List.mem_append_left _ (List.mem_append_right _ (.head _)))
 refine bw.neRows (a:=p 7 0) (b:=g 0) (R:=R.map (·.map ao)) (wQ y) Y I (ly _ _) (by rw [CO,f5,List.length_map]) (fun j r m => ?_) ⟨rfl,?_⟩
 ·obtain ⟨e,rfl,N,V,_⟩:=vI _ (p 21) j r m
  rw [List.getElem?_map] at m
  have u:=wh R (p 20) j
  match Z:(b9 R (p 20))[j]?,u with
  | none,u=>rw [←u] at m;cases m
  | some d,u=>
   rw [←u] at m
   obtain ⟨k,S,P⟩:=CP eQ nw (b9 R (p 20)) (fun i=>g (i+2)) j d Z
   have t:aE e.1 e.2∈[s]++(be (R.map (·.map ao)) (p 21)):=List.mem_append_right _ V
   have x:=P (k 2,nv d.1 d.2 fun i=>k (i+3)) (.head _)
   have nd:=n.nd
   rw [List.map_append,List.nodup_append] at nd
   refine ⟨_,k 2,_,_,_,_,N,S,fun q => ?_,n.own (aE e.1 e.2) (List.mem_append_right _ t),n.own _ (List.mem_append_left _ (List.mem_append_right _ (.tail _ x))),lx _ _ _,?_⟩
   ·exact nd.2.2 (k 2) (List.mem_map_of_mem (f:=Prod.fst) (List.mem_append_right _ (.tail _ x))) _ (List.mem_map_of_mem (f:=Prod.fst) t) q.symm
   ·have q:=A6 (dh d.1 (fun i=>d.2 (i+1)) 0) (fun i=>k (i+3))
    rw [A7] at q
    have F:d.1.map ao=e.1:=Option.some.inj m
    rw [F] at q
    exact q
 refine ⟨wpAny_execs_nil ?_⟩
 show bw (B0 (W b c w)) A (execs [sS w 4,sS w 5,sS w 6,sS w 7,sS w 8,sS w 9] (bl w p)) Q E _
 exact MD (gl (dX w R p) 2) (gl (dX w R p) 3) R p B C o y K (bp.left (X:=[(g 0,ab (c2 eQ (b9 R (p 20)) fun i=>g (i+2)) (g 1))]++(fP nw (b9 R (p 20)) fun i=>g (i+2))) (n.go (by kernel_rfl) (Mj (gl (dX w R p) 0) (gl (dX w R p) 1) (gl (dX w R p) 2) s (gl (dX w R p) 4) (gl (dX w R p) 3) (gl (dX w R p) 5) (g 0,ab (c2 eQ (b9 R (p 20)) fun i=>g (i+2)) (g 1)) (be R (p 20)) (be (R.map (·.map ao)) (p 21)) (fP nw (b9 R (p 20)) fun i=>g (i+2))) (by kernel_rfl)))
theorem MH (R:bu) (p:af) (i:∀r∈R,b7 r) (m:6≤R.length) (e:R.length≤12) (f:Lv 10 A) (g:i9 (B0 (W b c w)) h0 L0 s gs d os Q)
  (H:bp (B0 (W b c w)) h0 L0 (pX w p++([(p 6 0,ab (aT R (p 20)) (p 6 1)),(p 7 0,ab (aT (R.map (·.map ao)) (p 21)) (p 7 1)),s]++(be R (p 20))++(be (R.map (·.map ao)) (p 21)))) h):bw (B0 (W b c w)) A (execs [sS w 2,sS w 3,sS w 4,sS w 5,sS w 6,sS w 7,sS w 8,sS w 9] (bl w p)) Q E ⟨h,gs,d,tk,os⟩:=
 bp.stmt (bG (W b c w)) (K8 b c w p).exec (fun a=>by kernel_rfl) _ (f.le (by decide)) H fun n j a k=>
  MG R (qa p a) i m e f g (k.go (by kernel_rfl) (Mh (gl (dX w R (qa p a)) 0) (gl (dX w R (qa p a)) 1) (gl (dX w R (qa p a)) 2) s (p 6 0,ab (aT R (p 20)) (p 6 1)) (gl (dX w R (qa p a)) 3) (p 7 0,ab (aT (R.map (·.map ao)) (p 21)) (p 7 1)) (be R (p 20)) (be (R.map (·.map ao)) (p 21))) (by kernel_rfl))
theorem MI (R:bu) (p:af) (f:∀r∈R,b7 r) (j:6≤R.length) (e:R.length≤12) (g:Lv 10 A) (k:i9 (B0 (W b c w)) h0 L0 s gs d os Q)
  (H:bp (B0 (W b c w)) h0 L0 (jO w R p++(be R (p 20))++[s]) h):bw (B0 (W b c w)) A (execs [sS w 1,sS w 2,sS w 3,sS w 4,sS w 5,sS w 6,sS w 7,sS w 8,sS w 9] (bl w p)) Q E ⟨h,gs,d,tk,os⟩:=
 bp.stmtS (bG (W b c w)) (K7 b c w R p f j e).exec (fun a=>by kernel_rfl) _ (g.le (by decide)) H fun o m a n=>
  MH R (ty p a) f j e g k (n.go (by kernel_rfl) (Mg (gl (pX w (ty p a)) 0) (gl (pX w (ty p a)) 1) (gl (pX w (ty p a)) 2) s (p 6 0,ab (aT R (p 20)) (p 6 1)) (a 0,ab (aT (R.map (·.map ao)) fun i=>a (i+3)) (a 2)) (be R (p 20)) (be (R.map (·.map ao)) fun i=>a (i+3))) (by kernel_rfl))
theorem MJ (a:List da):∀r∈eU a,b7 r:=fun r h=>by
 obtain ⟨x,_,rfl⟩:=List.mem_map.mp h
 unfold fL
 split
 ·exact .inl ⟨_,u4 _,rfl⟩
 ·exact .inr ⟨_,u4 _,_,u4 _,rfl⟩
theorem MK (a:List da) (p:af) (m:a.length≤63) (f:Lv 10 A) (g:i9 (B0 (W b c w)) h0 L0 (p 16 0,ab (a.map cA) (p 16 1)) gs d os Q)
  (H:bp (B0 (W b c w)) h0 L0 (kL w a p) h):bw (B0 (W b c w)) A (execs [sS w 0,sS w 1,sS w 2,sS w 3,sS w 4,sS w 5,sS w 6,sS w 7,sS w 8,sS w 9] (bl w p)) Q E ⟨h,gs,d,tk,os⟩:=
 bp.stmt (bG (W b c w)) (K4 b c w a p m).exec (fun e=>by kernel_rfl) [] (f.le (by decide)) (by rw [List.append_nil];exact H) fun n j e k=>
  MI (eU a) (p8 p e) (MJ a) (wi a).1 (wi a).2 f g (k.go (by kernel_rfl) (Mf (gl (jO w (eU a) (p8 p e)) 0) (gl (jO w (eU a) (p8 p e)) 1) (gl (jO w (eU a) (p8 p e)) 2) (p 16 0,ab (a.map cA) (p 16 1)) (gl (jO w (eU a) (p8 p e)) 3) (be (eU a) fun i=>e (i+3))) (by kernel_rfl))
end
end
end
section
def CQ (w:Yc) (a:Yb) (p:af):Code:=.call (.ref 291) ⟨[.ref (p 16 0)],[]⟩
def wR (w:Yc) (a:Yb) (p:af):Ya:=[(p 16 0,ab a (p 16 1))]
theorem ML (b c:Bool) (w:Yc) (d:Yb) (p:af):aL (B0 (W b c w)) 6 (CQ w d p) (wR w d p) (fun a=>(.error (.func (iX (im w)) (m9 (dg w) (a 0) [a 2,a 1])),[ab d (p 16 1)],[(a 0,aG w [("script",a 3,.ref (p 16 0))] 1),(a 1,de),(a 2,de)])):=
 aA (orcs:=[]) aq 13 0 [0,0,2,1,0,1] [0,1,2,3] (fun n e f=>aB [n+0,n+1,n+2,e+0])
end
section
open SeqAt MeetsSeq3
theorem bw.func {w:Yc} {e:Program} {A:Around} {a:List Stmt} {b:Env} {R:Result→Shared→Prop} {s:Shared} {v:Yd} {B:bf} (c:B.M=model e w)
  (h:∀E,bw B (A.under (.func a b)) (execs a b) (fun f d=>f = .ret v∧R (.ok (.ret v)) d) E s):codeAny B.M A (.func a b) R s:=by
 refine codeAny_of_tree ?_
 rw [c]
 show wpAny _ _ (denote table (.func a b)) _ _ _
 unfold denote
 refine wpAny_bind (wpAny_point (wpAny_bind (wpAny_onRaise ?_)))
 refine wpAny_mono (c▸(h _).go) (fun f d q => ?_) fun _ _ q=>q
 obtain ⟨rfl,q⟩:=q
 exact wpAny_pure q
def tA (p:af) (a:Ye):af:=fun j i=>match j,i with | 8,0=>a 0 | 8,1=>1 | 8,2=>a 3 | 9,0=>a 2 | 13,0=>a 1 | j,i=>p j i
section
theorem MM (w:Yc):iX (im w)=[sS w 0,sS w 1,sS w 2,sS w 3,sS w 4,sS w 5,sS w 6,sS w 7,sS w 8,sS w 9]:=by kernel_rfl
theorem MN (a b c s:Addr×Obj):[s,a,c,b].Perm [a,b,c,s]:=gf fun f=>by simp only [List.map_cons,List.map_nil,List.sum_cons,List.sum_nil];lia
theorem MO (b c:Bool) (w:Yc) (i:List da) (L:i.length≤63) (p:af):aC (B0 (W b c w)) 11 (CQ w (i.map cA) p) (wR w (i.map cA) p) fun _=>(.ret (.bool true),[ab (i.map cA) (p 16 1)],[]):=by
 intro A D h J G d F R nd z n P
 refine ML b c w (i.map cA) p A (D.le (by decide)) h J G d F R nd z n fun m B f le I K C t => ?_
 show codeAny (B0 (W b c w)).M A (.func (iX (im w)) (m9 (dg w) (f 0) [f 2,f 1])) R ⟨m,G,d,B,F⟩
 rw [MM]
 have O:=bG (W b c w)
 have lo:∀a∈(wR w (i.map cA) p).map (·.1),(B0 (W b c w)).lo≤a:=fun a C=>by
  obtain ⟨q,g,rfl⟩:=List.mem_map.mp C
  exact (z q g).2
 have o:p 16 0<h.objs.size:=iq (z _ (.head _)).1
 have Q:m.get? (p 16 0)=some (ab (i.map cA) (p 16 1)):=K (p 16 0,ab (i.map cA) (p 16 1)) (.head _)
 have j:∀q∈[(f 0,aG w [("script",f 3,.ref (p 16 0))] 1),(f 1,de),(f 2,de)],m.get? q.1=some q.2∧h.objs.size≤q.1:=C
 have k:(([(f 0,aG w [("script",f 3,.ref (p 16 0))] 1),(f 1,de),(f 2,de)]:Ya).map (·.1)).Nodup:=t
 have H:bp (B0 (W b c w)) h [p 16 0] ((p 16 0,ab (i.map cA) (p 16 1))::[(f 0,aG w [("script",f 3,.ref (p 16 0))] 1),(f 1,de),(f 2,de)]) m:=by
  refine ⟨?_,fun q g => ?_,fun q g => ?_,mR O n le lo I,I,le,fun q g => ?_⟩
  ·rw [List.map_cons,List.nodup_cons]
   refine ⟨fun S => ?_,k⟩
   obtain ⟨q,g,e⟩:=List.mem_map.mp S
   have:=(j q g).2
   rw [e] at this
   exact absurd o (Nat.not_lt.mpr this)
  ·rcases List.mem_cons.mp g with rfl | g
   ·exact Q
   ·exact (j q g).1
  ·rcases List.mem_cons.mp g with rfl | g
   ·exact lo _ (.head _)
   ·exact Nat.le_trans n.2 (j q g).2
  ·rcases List.mem_cons.mp g with rfl | g
   ·exact .inl (.head _)
   ·exact .inr (j q g).2
 refine bw.func (v:=.bool true) rfl fun E => ?_
 refine MK i (tA p f) L (D.under (gU fun id a e=>by cases e)) (fun N u X s=>⟨rfl,?_⟩) (H.go rfl (MN (gl (kL w i (tA p f)) 0) (gl (kL w i (tA p f)) 1) (gl (kL w i (tA p f)) 2) (p 16 0,ab (i.map cA) (p 16 1))) (by kernel_rfl))
 refine P N u id s.size s.keep (fun x hx => ?_) (fun q g=>by cases g) List.nodup_nil
 have e:x=(p 16 0,ab (i.map cA) (p 16 1)):=by
  have y:x∈[(p 16 0,ab (i.map cA) (p 16 1))]:=hx
  exact List.mem_singleton.mp y
 subst e
 exact s.own _ (.head _)
end
end
def hH (w:Yc):Heap:=absHeap (jp w.params) 292 {}
def CR (v:Option Obj) (x:Obj):Option Obj:=match v with | some _=>alive x | none=>none
def kO:KT→BT→KT
 | .nil,_=>.nil
 | .node _ _ _,.nil=>.nil
 | .node v l r,.node x b a=>.node (CR v x) (kO l b) (kO r a)
theorem wS:∀(k:KT) (t:BT) (j:Nat) (o:Obj),(kO k t).get j=some o→∃x,t.get j=some x∧alive x=some o
 | .nil,_,_,_,e=>by simp [kO,KT.get] at e
 | .node _ _ _,.nil,_,_,e=>by simp [kO,KT.get] at e
 | .node v l r,.node x c a,j,o,e=>by
  change (KT.node (CR v x) (kO l c) (kO r a)).get j=some o at e
  unfold KT.get at e
  unfold BT.get
  cases d:Nat.beq j 0 with
  | true=>
   rw [d] at e
   cases v with
   | none=>cases e
   | some _=>exact ⟨x,rfl,e⟩
  | false=>
   rw [d] at e
   cases b:Nat.beq (j % 2) 1 with
   | true=>rw [b] at e;exact wS l c _ o e
   | false=>rw [b] at e;exact wS r a _ o e
theorem MP (P:Params):kO (o7 P) (jp P)=o7 P:=by kernel_rfl
theorem MQ (w:Yc) (b:Nat) (o:Obj) (e:(B0 w).kt.get b=some o):(hH w).get? b=some o:=by
 have l:b<292:=(bG w).kt b o e
 have a:(o7 w.params).get b=some o:=e
 rw [←MP] at a
 obtain ⟨x,z,y⟩:=wS _ _ _ _ a
 exact (abs_get l z).trans y
theorem MR:Lv 11 callerA:=⟨rfl,by decide +kernel,by decide +kernel⟩
def MS (x:Addr):af:=fun i j=>match i,j with | 16,0=>x | _,_=>0
theorem MT (w:Yc) (a:Shared) (c:List da) (s:c.length≤63) (x:Addr) (hx:a.heap.get? x=some (ab (c.map cA) 0)) (lo:292≤x) (k:(B0 w).In a.heap) (Q:Yd→Shared→Prop) (E:Yd→Shared→Prop)
  (n:∀f:Shared,(∀b o,a.heap.get? b=some o→f.heap.get? b=some o)→f.os=a.os→f.gens=a.gens→Q (.bool true) f):wpAny (B0 w).M callerA (PySem.call (.ref 291) [.ref x]) Q E a:=by
 refine wpAny_call ?_
 have D:=MO (w.params.followText "special-get-raises") (w.params.followText "comprehension-iter-twice") w c s (MS x)
 rw [D1] at D
 obtain ⟨h,t,d,m,q⟩:=a
 refine D callerA MR h m t d q _ (by exact List.nodup_cons.mpr ⟨List.not_mem_nil,List.nodup_nil⟩) (fun p g => ?_) k fun B y C le u g F nd => ?_
 ·have e:p=(x,ab (c.map cA) 0):=List.mem_singleton.mp g
  subst e
  exact ⟨hx,lo⟩
 ·refine n _ (fun b o i => ?_) rfl rfl
  by_cases e:b=x
  ·subst e
   have z:=g (b,ab (c.map cA) 0) (.head _)
   have j:h.get? b=some (ab (c.map cA) 0):=hx
   rw [j] at i
   cases i
   exact z
  ·refine u b o i fun A=>e ?_
   have:b∈[x]:=A
   exact List.mem_singleton.mp this
def jT (c:Code→Sem Fin) (p:Program) (w:Yc) (a:Nat) (d:Option Yd) (b:Nat):Nat→SharedT→Thread→Option (SharedT×Thread)
 | 0,s,t=>some (s,t)
 | n+1,s,t=>match endAt b t with
  | some _=>none
  | none=>match stepOk a d t with
   | false=>none
   | true=>match stepT c p w s t with
    | some (f,e)=>jT c p w a d b n f e
    | none=>none
def eY (c:Code→Sem Fin) (p:Program) (w:Yc) (a:Nat) (d:Option Yd) (b:Nat):Nat→SharedT→Thread→Option (Flow×SharedT×Code×Pos)
 | 0,_,_=>none
 | n+1,s,t=>match endAt b t with
  | some f=>some (f,s,t.code,t.pos)
  | none=>match stepOk a d t with
   | false=>none
   | true=>match stepT c p w s t with
    | some (g,e)=>eY c p w a d b n g e
    | none=>none
theorem CS (d:String→Option Builtin) (p:Program) (w:Yc) (a:Nat) (c:Option Yd) (b:Nat):∀(n:Nat) (s:SharedT) (t:Thread),segGoT d p w a c b n s t=jT (denote d) p w a c b n s t
 | 0,_,_=>rfl
 | n+1,s,t=>by unfold segGoT jT;simp only [CS d p w a c b n];rfl
theorem wT (d:String→Option Builtin) (p:Program) (w:Yc) (a:Nat) (c:Option Yd) (b:Nat):∀(n:Nat) (s:SharedT) (t:Thread),segRunT d p w a c b n s t=eY (denote d) p w a c b n s t
 | 0,_,_=>rfl
 | n+1,s,t=>by unfold segRunT eY;simp only [wT d p w a c b n];rfl
def cs (w:Yc) (k:Nat) (s:SharedT) (t:Thread):Option (SharedT×Thread):=jT dI pw w 28 (some (.ref 6)) 1 k s t
def dq (l:List Stmt) (p:Pos):Thread:=⟨(PySem.W.Fast.tw12563942051412417395 l iQ).wrap doneF deadEnd id id,ct,p,[topFrame ⟨0,0,0,0⟩]⟩
def Wi (w:Yc) (c:Bool):Yc:=w.withFollow "comprehension-iter-twice" c
def Wg (w:Yc) (b:Bool):Yc:=w.withFollow "special-get-raises" b
def wU:Option (SharedT×Thread)→Thread
 | some (_,t)=>t
 | none=>⟨.unsupported "",ct,⟨0,0,0,0⟩,[]⟩
theorem CT (c:Code→Sem Fin) (p:Program) (w:Yc) (a:Nat) (d:Option Yd) (b n:Nat):∀(m:Nat) (s:SharedT) (t:Thread) (x:SharedT×Thread),jT c p w a d b m s t=some x→jT c p w a d b (m+n) s t=jT c p w a d b n x.1 x.2
 | 0,s,t,x,h=>by cases h;rw [Nat.zero_add]
 | m+1,s,t,x,h=>by
  rw [Nat.add_right_comm,jT]
  rw [jT] at h
  revert h
  cases endAt b t with
  | some _=>exact nofun
  | none=>
   cases stepOk a d t with
   | false=>exact nofun
   | true=>
    dsimp only
    cases stepT c p w s t with
    | none=>exact nofun
    | some y=>exact fun h=>CT c p w a d b n m _ _ x h
theorem iA {w:Yc} {m n k:Nat} {s a:SharedT} {t b:Thread} {r:Option (SharedT×Thread)} (h:cs w m s t=some (a,b)) (g:cs w n a b=r) (e:m+n=k:=by rfl):cs w k s t=r:=e▸(CT dI pw w 28 _ 1 n m s t _ h).trans g
theorem tB (l:List Stmt) (p:Pos):dq l p=piecesOf l iQ ct p [topFrame ⟨0,0,0,0⟩]:=by
 unfold dq
 rw [←PySem.W.Fast.te12563942051412417395]
theorem jU {w:Yc} {k:Nat} {s a:SharedT} {l:List Stmt} {p b:Pos} (h:eY dI pw w 28 (some (.ref 6)) 1 k s (dq l p)=some (.next,a,ct,b)):segRun treeTable pw w 28 (some (.ref 6)) 1 k s.abs (piecesOf l iQ ct p [topFrame ⟨0,0,0,0⟩])=some (.next,a.abs,ct,b):=by
 rw [ss,table_eq_tree,←wT,tB] at h
 exact segRun_of h
theorem kP {w:Yc} {k:Nat} {s a:SharedT} {t:Thread} {b:Pos} (h:eY dI pw w 28 (some (.ref 6)) 1 k s t=some (.next,a,ct,b)):segRun treeTable pw w 28 (some (.ref 6)) 1 k s.abs t=some (.next,a.abs,ct,b):=by
 rw [ss,table_eq_tree,←wT] at h
 exact segRun_of h
theorem dY {w:Yc} {k:Nat} {s b:SharedT} {t a:Thread} (h:cs w k s t=some (b,a)):segGo treeTable pw w 28 (some (.ref 6)) 1 k s.abs t=some (b.abs,a):=by
 unfold cs at h
 rw [ss,table_eq_tree,←CS] at h
 exact segGo_of h
theorem MU (w:Yc) (a:OsState):eY dI pw w 28 (some (.ref 6)) 1 117 (hT (o0 w.params) 32 282 a) (dq (hP 0 3) (Pos.mk 0 0 0 0))=some (.next,(hT (lh w.params) 44 326 a),ct,Pos.mk 6 0 6 2):=by kernel_rfl
theorem MV (w:Yc) (a:OsState):eY dI pw w 28 (some (.ref 6)) 1 133 (hT (uN w.params) 50 1354 a) (dq (hP 4 8) (Pos.mk 7 0 7 11))=some (.next,(hT (o4 w.params) 54 1371 a),ct,Pos.mk 15 0 15 8):=by kernel_rfl
theorem MW (w:Yc) (a:OsState):eY dI pw w 28 (some (.ref 6)) 1 25 (hT (uO w.params) 57 1579 a) (dq (hP 13 1) (Pos.mk 16 9 16 74))=some (.next,(hT (o5 w.params) 57 1582 a),ct,Pos.mk 18 0 18 28):=by kernel_rfl
theorem MX (w:Yc) (a:OsState):eY dI pw (Wg w false) 28 (some (.ref 6)) 1 306 (hT (o6 w.params) 60 1868 a) (dq (hP 15 8) (Pos.mk 19 9 19 110))=some (.next,(hT (sr w.params) 101 1918 a),ct,Pos.mk 62 0 64 44):=by kernel_rfl
theorem MY (w:Yc) (a:OsState):eY dI pw (Wg w true) 28 (some (.ref 6)) 1 306 (hT (o6 w.params) 60 1868 a) (dq (hP 15 8) (Pos.mk 19 9 19 110))=some (.next,(hT (sr w.params) 101 1918 a),ct,Pos.mk 62 0 64 44):=by kernel_rfl
theorem MZ (w:Yc) (a:OsState):eY dI pw w 28 (some (.ref 6)) 1 220 (hT (sr w.params) 101 1918 a) (dq (hP 23 9) (Pos.mk 62 0 64 44))=some (.next,(hT (y1 w.params) 143 1984 a),ct,Pos.mk 113 0 113 8):=by kernel_rfl
theorem M0 (w:Yc) (a:OsState):eY dI pw w 28 (some (.ref 6)) 1 528 (hT (y1 w.params) 143 1984 a) (dq (hP 32 3) (Pos.mk 113 0 113 8))=some (.next,(hT (y2 w.params) 195 2051 a),ct,Pos.mk 119 0 133 16):=by kernel_rfl
theorem M1 (w:Yc) (a:OsState):eY dI pw w 28 (some (.ref 6)) 1 217 (hT (y2 w.params) 195 2051 a) (dq (hP 35 9) (Pos.mk 119 0 133 16))=some (.next,(hT (y3 w.params) 237 2114 a),ct,Pos.mk 189 0 196 23):=by kernel_rfl
theorem M2 (w:Yc) (a:OsState):eY dI pw w 28 (some (.ref 6)) 1 274 (hT (y3 w.params) 237 2114 a) (dq (hP 44 10) (Pos.mk 189 0 196 23))=some (.next,(hT (jp w.params) 292 2190 a),ct,Pos.mk 289 0 314 15):=by kernel_rfl
def CU (P:Params) (x t:Nat) (o:Obj):Obj:={o with data:=match o.data with | .dict b n=>.dict (b.toList.dropLast++[ag P gq 1379 (ah x t)]).toArray n | d=>d}
def CV:Yh→Nat→Yb→Yb
 | [],_,l=>l
 | b::r,t,l=>CV r (t+3) (l.set b (ad ⟨#[b]⟩ t))
def CW (bs:Yh) (t:Nat) (o:Obj):Obj:={o with data:=match o.data with | .seq a n=>.seq (CV bs t a.toList).toArray n | d=>d}
def CX (i:Nat) (o:Obj):Obj:={o with data:=match o.data with | .fields a=>.fields (a.toList.take 1++[ah i 0]).toArray | d=>d}
def CY:Yh:=[45,33,42,43,47,97,98,99,100,101,102,103,104,105,106,107,108,109,110,111,112,113,114,115,116,117,118,119,120,121,122,65,66,67,68,69,70,71,72,73,74,75,76,77,78,79,80,81,82,83,84,85,86,87,88,89,90,48,49,50,51,52,53,54,55,56,57]
def CZ:Yh:=[32,33,34,35,36,37,38,39,40,41,42,43,44,45,46,47,48,49,50,51,52,53,54,55,56,57,58,59,60,62,63,64,65,66,67,68,69,70,71,72,73,74,75,76,77,78,79,80,81,82,83,84,85,86,87,88,89,90,91,92,93,94,95,96,97,98,99,100,101,102,103,104,105,106,107,108,109,110,111,112,113,114,115,116,117,118,119,120,121,122,123,124,125,126,9]
def iB (w:Yc) (a:OsState) (i:Nat):SharedT:=hT ((((DW w.params).set 3 (CU w.params (CY.getD i 0) (1378+3*i))).set 51 (CW (CY.take (i+1)) 1380)).set 54 (CX (i+1))) 55 (1381+3*i) a
def iC (w:Yc) (a:OsState):Thread:=wU (cs (Wg w false) 134 (hT (o4 w.params) 54 1371 a) (dq (hP 12 1) (Pos.mk 15 0 15 8)))
theorem M3 (w:Yc) (a:OsState):cs (Wg w false) 134 (hT (o4 w.params) 54 1371 a) (dq (hP 12 1) (Pos.mk 15 0 15 8))=some (iB w a 1,iC w a):=by kernel_rfl
theorem M4 (b:Bool) (w:Yc) (a:OsState):cs (Wg w b) 990 (iB w a 1) (iC w a)=some (iB w a 23,iC w a):=by kernel_rfl
theorem M5 (b:Bool) (w:Yc) (a:OsState):cs (Wg w b) 990 (iB w a 23) (iC w a)=some (iB w a 45,iC w a):=by kernel_rfl
theorem M6 (b:Bool) (w:Yc) (a:OsState):cs (Wg w b) 945 (iB w a 45) (iC w a)=some (iB w a 66,iC w a):=by kernel_rfl
theorem C0 (b:Bool) (w:Yc) (a:OsState):cs (Wg w b) (45*65) (iB w a 1) (iC w a)=some (iB w a 66,iC w a):=iA (iA (M4 b w a) (M5 b w a)) (M6 b w a)
theorem Da (b:Bool) (w:Yc) (a:OsState):eY dI pw (Wg w b) 28 (some (.ref 6)) 1 18 (iB w a 66) (iC w a)=some (.next,hT (uO w.params) 57 1579 a,ct,Pos.mk 16 9 16 74):=by kernel_rfl
theorem M7 (w:Yc) (a:OsState):cs (Wg w true) 134 (hT (o4 w.params) 54 1371 a) (dq (hP 12 1) (Pos.mk 15 0 15 8))=some (iB w a 1,iC w a):=by kernel_rfl
def gQ (w:Yc) (a:OsState) (i:Nat):SharedT:=hT ((((DX w.params).set 3 (CU w.params (CZ.getD i 0) (1583+3*i))).set 53 (CW (CZ.take (i+1)) 1585)).set 57 (CX (i+1))) 58 (1586+3*i) a
def gR (w:Yc) (a:OsState):Thread:=wU (cs (Wg w false) 100 (hT (o5 w.params) 57 1582 a) (dq (hP 14 1) (Pos.mk 18 0 18 28)))
theorem M8 (w:Yc) (a:OsState):cs (Wg w false) 100 (hT (o5 w.params) 57 1582 a) (dq (hP 14 1) (Pos.mk 18 0 18 28))=some (gQ w a 1,gR w a):=by kernel_rfl
theorem M9 (b:Bool) (w:Yc) (a:OsState):cs (Wg w b) 1080 (gQ w a 1) (gR w a)=some (gQ w a 25,gR w a):=by kernel_rfl
theorem Na (b:Bool) (w:Yc) (a:OsState):cs (Wg w b) 1035 (gQ w a 25) (gR w a)=some (gQ w a 48,gR w a):=by kernel_rfl
theorem Nb (b:Bool) (w:Yc) (a:OsState):cs (Wg w b) 1035 (gQ w a 48) (gR w a)=some (gQ w a 71,gR w a):=by kernel_rfl
theorem Nc (b:Bool) (w:Yc) (a:OsState):cs (Wg w b) 1035 (gQ w a 71) (gR w a)=some (gQ w a 94,gR w a):=by kernel_rfl
theorem Db (b:Bool) (w:Yc) (a:OsState):cs (Wg w b) (45*93) (gQ w a 1) (gR w a)=some (gQ w a 94,gR w a):=iA (iA (iA (M9 b w a) (Na b w a)) (Nb b w a)) (Nc b w a)
theorem Dc (b:Bool) (w:Yc) (a:OsState):eY dI pw (Wg w b) 28 (some (.ref 6)) 1 18 (gQ w a 94) (gR w a)=some (.next,hT (o6 w.params) 60 1868 a,ct,Pos.mk 19 9 19 110):=by kernel_rfl
theorem Nd (w:Yc) (a:OsState):cs (Wg w true) 100 (hT (o5 w.params) 57 1582 a) (dq (hP 14 1) (Pos.mk 18 0 18 28))=some (gQ w a 1,gR w a):=by kernel_rfl
theorem Nf (w:Yc):((absHeap (iP w.params) 28 {}).isNs mainGlobals&&(#[]:Array GenState).size==0,(absHeap (iP w.params) 28 {}).objs.size,(absHeap (iP w.params) 28 {}).nsMap mainGlobals "__annotations__")=(true,28,some (.ref 6)):=by kernel_rfl
theorem qb (w:Yc) (a:OsState):topGo treeTable pw w 28 (some (.ref 6)) 12 (hT (iP w.params) 28 276 a).abs (topStub pw)=some ((hT (o0 w.params) 32 282 a).abs,⟨denote treeTable ct,ct,⟨0,0,0,0⟩,[topFrame ⟨0,0,0,0⟩]⟩):=by kernel_rfl
theorem Ng (w:Yc) (a:OsState):segRun treeTable pw w 28 (some (.ref 6)) 1 1 (hT (o0 w.params) 32 282 a).abs (blockOf (behindTheImports pw) iQ ct ⟨0,0,0,0⟩ [topFrame ⟨0,0,0,0⟩])=some (.next,(hT (o0 w.params) 32 282 a).abs,ct,⟨0,0,0,0⟩):=by kernel_rfl
theorem Nh (w:Yc) (a:OsState):topRun treeTable pw w 28 (some (.ref 6)) 2 (hT (jp w.params) 292 2190 a).abs ⟨doneF .next,ct,⟨289,0,314,15⟩,[topFrame ⟨0,0,0,0⟩]⟩=some (hT (jp w.params) 292 2190 a).abs:=by kernel_rfl
theorem tC (w:Yc):Wg w false=w∨Wg w true=w:=by
 have e:=World.withFollow_self w "special-get-raises"
 cases a:w.params.followText "special-get-raises" <;> rw [a] at e
 ·exact .inl e
 ·exact .inr e
theorem Ni (w:Yc):Wi w false=w∨Wi w true=w:=by
 have e:=World.withFollow_self w "comprehension-iter-twice"
 cases a:w.params.followText "comprehension-iter-twice" <;> rw [a] at e
 ·exact .inl e
 ·exact .inr e
theorem Nj (w:Yc) (a:OsState):segRun treeTable pw w 28 (some (.ref 6)) 1 (134+(45*65+18)) (hT (o4 w.params) 54 1371 a).abs (piecesOf (hP 12 1) iQ ct ⟨15,0,15,8⟩ [topFrame ⟨0,0,0,0⟩])=some (.next,(hT (uO w.params) 57 1579 a).abs,ct,⟨16,9,16,74⟩):=by
 rw [←tB]
 rcases tC w with e | e
 ·have d:=M3 w a;have c:=C0 false w a;have b:=Da false w a
  rw [e] at d c b
  exact seg_go (dY d) (seg_go (dY c) (kP b))
 ·have d:=M7 w a;have c:=C0 true w a;have b:=Da true w a
  rw [e] at d c b
  exact seg_go (dY d) (seg_go (dY c) (kP b))
theorem Nk (w:Yc) (a:OsState):segRun treeTable pw w 28 (some (.ref 6)) 1 (100+(45*93+18)) (hT (o5 w.params) 57 1582 a).abs (piecesOf (hP 14 1) iQ ct ⟨18,0,18,28⟩ [topFrame ⟨0,0,0,0⟩])=some (.next,(hT (o6 w.params) 60 1868 a).abs,ct,⟨19,9,19,110⟩):=by
 rw [←tB]
 rcases tC w with e | e
 ·have d:=M8 w a;have c:=Db false w a;have b:=Dc false w a
  rw [e] at d c b
  exact seg_go (dY d) (seg_go (dY c) (kP b))
 ·have d:=Nd w a;have c:=Db true w a;have b:=Dc true w a
  rw [e] at d c b
  exact seg_go (dY d) (seg_go (dY c) (kP b))
def hx (P:Params):Yb:=match (f2 P).data with | Data.seq a _=>a.toList | _=>[]
def s3 (w:Yc) (a:OsState) (i:Nat):SharedT:=hT ((((DV w.params).set 45 fun _=>ay "range_iterator" (.fields #[ah i 0,ah (256-i) 0,ah 1 0])).set 46 fun _=>ay "list" (.seq ((hx w.params).take i).toArray i)).set 47 fun _=>ay "dict" (.dict #[ag w.params gq 330 (ah (i-1:Nat) (325+4*i))] 1)) 48 (329+4*i) a
def t3 (w:Yc) (a:OsState):Thread:=wU (cs (Wg (Wi w false) false) 89 (hT (lh w.params) 44 326 a) (dq (hP 3 1) ⟨6,0,6,2⟩))
theorem Nl (w:Yc) (a:OsState):cs (Wg (Wi w false) false) 89 (hT (lh w.params) 44 326 a) (dq (hP 3 1) ⟨6,0,6,2⟩)=some (s3 w a 1,t3 w a):=by kernel_rfl
theorem Nm (w:Yc) (a:OsState):cs (Wg (Wi w true) false) 79 (hT (lh w.params) 44 326 a) (dq (hP 3 1) ⟨6,0,6,2⟩)=some (s3 w a 1,t3 w a):=by kernel_rfl
theorem Nn (b:Bool) (w:Yc) (a:OsState):cs (Wg w b) 1184 (s3 w a 1) (t3 w a)=some (s3 w a 33,t3 w a):=by kernel_rfl
theorem No (b:Bool) (w:Yc) (a:OsState):cs (Wg w b) 1184 (s3 w a 33) (t3 w a)=some (s3 w a 65,t3 w a):=by kernel_rfl
theorem Np (b:Bool) (w:Yc) (a:OsState):cs (Wg w b) 1184 (s3 w a 65) (t3 w a)=some (s3 w a 97,t3 w a):=by kernel_rfl
theorem Nq (b:Bool) (w:Yc) (a:OsState):cs (Wg w b) 1184 (s3 w a 97) (t3 w a)=some (s3 w a 129,t3 w a):=by kernel_rfl
theorem tD (b:Bool) (w:Yc) (a:OsState):cs (Wg w b) (37*128) (s3 w a 1) (t3 w a)=some (s3 w a 129,t3 w a):=iA (iA (iA (Nn b w a) (No b w a)) (Np b w a)) (Nq b w a)
theorem Nr (b:Bool) (w:Yc) (a:OsState):cs (Wg w b) 1184 (s3 w a 129) (t3 w a)=some (s3 w a 161,t3 w a):=by kernel_rfl
theorem Nt (b:Bool) (w:Yc) (a:OsState):cs (Wg w b) 1184 (s3 w a 161) (t3 w a)=some (s3 w a 193,t3 w a):=by kernel_rfl
theorem Nu (b:Bool) (w:Yc) (a:OsState):cs (Wg w b) 1184 (s3 w a 193) (t3 w a)=some (s3 w a 225,t3 w a):=by kernel_rfl
theorem Nv (b:Bool) (w:Yc) (a:OsState):cs (Wg w b) 1147 (s3 w a 225) (t3 w a)=some (s3 w a 256,t3 w a):=by kernel_rfl
theorem tE (b:Bool) (w:Yc) (a:OsState):cs (Wg w b) (37*127) (s3 w a 129) (t3 w a)=some (s3 w a 256,t3 w a):=iA (iA (iA (Nr b w a) (Nt b w a)) (Nu b w a)) (Nv b w a)
theorem tF (b:Bool) (w:Yc) (a:OsState):eY dI pw (Wg w b) 28 (some (.ref 6)) 1 28 (s3 w a 256) (t3 w a)=some (.next,hT (uN w.params) 50 1354 a,ct,⟨7,0,7,11⟩):=by kernel_rfl
theorem Nw (w:Yc) (a:OsState):cs (Wg (Wi w false) true) 89 (hT (lh w.params) 44 326 a) (dq (hP 3 1) ⟨6,0,6,2⟩)=some (s3 w a 1,t3 w a):=by kernel_rfl
theorem Nx (w:Yc) (a:OsState):cs (Wg (Wi w true) true) 79 (hT (lh w.params) 44 326 a) (dq (hP 3 1) ⟨6,0,6,2⟩)=some (s3 w a 1,t3 w a):=by kernel_rfl
theorem l3 (w:Yc) (a:OsState):∃x,x≤89∧segRun treeTable pw w 28 (some (.ref 6)) 1 (x+(37*128+(37*127+28))) (hT (lh w.params) 44 326 a).abs (piecesOf (hP 3 1) iQ ct ⟨6,0,6,2⟩ [topFrame ⟨0,0,0,0⟩])=some (.next,(hT (uN w.params) 50 1354 a).abs,ct,⟨7,0,7,11⟩):=by
 rw [←tB]
 rcases tC w with e | e <;> rcases Ni w with i | i
 ·have f:=Nl w a;have d:=tD false w a;have c:=tE false w a;have b:=tF false w a
  rw [i,e] at f
  rw [e] at d c b
  exact ⟨89,by decide,seg_go (dY f) (seg_go (dY d) (seg_go (dY c) (kP b)))⟩
 ·have f:=Nm w a;have d:=tD false w a;have c:=tE false w a;have b:=tF false w a
  rw [i,e] at f
  rw [e] at d c b
  exact ⟨79,by decide,seg_go (dY f) (seg_go (dY d) (seg_go (dY c) (kP b)))⟩
 ·have f:=Nw w a;have d:=tD true w a;have c:=tE true w a;have b:=tF true w a
  rw [i,e] at f
  rw [e] at d c b
  exact ⟨89,by decide,seg_go (dY f) (seg_go (dY d) (seg_go (dY c) (kP b)))⟩
 ·have f:=Nx w a;have d:=tD true w a;have c:=tE true w a;have b:=tF true w a
  rw [i,e] at f
  rw [e] at d c b
  exact ⟨79,by decide,seg_go (dY f) (seg_go (dY d) (seg_go (dY c) (kP b)))⟩
theorem Ny:behindTheImports pw=hP 0 3++(hP 3 1++(hP 4 8++(hP 12 1++(hP 13 1++(hP 14 1++(hP 15 8++(hP 23 9++(hP 32 3++(hP 35 9++(hP 44 10++[])))))))))):=by kernel_rfl
theorem Nz (w:Yc) (a:OsState):segRun treeTable pw w 28 (some (.ref 6)) 1 306 (hT (o6 w.params) 60 1868 a).abs (piecesOf (hP 15 8) iQ ct ⟨19,9,19,110⟩ [topFrame ⟨0,0,0,0⟩])=some (.next,(hT (sr w.params) 101 1918 a).abs,ct,⟨62,0,64,44⟩):=by
 rcases tC w with e | e
 ·have h:=MX w a;rw [e] at h;exact jU h
 ·have h:=MY w a;rw [e] at h;exact jU h
theorem NA (w:Yc) (a:OsState):∃M,M≤29000∧topRun treeTable pw w 28 (some (.ref 6)) M (hT (o0 w.params) 32 282 a).abs (PySem.W.restOf (behindTheImports pw) iQ ct ⟨0,0,0,0⟩ [topFrame ⟨0,0,0,0⟩])=some (hT (jp w.params) 292 2190 a).abs:=by
 obtain ⟨x,hx,b⟩:=l3 w a
 rw [Ny]
 refine ⟨_,?_,piece_app (jU (MU w a)) (piece_app b (piece_app (jU (MV w a)) (piece_app (Nj w a) (piece_app (jU (MW w a)) (piece_app (Nk w a) (piece_app (Nz w a) (piece_app (jU (MZ w a)) (piece_app (jU (M0 w a)) (piece_app (jU (M1 w a)) (piece_app (jU (M2 w a)) (piece_nil (Nh w a))))))))))))⟩
 lia
theorem NB (w:Yc) (a:OsState):∃M,M≤29100∧topRun treeTable pw w 28 (some (.ref 6)) M (hT (iP w.params) 28 276 a).abs (topStub pw)=some (hT (jp w.params) 292 2190 a).abs:=by
 obtain ⟨M,b,h⟩:=NA w a
 refine ⟨_,?_,go_top (qb w a) (piece_block (Ng w a) h)⟩
 lia
theorem NC (w:Yc):(fencedOpening treeTable pw w 30000).map (fun s=>(s.heap,s.gens,s.drawn,s.toks))=some (absHeap (iP w.params) 28 {},#[],⟨0,0,0,0⟩,276):=by kernel_rfl
theorem ND (w:Yc) (a:OsState):topRun treeTable pw w 28 (some (.ref 6)) 30000 ⟨absHeap (iP w.params) 28 {},#[],⟨0,0,0,0⟩,276,a⟩ (topStub pw)=some ⟨absHeap (jp w.params) 292 {},#[],⟨0,0,0,0⟩,2190,a⟩:=by
 obtain ⟨M,b,h⟩:=NB w a
 have r:=topRun_mono (30000-M) _ _ _ _ h
 rw [show M+(30000-M)=30000 by lia] at r
 exact r
def qv:Program:={pw with main:={pw.main with body:=[kZ pw.main.body 54]}}
def lv:List PySem.Str:=[ea,dZ,gn,gp,gW,hG,hI,hJ,hK,hM,hN,hO,gX,gY,lX,gZ,g0,g3,hU,hV,hW,hX,hY,hZ,ia,ib,jf,jg,jh,ji,jj,jk,j6,j7,j8,j9,ka,kb,kc,kd]
abbrev hS (w:Yc) (a:OsState):Shared:=⟨hH w,#[],⟨0,0,0,0⟩,2190,a⟩
def Dd (s:Shared):Bool:=xlAt qv [] s&&recOk [] s
theorem NE (w:Yc) (a:OsState):(staticsOk (importedModules pw.main.body) (absHeap (iP w.params) 28 {}) (hH w)&&namesBound pw (hH w)&&gensDone (hS w a)&&laidKept (absHeap (iP w.params) 28 {}) (hH w))=true:=by kernel_rfl
theorem hk1 (w:Yc) (b:OsState):seen ((recsOf qv).map (·.name)) (ownsOf qv) [] {hS w b with gens:=#[]}=expectedOf qv:=by kernel_rfl
theorem hk2 (w:Yc) (a:OsState):(hS w a).heap.bltView=bltViewBooted:=by kernel_rfl
theorem NF (w:Yc) (a:OsState):((hS w a).heap.keysOk (looseW qv lv) ((recsOf qv).map (·.name)) ((litsOf qv).map (·.1)) ((clssOf qv (looseW qv lv)).map (·.name))&&(hS w a).heap.accountedOkI (importedModules pw.main.body)&&(hS w a).heap.isNs mainGlobals&&(hS w a).heap.isNs builtinsNs&&tablesOk qv (hS w a).heap&&Dd (hS w a)&&(if true then (hS w a).gens.size==0 else !leftWithCleanup (hS w a).gens))=true:=by kernel_rfl
theorem NG (w:Yc) (a:OsState):tabsOk qv (hS w a)=true:=by kernel_rfl
theorem NH (w:Yc) (a:OsState):pinSeenD qv (drecsOf qv) (hS w a)=pinGoodD (drecsOf qv):=by kernel_rfl
theorem NI (w:Yc) (a:OsState):plainSeenE qv (looseW qv lv) (hS w a)=plainGoodE qv (looseW qv lv):=by kernel_rfl
theorem NJ (w:Yc) (a:OsState):plainSeenD qv lv (hS w a)=plainGoodD qv lv:=by kernel_rfl
theorem NK (w:Yc) (a:OsState):wideSeen qv (hS w a)=wideGood qv:=by kernel_rfl
theorem NL (w:Yc) (a:OsState):clsSeenW qv lv (hS w a)=clsGoodW qv lv:=by kernel_rfl
abbrev De:RowW:=PySem.Challenge.rw_pd0113_01.row.toRowW
theorem NM {a:List WData} (qb:De.claim.pre a=true):∃b,a=[.list b]∧WShape.hasItems [] b .int=true∧b.length≤63:=by
 obtain ⟨h,g⟩:=pre_splitW qb
 have e:WShape.hasAll [] a [.list .int]=true:=h
 obtain ⟨d,r,rfl,i,f⟩:=hasAllW_cons e
 obtain rfl:=hasAllW_nil f
 obtain ⟨b,rfl,hx⟩:=hasW_list i
 refine ⟨b,rfl,hx,?_⟩
 have c:(WTm.and (.not (.lt (.lit (.int 63)) (.len (.arg 0)))) (.lit (.bool true))).holds [] {args:=[.list b]}=true:=g
 have j:¬((63:Int)<(b.length:Int)):=by
  intro q
  simp [WTm.holds,WTm.value,less?,Num.less?,q] at c
 lia
theorem Df {P:Params} {h:Heap}:∀{vs:Yb} {e:List WData},WellAll P h vs e→WShape.hasItems [] e .int=true→∃c:List da,vs=c.map cA∧c.length=e.length
 | _,_,.nil,_=>⟨[],rfl,rfl⟩
 | _,_,.cons (v:=v) (vs:=vs) (d:=d) (ds:=ds) a b,x=>by
  have k:(WShape.has [] d .int&&WShape.hasItems [] ds .int)=true:=x
  obtain ⟨j,f⟩:=Bool.and_eq_true_iff.mp k
  obtain ⟨i,rfl⟩:=hasW_int j
  obtain ⟨c,rfl,g⟩:=Df b f
  cases a with
  | int i t=>exact ⟨(i,t)::c,rfl,congrArg (· + 1) g⟩
def dk:DefRec×List (PySem.Str×Expr):=(defOf qv PySem.Challenge.rw_pd0113_01.name).getD (⟨⟨#[]⟩,default,[],default,default⟩,[])
theorem NN:defOf qv PySem.Challenge.rw_pd0113_01.row.name=some (dk.1,dk.2):=by kernel_rfl
theorem NO:dk.1.name=ic:=by kernel_rfl
theorem NP {i:PySem.Str→Option Yd} {w:Yc} {d c:Shared} (e:d.heap=hH w) (t:∀b o,d.heap.get? b=some o→c.heap.get? b=some o) (s:c.heap.Ns mainGlobals i) {a:Addr} (g:i ic=some (.ref a)):a=291:=by
 obtain ⟨o,f,p,j,n,_,k⟩:=s
 have z:c.heap.get? mainGlobals=some (mQ w.params):=t _ _ (by rw [e];exact (abs_get (o:=mQ w.params) (by decide +kernel) (by kernel_rfl)).trans (by kernel_rfl))
 rw [z] at j
 cases j
 rw [←k] at g
 have h:(mQ w.params).data = .dict f p:=n
 have q:(match (mQ w.params).data with | .dict f _=>nsFind f ic | _=>none)=some (.ref 291):=by kernel_rfl
 rw [h] at q
 have m:nsFind f ic=some (.ref 291):=q
 rw [m] at g
 cases g
 rfl
theorem NQ {w:Yc} {a c:Shared} (e:a.heap=hH w) (d:∀b o,a.heap.get? b=some o→c.heap.get? b=some o) (le:a.heap.objs.size≤c.heap.objs.size):(B0 w).In c.heap:=by
 refine ⟨fun b o q=>d b o ?_,?_⟩
 ·rw [e];exact MQ w b o q
 ·have z:a.heap.objs.size=292:=by rw [e];exact absHeap_size _ _ _
  show 292≤_
  lia
theorem NR:WalkX qv lv (XL qv []) (fun s=>s.heap) hH De dk.1 dk.2 fun f p=>PySem.call f p:=by
 intro w b e R V G Y a o pm cd F dV kV U S u Z d c q t I L qb n i k z
 obtain ⟨X,rfl,hx,B⟩:=NM qb
 rw [NO] at d
 obtain rfl:a=291:=NP Y L.keeps G.T.g d
 cases k with
 | cons O N=>
  cases N with
  | nil=>
   cases O with
   | list E y=>
    rename_i x p
    obtain ⟨H,rfl,j⟩:=Df y hx
    have m:x∈I:=by
     cases i with
     | cons P r2=>cases P with | list=>exact List.mem_append_left _ (.head _)
    have Q:b.heap.objs.size=292:=by
     have K:b.heap=hH w:=Y
     rw [K];exact absHeap_size _ _ _
    have g:=(L.within.2.2 x m).1
    have D:=MT w e H (j▸B) x E (Q▸g) (NQ Y L.keeps L.within.1)
    refine D _ _ fun T J A C=>GoodW.toG ⟨.inl ⟨.bool true,.bool true,[],rfl,fun _=>rfl,.bool true,by kernel_rfl,fun _=>⟨List.nodup_nil,fun _ h=>by cases h⟩⟩,J,A,C.trans c⟩
theorem NS:LeftO pw qv lv Dd (fun s=>s.heap) hH 30000:=
 LeftO.of_pieces (H₀ := fun P=>absHeap (iP P) 28 {}) (H₁ := fun P=>absHeap (jp P) 292 {}) NC Nf ND (by decide +kernel) fun w=>funext fun a=>by
  show (_,(_,_,_,_,_,_,_,_,_),_)=_
  exact Prod.ext (NE w a) (Prod.ext (Prod.ext (hk1 w a) (Prod.ext (hk2 w a) (Prod.ext (NF w a) (Prod.ext (NG w a) (Prod.ext (NH w a) (Prod.ext (NI w a) (Prod.ext (NJ w a) (Prod.ext (NK w a) (NL w a))))))))) rfl)
theorem law_row (a:PySem.Challenge.rw_pd0113_01.row.wellSaid=true):PySem.Challenge.rw_pd0113_01.row.Holds:=
 holds_openX (r:=PySem.Challenge.rw_pd0113_01.row) (q:=qv) (XP:=XL qv []) (d:=dk.1) (kwd:=dk.2) NS (fun s e=>xl_of s (Bool.and_eq_true_iff.mp e).1) XL.keeps NN (by kernel_rfl) (by kernel_rfl) (fun s e=>recFacts_of (Bool.and_eq_true_iff.mp e).2) rfl a (by kernel_rfl) ⟨rfl,rfl,rfl,rfl,rfl,by decide +kernel⟩ ⟨[.list [.int 1]],by decide +kernel,by decide +kernel⟩ NR
abbrev gS:=PySem.Challenge.rw_pd0113_01
theorem NT:namesResolve gS.row.prog=true:=by kernel_rfl
theorem NU:(["vars","dir","locals"]:Yg).filter (readsOut gS.prog gS.prog.main.body)=[]:=by kernel_rfl
theorem NV:noRoadLSs {strict := !(importedModules gS.prog.main.body).all cThrough.contains,foot:=none,bare:=[]} gS.prog.main.body=true:=by kernel_rfl
theorem NW:noRoadLSs {strict := !(importedModules gS.prog.main.body).all cThrough.contains,foot:=none,bare:=(["vars","dir","locals"]:Yg).filter (readsOut gS.prog gS.prog.main.body)} gS.prog.main.body=true:=by
 rw [NU]
 exact NV
theorem NX:namesMeet gS.prog gS.prog.main.body (fun _ n=>attrL n)=true:=by kernel_rfl
theorem NY:looksOpen gS.row.prog=true:=look_both (look_both (look_both (look_both (look_both (by kernel_rfl) (by kernel_rfl)) NT) (by kernel_rfl)) NW) NX
theorem NZ:gS.row.wellSaid=true:=by
 unfold OpenRow.wellSaid OpenRow.partSaid
 repeat' with_reducible apply look_both
 exact NY
 all_goals kernel_rfl
theorem said0:PySem.Challenge.rw_pd0113_01.wellSaid=true:=by
 unfold OpenLaw.wellSaid
 repeat' with_reducible apply look_both
 exact NZ
 all_goals kernel_rfl
end
end Mine
theorem PySem.Challenge.cw_pd0113_01_holds : PySem.Challenge.rw_pd0113_01.Holds := by
  exact PySem.W.holds_law Mine.said0 Mine.law_row
