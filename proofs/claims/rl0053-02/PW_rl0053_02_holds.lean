import PyProof.Rows.All
import Wide.All
import OpenK.AllK
import Wide.FinOn
import Lean
import PySem.Challenge.RW_rl0053_02
open PySem PySem.W PyProof.Rows
set_option Elab.async false
set_option maxRecDepth 100000
set_option maxHeartbeats 0
set_option linter.all false
set_option linter.unusedVariables false
set_option genSizeOf false
namespace Mine
open PySem.Sem (wp)
structure Con where
 c:Code
 need:List (Addr×Obj)
 give:(Nat→Nat)→List Obj
 new:(Nat→Nat)→List (Addr×Obj)
 res:(Nat→Nat)→Result
noncomputable abbrev Sg:=Nat→Nat→Nat
structure OV where
 den:Code→Sem Fin
 kt:Addr→Option Obj
 set:Setting
 alt:Code→Option (Sem Fin×Code)
 top:Nat
inductive It where
 | a (x:Addr)
 | c (x:Code)
 | o (x:Obj)
 | k (x:List (Code×Pos)→Sem Fin)
noncomputable abbrev Fam:=Code→List (Addr×Obj)→List (Nat→Nat)→Option (Con×List (It×It))
structure Use where
 at_:Nat
 fam:Fam
 places:List Nat
 top:Bool
noncomputable def uS (n:Nat) (f:Fam) (l:List Nat):Use:=⟨n,f,l,false⟩
noncomputable def hD:Nat→Nat→List Nat
 | 0,_=>[]
 | k+1,n=>Nat.mod n 64::hD k (Nat.div n 64)
structure OS where
 old:List (Addr×Obj)
 new:List (Addr×Obj)
 al:Nat
 N:Nat
 T:Nat
 hs:List Nat
 en:Nat
 us:List Use
 ac:List It
 ex:List It
 gs:List (Nat×GenState)
 px:List (Nat→Nat)
noncomputable def obind {α β:Type} (o:Option α) (f:α→Option β):Option β:=match o with
 | some x=>f x
 | none=>none
noncomputable def bbind {β:Type} (b:Bool) (o:Option β):Option β:=match b with
 | true=>o
 | false=>none
noncomputable def nth:List (Addr×Obj)→Nat→Option (Addr×Obj)
 | [],_=>none
 | x::l,n=>match n with
  | 0=>some x
  | n+1=>nth l n
noncomputable def put:List (Addr×Obj)→Nat→Obj→List (Addr×Obj)
 | [],_,_=>[]
 | x::l,n,o=>match n with
  | 0=>(x.1,o)::l
  | n+1=>x::put l n o
noncomputable def findIn (old new:List (Addr×Obj)) (al h:Nat):Option (Addr×Obj):=match Nat.beq (h % 2) 1 with
 | true=>nth old (h / 2)
 | false=>match Nat.ble (h / 2) al with
  | true=>nth new (al-h / 2)
  | false=>none
noncomputable def oldPut (old:List (Addr×Obj)) (h:Nat) (o:Obj):List (Addr×Obj):=match Nat.beq (h % 2) 1 with
 | true=>put old (h / 2) o
 | false=>old
noncomputable def newPut (new:List (Addr×Obj)) (al h:Nat) (o:Obj):List (Addr×Obj):=match Nat.beq (h % 2) 1 with
 | true=>new
 | false=>put new (al-h / 2) o
noncomputable def loadAt (V:OV) (a:Addr) (st:OS):Option (Obj×OS):=match st with
 | ⟨old,new,al,N,T,hs,en,us,ac,ex,gs,px⟩=>match hs with
  | []=>none
  | h::hs=>match h with
   | 0=>obind (V.kt a) fun o=>some (o,⟨old,new,al,N,T,hs,en,us,ac,ex,gs,px⟩)
   | j+1=>obind (findIn old new al (j+1)) fun q=>some (q.2,⟨old,new,al,N,T,hs,en,us,.a a::ac,.a q.1::ex,gs,px⟩)
noncomputable def updAt (a:Addr) (f:Obj→Obj) (st:OS):Option OS:=match st with
 | ⟨old,new,al,N,T,hs,en,us,ac,ex,gs,px⟩=>match hs with
  | []=>none
  | h::hs=>match h with
   | 0=>none
   | j+1=>obind (findIn old new al (j+1)) fun q=>bbind (!(f q.2).isFreed) (some ⟨oldPut old (j+1) (f q.2),newPut new al (j+1) (f q.2),al,N,T,hs,en,us,.a a::ac,.a q.1::ex,gs,px⟩)
noncomputable def needAt (places:List Nat) (need:List (Addr×Obj)) (old new:List (Addr×Obj)) (al:Nat) (ac ex:List It):Option (List It×List It):=match need with
 | []=>some (ac,ex)
 | q::need=>match places with
  | []=>none
  | h::places=>match findIn old new al h with
   | some r=>needAt places need old new al (.a r.1::.o r.2::ac) (.a q.1::.o q.2::ex)
   | none=>none
noncomputable def giveOld (places:List Nat) (give:List Obj) (old:List (Addr×Obj)):List (Addr×Obj):=match places with
 | []=>old
 | h::places=>match give with
  | []=>old
  | o::give=>giveOld places give (oldPut old h o)
noncomputable def giveNew (places:List Nat) (give:List Obj) (new:List (Addr×Obj)) (al:Nat):List (Addr×Obj):=match places with
 | []=>new
 | h::places=>match give with
  | []=>new
  | o::give=>giveNew places give (newPut new al h o) al
noncomputable def apart:List Nat→Bool
 | []=>true
 | h::l=>match l.all fun x=>!(Nat.beq x h) with
  | true=>apart l
  | false=>false
noncomputable def seeAt (places:List Nat) (old new:List (Addr×Obj)) (al:Nat):Option (List (Addr×Obj)):=match places with
 | []=>some []
 | h::places=>match findIn old new al h with
  | some r=>match seeAt places old new al with
   | some l=>some (r::l)
   | none=>none
  | none=>none
noncomputable def dueL:List (It×It)→List It→List It
 | [],l=>l
 | q::d,l=>q.1::dueL d l
noncomputable def dueR:List (It×It)→List It→List It
 | [],l=>l
 | q::d,l=>q.2::dueR d l
noncomputable def allFin:List (Nat×GenState)→Bool
 | []=>true
 | q::l=>match q.2 with
  | .finished=>allFin l
  | _=>false
noncomputable def useIt (top:Nat) (root:Bool) (c:Code) (sg:Sg) (u:Use) (us:List Use) (old new:List (Addr×Obj)) (al N T:Nat) (hs:List Nat) (en:Nat) (ac ex:List It) (gs:List (Nat×GenState)) (px:List (Nat→Nat)):Option (Option (Result×OS×Sg)×OS) :=
 bbind ((!u.top||(root&&allFin gs))&&apart u.places) (obind (seeAt u.places old new al) fun objs=>obind (u.fam c objs px) fun cd=>obind (needAt u.places cd.1.need old new al (.c c::dueL cd.2 ac) (.c cd.1.c::dueR cd.2 ex)) fun ax =>
  some (some (cd.1.res (fun j=>sg 0 (j+2)),⟨giveOld u.places (cd.1.give fun j=>sg 0 (j+2)) old,cd.1.new (fun j=>sg 0 (j+2))++giveNew u.places (cd.1.give fun j=>sg 0 (j+2)) new al,(cd.1.new fun j=>sg 0 (j+2)).length+al,sg 0 0+top,sg 0 1,hs,en+1,us,ax.1,ax.2,gs,(fun j=>sg 0 (j+2))::px⟩,fun i=>sg (i+1)),⟨old,new,al,N,T,hs,en,us,ac,ex,gs,px⟩))
noncomputable def useAt (top:Nat) (root:Bool) (c:Code) (sg:Sg) (st:OS):Option (Option (Result×OS×Sg)×OS):=match st with
 | ⟨old,new,al,N,T,hs,en,us,ac,ex,gs,px⟩=>match us with
  | []=>some (none,⟨old,new,al,N,T,hs,en+1,us,ac,ex,gs,px⟩)
  | u::us'=>match Nat.beq u.at_ en with
   | false=>some (none,⟨old,new,al,N,T,hs,en+1,us,ac,ex,gs,px⟩)
   | true=>useIt top root c sg u us' old new al N T hs en ac ex gs px
noncomputable def qIn (v:Value) (d:Str) (k:Str→Sem Fin):Sem Fin:=match v with
 | .str q _=>k q
 | _=>k d
noncomputable def qOf (c:Value) (d:Str) (k:Str→Sem Fin):Sem Fin:=match c with
 | .none=>k d
 | c=>do qIn (← field c 1) d k
noncomputable def lastOf (fd:FuncData) (env:Env):Sem Fin:=again (match fd.body with
  | .stmts b=>.func b env
  | .expr e=>.expr e env)
noncomputable def callNE (a:Addr) (fd:FuncData) (args:Args):Sem Fin:=qOf fd.code fd.qualname fun q=>do
 let env ← newFunctionEnv fd.scope fd.globals fd.closure (← bindArgs fd args) (q++".<locals>.") (some a) fd.code none fd.builtins
 lastOf fd env
noncomputable def due (c c':Code) (st:OS):OS:=match st with
 | ⟨old,new,al,N,T,hs,en,us,ac,ex,gs,px⟩=>⟨old,new,al,N,T,hs,en,us,.c c::ac,.c c'::ex,gs,px⟩
noncomputable def callee:Code→Option (Addr×Args)
 | .call (.ref a) args=>some (a,args)
 | _=>none
noncomputable def funcD:Data→Option FuncData
 | .func fd=>some fd
 | _=>none
noncomputable def treeOf (V:OV) (c:Code) (st:OS):Option (Sem Fin×OS):=match callee c with
 | some q=>obind (loadAt V q.1 (due c (.call (.ref q.1) q.2) st)) fun y=>match funcD y.1.data with
   | some fd=>bbind (!(fd.scope.isGenerator||fd.scope.isCoroutine)) (some (callNE q.1 fd q.2,y.2))
   | none=>some (V.den c,st)
 | none=>match V.alt c with
  | some q=>some (q.1,due c q.2 st)
  | none=>some (V.den c,st)
inductive Frm where
 | ret (Γ:Ctx) (p:Pos) (k:Result→Sem Fin)
 | gen (Γ:Ctx) (p:Pos) (i h:Nat) (k:GenResult→Sem Fin)
noncomputable def gNth:List (Nat×GenState)→Nat→Option (Nat×GenState)
 | [],_=>none
 | x::l,n=>match n with
  | 0=>some x
  | n+1=>gNth l n
noncomputable def gPut:List (Nat×GenState)→Nat→GenState→List (Nat×GenState)
 | [],_,_=>[]
 | x::l,n,g=>match n with
  | 0=>(x.1,g)::l
  | n+1=>x::gPut l n g
noncomputable def setG (st:OS) (i h:Nat) (g:GenState):Option OS:=match st with
 | ⟨old,new,al,N,T,hs,en,us,ac,ex,gs,px⟩=>obind (gNth gs h) fun q=>some ⟨old,new,al,N,T,hs,en,us,.a i::ac,.a q.1::ex,gPut gs h g,px⟩
noncomputable def findG (i:Nat) (st:OS):Option (Nat×GenState×OS):=match st with
 | ⟨old,new,al,N,T,hs,en,us,ac,ex,gs,px⟩=>match hs with
  | []=>none
  | h::hs=>obind (gNth gs h) fun q=>some (h,q.2,⟨old,new,al,N,T,hs,en,us,.a i::ac,.a q.1::ex,gs,px⟩)
noncomputable abbrev Out:=Option (Result×OS)
noncomputable abbrev EvTy:=Ctx→List Frm→Sem Fin→Pos→Sg→OS→Out
noncomputable def light (c:Code):Bool:=match Nat.ble c.weight 2 with
 | true=>Nat.ble c.cUnits 4
 | false=>false
noncomputable def retTo (ih:EvTy) (κ:List Frm) (r:Result) (sg:Sg) (st:OS):Out:=match κ with
 | []=>some (r,st)
 | f::κ=>match f with
  | .ret Γ p k=>ih Γ κ (k r) p sg st
  | .gen Γ p i h k=>obind (setG st i h .finished) fun st'=>ih Γ κ (k (End.ret r).result) p sg st'
noncomputable def floor (ih:EvTy) (Γ:Ctx) (κ:List Frm) (t:Sem Fin) (p:Pos) (sg:Sg) (st:OS):Out:=bbind (light Γ.code) (ih Γ κ t p sg st)
noncomputable def onFloor:List Frm→Bool
 | .gen ..::_=>true
 | _=>false
noncomputable def enter (V:OV) (ih:EvTy) (Γ:Ctx) (κ:List Frm) (p:Pos) (sg:Sg) (st:OS):Out:=bbind (light Γ.code) (obind (useAt V.top κ.isEmpty Γ.code sg st) fun u=>match u.1 with
   | some x=>retTo ih κ x.1 x.2.2 x.2.1
   | none=>obind (treeOf V Γ.code u.2) fun y=>ih Γ κ y.1 p sg y.2)
noncomputable def deep:Nat:=40
noncomputable def roomWord:Nat→String
 | 0=>"recursion.c-limit:near:comparison"
 | 1=>"recursion.c-limit:near:call"
 | 2=>"recursion.c-limit:near:str"
 | 3=>"recursion.c-limit:near:repr"
 | _=>"recursion.c-limit:near:hash"
noncomputable def roomK (what:String) (t:Sem Fin) (l:List (Code×Pos)):Sem Fin:=if (l.map (·.1.cUnits)).sum≥cLine then .unsupported what else t
noncomputable def wakes (V:OV) (ih:EvTy) (Γ:Ctx) (κ:List Frm) (g j:Nat) (gst:GenState) (r:Resume) (k:GenResult→Sem Fin) (p:Pos) (sg:Sg) (st':OS):Out:=match gst with
 | .fresh c=>match r with
  | .send v=>match v with
   | .none=>floor ih (Γ.wake c p) (.gen Γ p g j k::κ) (V.den c) p sg st'
   | _=>none
  | _=>none
 | .suspended k₀ _ c₀ p₀ fs _=>match fs with
  | []=>floor ih (Γ.wake c₀ p) (.gen Γ p g j k::κ) (k₀ r) p₀ sg st'
  | _::_=>none
 | _=>none
noncomputable def evStep (V:OV) (ih:EvTy):EvTy:=fun Γ κ t p sg st=>match t with
 | .pure fin=>match fin with
  | .done f=>retTo ih κ (.ok f) sg st
  | .again c=>bbind c.quiet (match onFloor κ with
   | true=>floor ih (Γ.goto c) κ (V.den c) p sg st
   | false=>enter V ih (Γ.goto c) κ p sg st)
 | .raise e=>retTo ih κ (.error e) sg st
 | .rule _ k=>ih Γ κ (k ()) p sg st
 | .at p' k=>ih Γ κ (k ()) p' sg st
 | .point _ k=>ih Γ κ (k ()) p sg st
 | .ask k=>ih Γ κ (k V.set) p sg st
 | .load a _ k=>obind (loadAt V a st) fun y=>ih Γ κ (k y.1) p sg y.2
 | .loadIfAlive a k=>obind (loadAt V a st) fun y=>ih Γ κ (k (some y.1)) p sg y.2
 | .update a _ f k=>obind (updAt a f st) fun st'=>ih Γ κ (k ()) p sg st'
 | .alloc o k=>bbind (!o.isFreed) (match st with
   | ⟨old,new,al,N,T,hs,en,us,ac,ex,gs,px⟩=>ih Γ κ (k N) p sg ⟨old,(N,o)::new,al+1,N+1,T,hs,en,us,ac,ex,gs,px⟩)
 | .fresh k=>match st with
  | ⟨old,new,al,N,T,hs,en,us,ac,ex,gs,px⟩=>ih Γ κ (k T) p sg ⟨old,new,al,N,T+1,hs,en,us,ac,ex,gs,px⟩
 | .handled own k=>match own with
  | true=>none
  | false=>ih Γ κ (k Γ.handled) p sg st
 | .stack k=>match st with
  | ⟨old,new,al,N,T,hs,en,us,ac,ex,gs,px⟩=>match hs with
   | []=>none
   | h::hs=>match h with
    | 0=>ih Γ κ (k ((Γ.code,p)::Γ.below)) p sg ⟨old,new,al,N,T,hs,en,us,ac,ex,gs,px⟩
    | h+1=>ih Γ κ (k []) p sg ⟨old,new,al,N,T,hs,en,us,.k k::ac,.k (roomK (roomWord h) (k []))::ex,gs,px⟩
 | .call c hd _ _ k=>match hd with
  | some _=>none
  | none=>bbind (Nat.ble κ.length deep) (enter V ih (Γ.enter c none p) (.ret Γ p k::κ) p sg st)
 | .newGen c k=>match st with
  | ⟨old,new,al,N,T,hs,en,us,ac,ex,gs,px⟩=>ih Γ κ (k (sg 0 0)) p (fun i=>sg (i+1)) ⟨old,new,al,N,T,hs,en,us,ac,ex,gs++[(sg 0 0,.fresh c)],px⟩
 | .genState g k=>obind (findG g st) fun y=>ih Γ κ (k y.2.1.seen) p sg y.2.2
 | .resume g r _ k=>bbind (Nat.ble κ.length deep) (obind (findG g st) fun y=>obind (setG y.2.2 g y.1 .running) fun st'=>wakes V ih Γ κ g y.1 y.2.1 r k p sg st')
 | .yield v gd l k=>match gd with
  | true=>none
  | false=>match κ with
   | .gen Γ₁ p₁ i h k₁::κ=>obind (setG st i h (.suspended k l Γ.code p [] false)) fun st'=>ih Γ₁ κ (k₁ (.yielded v)) p₁ sg st'
   | _=>none
 | _=>none
noncomputable def ev (V:OV):Nat→EvTy
 | 0=>fun _ _ _ _ _ _=>none
 | n+1=>evStep V (ev V n)
noncomputable def fuel:Nat:=1000000
noncomputable def evCode0 (V:OV) (Γ:Ctx) (p:Pos) (sg:Sg) (st:OS):Out:=bbind (light Γ.code) (obind (treeOf V Γ.code st) fun y=>ev V fuel Γ [] y.1 p sg y.2)
noncomputable def finOf (o:Out):Out:=match o with
 | none=>none
 | some x=>match allFin x.2.gs with
  | true=>some x
  | false=>none
noncomputable def evCode (V:OV) (Γ:Ctx) (p:Pos) (sg:Sg) (st:OS):Out:=finOf (evCode0 V Γ p sg st)
end Mine
set_option genInjectivity false
namespace Mine
open PySem.Sem (wp)
theorem oget {α β:Type} {o:Option α} {f:α→Option β} {b:β} (e:obind o f=some b):∃ y,o=some y∧f y=some b:=by
 cases o with
 | none=>cases e
 | some y=>exact ⟨y,rfl,e⟩
theorem bget {β:Type} {c:Bool} {o:Option β} {b:β} (e:bbind c o=some b):c=true∧o=some b:=by
 cases c with
 | false=>cases e
 | true=>exact ⟨rfl,e⟩
theorem pget {α β:Type} {a c:α} {b d:β} (e:some (a,b)=some (c,d)):a=c∧b=d:=Prod.mk.inj (Option.some.inj e)
noncomputable def OS.led (st:OS):List (Addr×Obj):=st.old++st.new
noncomputable def OS.good (st:OS):Prop:=st.ac=st.ex
theorem nth_split:∀ {l:List (Addr×Obj)} {n:Nat} {q:Addr×Obj},nth l n=some q→∃ l₁ l₂,l=l₁++q::l₂∧∀ o,put l n o=l₁++(q.1,o)::l₂
 | [],_,_,h=>by cases h
 | x::l,0,q,h=>by cases h; exact ⟨[],l,rfl,fun _=>rfl⟩
 | x::l,n+1,q,h=>by
  obtain ⟨l₁,l₂,e,f⟩:=nth_split (l:=l) (n:=n) h
  exact ⟨x::l₁,l₂,by rw [e]; rfl,fun o=>by show x::put l n o=_; rw [f]; rfl⟩
theorem find_split {old new:List (Addr×Obj)} {al h:Nat} {q:Addr×Obj} (e:findIn old new al h=some q):∃ l₁ l₂,old++new=l₁++q::l₂∧∀ o,oldPut old h o++newPut new al h o=l₁++(q.1,o)::l₂:=by
 unfold findIn at e
 unfold oldPut newPut
 cases b:Nat.beq (h % 2) 1 with
 | true =>
  rw [b] at e
  obtain ⟨l₁,l₂,e₁,f⟩:=nth_split e
  exact ⟨l₁,l₂++new,by rw [e₁,List.append_assoc]; rfl,fun o=>by show put old (h / 2) o++new=_; rw [f,List.append_assoc]; rfl⟩
 | false =>
  rw [b] at e
  dsimp only at e
  split at e
  case h_2=>cases e
  obtain ⟨l₁,l₂,e₁,f⟩:=nth_split e
  exact ⟨old++l₁,l₂,by rw [e₁,List.append_assoc],fun o=>by show old++put new (al-h / 2) o=_; rw [f,List.append_assoc]⟩
noncomputable def Ext (st st':OS):Prop:=∃ l l':List It,st'.ac=l++st.ac∧st'.ex=l'++st.ex∧l.length=l'.length
theorem Ext.refl (st:OS):Ext st st:=⟨[],[],rfl,rfl,rfl⟩
theorem Ext.trans {a b c:OS} (x:Ext a b) (y:Ext b c):Ext a c:=by
 obtain ⟨l,l',e,f,g⟩:=x
 obtain ⟨k,k',e',f',g'⟩:=y
 exact ⟨k++l,k'++l',by rw [e',e,List.append_assoc],by rw [f',f,List.append_assoc],by rw [List.length_append,List.length_append,g,g']⟩
theorem Ext.good {a b:OS} (x:Ext a b) (g:b.good):a.good:=by
 obtain ⟨l,l',e,f,n⟩:=x
 unfold OS.good at g
 rw [e,f] at g
 exact (List.append_inj g n).2
theorem loadAt_ext {V:OV} {a:Addr} {st st':OS} {o:Obj} (e:loadAt V a st=some (o,st')):Ext st st':=by
 obtain ⟨old,new,al,N,T,hs,en,us,ac,ex,gs,px⟩:=st
 cases hs with
 | nil=>cases e
 | cons h hs =>
  cases h with
  | zero =>
   obtain ⟨o',_,e⟩:=oget (o:=V.kt a) e
   obtain ⟨_,rfl⟩:=pget e
   exact ⟨[],[],rfl,rfl,rfl⟩
  | succ j =>
   obtain ⟨q,_,e⟩:=oget (o:=findIn old new al (j+1)) e
   obtain ⟨_,rfl⟩:=pget e
   exact ⟨[.a a],[.a q.1],rfl,rfl,rfl⟩
theorem updAt_ext {a:Addr} {f:Obj→Obj} {st st':OS} (e:updAt a f st=some st'):Ext st st':=by
 obtain ⟨old,new,al,N,T,hs,en,us,ac,ex,gs,px⟩:=st
 cases hs with
 | nil=>cases e
 | cons h hs =>
  cases h with
  | zero=>cases e
  | succ j =>
   obtain ⟨q,_,e⟩:=oget (o:=findIn old new al (j+1)) e
   have e:=Option.some.inj (bget e).2
   subst e
   exact ⟨[.a a],[.a q.1],rfl,rfl,rfl⟩
theorem needAt_ext {old new:List (Addr×Obj)} {al:Nat}:∀ {need:List (Addr×Obj)} {places:List Nat} {ac ex ac' ex':List It},needAt places need old new al ac ex=some (ac',ex')→∃ l l':List It,ac'=l++ac∧ex'=l'++ex∧l.length=l'.length
 | [],places,ac,ex,ac',ex',e=>by
  simp only [needAt] at e
  cases e; exact ⟨[],[],rfl,rfl,rfl⟩
 | q::need,[],ac,ex,ac',ex',e=>by simp only [needAt] at e; cases e
 | q::need,h::places,ac,ex,ac',ex',e=>by
  simp only [needAt] at e
  split at e
  ·rename_i r _
   obtain ⟨l,l',e1,e2,e3⟩:=needAt_ext (need:=need) (places:=places) e
   exact ⟨l++[.a r.1,.o r.2],l'++[.a q.1,.o q.2],by rw [e1,List.append_assoc]; rfl,by rw [e2,List.append_assoc]; rfl,by rw [List.length_append,List.length_append,e3]; rfl⟩
  ·cases e
theorem due_ext:∀ (d:List (It×It)) (ac ex:List It),∃ l l':List It,dueL d ac=l++ac∧dueR d ex=l'++ex∧l.length=l'.length
 | [],ac,ex=>⟨[],[],rfl,rfl,rfl⟩
 | q::d,ac,ex=>by
  obtain ⟨l,l',a,b,c⟩:=due_ext d ac ex
  exact ⟨q.1::l,q.2::l',by show q.1::dueL d ac=_; rw [a]; rfl,by show q.2::dueR d ex=_; rw [b]; rfl,by rw [List.length_cons,List.length_cons,c]⟩
theorem useAt_skip {top:Nat} {root:Bool} {c:Code} {sg:Sg} {old new:List (Addr×Obj)} {al N T:Nat} {hs:List Nat} {en:Nat} {u:Use} {us:List Use} {ac ex:List It} {gs:List (Nat×GenState)} {px:List (Nat→Nat)} (b:Nat.beq u.at_ en=false) :
  useAt top root c sg ⟨old,new,al,N,T,hs,en,u::us,ac,ex,gs,px⟩=some (none,⟨old,new,al,N,T,hs,en+1,u::us,ac,ex,gs,px⟩):=by
 unfold useAt
 dsimp only
 rw [b]
theorem useAt_use {top:Nat} {root:Bool} {c:Code} {sg:Sg} {old new:List (Addr×Obj)} {al N T:Nat} {hs:List Nat} {en:Nat} {u:Use} {us:List Use} {ac ex:List It} {gs:List (Nat×GenState)} {px:List (Nat→Nat)} (b:Nat.beq u.at_ en=true) :
  useAt top root c sg ⟨old,new,al,N,T,hs,en,u::us,ac,ex,gs,px⟩=useIt top root c sg u us old new al N T hs en ac ex gs px:=by
 unfold useAt
 dsimp only
 rw [b]
theorem useAt_ext {top:Nat} {root:Bool} {c:Code} {sg:Sg} {st st':OS} {u:Option (Result×OS×Sg)} (e:useAt top root c sg st=some (u,st')):Ext st st'∧∀ x,u=some x→Ext st x.2.1:=by
 obtain ⟨old,new,al,N,T,hs,en,us,ac,ex,gs,px⟩:=st
 cases us with
 | nil =>
  obtain ⟨rfl,rfl⟩:=pget e
  exact ⟨⟨[],[],rfl,rfl,rfl⟩,fun x h=>nomatch h⟩
 | cons v us =>
  cases b:Nat.beq v.at_ en with
  | false =>
   rw [useAt_skip b] at e
   obtain ⟨rfl,rfl⟩:=pget e
   exact ⟨⟨[],[],rfl,rfl,rfl⟩,fun x h=>nomatch h⟩
  | true =>
   rw [useAt_use b] at e
   obtain ⟨objs,_,e⟩:=oget (bget e).2
   obtain ⟨⟨C,d⟩,_,e⟩:=oget e
   obtain ⟨⟨ac',ex'⟩,hn,e⟩:=oget e
   obtain ⟨rfl,rfl⟩:=pget e
   refine ⟨⟨[],[],rfl,rfl,rfl⟩,fun x h=>?_⟩
   have h:=Option.some.inj h
   subst h
   obtain ⟨l,l',e1,e2,e3⟩:=needAt_ext hn
   obtain ⟨m,m',d1,d2,d3⟩:=due_ext d ac ex
   rw [d1] at e1
   rw [d2] at e2
   exact ⟨l++(.c c::m),l'++(.c C.c::m'),by show ac'=_; rw [e1,List.append_assoc]; rfl,by show ex'=_; rw [e2,List.append_assoc]; rfl,by rw [List.length_append,List.length_append,List.length_cons,List.length_cons,e3,d3]⟩
theorem due_ext' (c c':Code) (st:OS):Ext st (due c c' st):=by
 obtain ⟨old,new,al,N,T,hs,en,us,ac,ex,gs,px⟩:=st; exact ⟨[.c c],[.c c'],rfl,rfl,rfl⟩
theorem treeOf_ext {V:OV} {c:Code} {st:OS} {y:Sem Fin×OS} (e:treeOf V c st=some y):Ext st y.2:=by
 unfold treeOf at e
 split at e
 ·obtain ⟨z,x,e⟩:=oget e
  split at e
  ·have e:=Option.some.inj (bget e).2
   subst e
   exact (due_ext' ..).trans (loadAt_ext x)
  ·cases e; exact .refl _
 ·split at e
  ·cases e; exact due_ext' ..
  ·cases e; exact .refl _
theorem setG_ext {i h:Nat} {g:GenState} {st st':OS} (e:setG st i h g=some st'):Ext st st':=by
 obtain ⟨old,new,al,N,T,hs,en,us,ac,ex,gs,px⟩:=st
 obtain ⟨q,_,e⟩:=oget (o:=gNth gs h) e
 have e:=Option.some.inj e
 subst e
 exact ⟨[.a i],[.a q.1],rfl,rfl,rfl⟩
theorem findG_ext {i:Nat} {st:OS} {y:Nat×GenState×OS} (e:findG i st=some y):Ext st y.2.2:=by
 obtain ⟨old,new,al,N,T,hs,en,us,ac,ex,gs,px⟩:=st
 cases hs with
 | nil=>cases e
 | cons h hs =>
  obtain ⟨q,_,e⟩:=oget (o:=gNth gs h) e
  have e:=Option.some.inj e
  subst e
  exact ⟨[.a i],[.a q.1],rfl,rfl,rfl⟩
section
variable {V:OV}
theorem retTo_ext {ih:EvTy} (hi:∀ Γ κ t p sg st r st',ih Γ κ t p sg st=some (r,st')→Ext st st') {κ:List Frm} {r r':Result} {sg:Sg} {st st':OS} (e:retTo ih κ r sg st=some (r',st')):Ext st st':=by
 cases κ with
 | nil=>cases e; exact .refl _
 | cons f κ =>
  cases f with
  | ret Γ p k=>exact hi _ _ _ _ _ _ _ _ e
  | gen Γ p i h k =>
   obtain ⟨st₁,hs,e⟩:=oget (o:=setG st i h .finished) e
   exact (setG_ext hs).trans (hi _ _ _ _ _ _ _ _ e)
theorem floor_ext {ih:EvTy} (hi:∀ Γ κ t p sg st r st',ih Γ κ t p sg st=some (r,st')→Ext st st') {Γ:Ctx} {κ:List Frm} {t:Sem Fin} {p:Pos} {sg:Sg} {st st':OS} {r:Result} (e:floor ih Γ κ t p sg st=some (r,st')):Ext st st' :=
 hi _ _ _ _ _ _ _ _ (bget e).2
theorem enter_ext {ih:EvTy} (hi:∀ Γ κ t p sg st r st',ih Γ κ t p sg st=some (r,st')→Ext st st') {Γ:Ctx} {κ:List Frm} {p:Pos} {sg:Sg} {st st':OS} {r:Result} (e:enter V ih Γ κ p sg st=some (r,st')):Ext st st':=by
 obtain ⟨⟨u,st₁⟩,hu,e⟩:=oget (bget e).2
 cases u with
 | some x=>exact ((useAt_ext hu).2 x rfl).trans (retTo_ext hi e)
 | none =>
  obtain ⟨y,hy,e⟩:=oget (o:=treeOf V Γ.code st₁) e
  exact ((useAt_ext hu).1.trans (treeOf_ext hy)).trans (hi _ _ _ _ _ _ _ _ e)
theorem step_ext {ih:EvTy} (hi:∀ Γ κ t p sg st r st',ih Γ κ t p sg st=some (r,st')→Ext st st') {Γ:Ctx} {κ:List Frm} {p:Pos} {sg:Sg} {st:OS} {r:Result} {st':OS}:∀ t:Sem Fin,evStep V ih Γ κ t p sg st=some (r,st')→Ext st st'
 | .pure (.done _),e=>retTo_ext hi e
 | .pure (.again c),e=>by
  have e:=(bget e).2
  cases hf:onFloor κ with
  | true=>rw [hf] at e; exact floor_ext hi e
  | false=>rw [hf] at e; exact enter_ext hi e
 | .raise _,e=>retTo_ext hi e
 | .rule _ _,e=>hi _ _ _ _ _ _ _ _ e
 | .at _ _,e=>hi _ _ _ _ _ _ _ _ e
 | .point _ _,e=>hi _ _ _ _ _ _ _ _ e
 | .ask _,e=>hi _ _ _ _ _ _ _ _ e
 | .load a _ k,e=>by obtain ⟨y,x,e⟩:=oget e; exact (loadAt_ext x).trans (hi _ _ _ _ _ _ _ _ e)
 | .loadIfAlive a k,e=>by obtain ⟨y,x,e⟩:=oget e; exact (loadAt_ext x).trans (hi _ _ _ _ _ _ _ _ e)
 | .update a _ f k,e=>by obtain ⟨y,x,e⟩:=oget e; exact (updAt_ext x).trans (hi _ _ _ _ _ _ _ _ e)
 | .alloc o k,e=>by
  obtain ⟨old,new,al,N,T,hs,en,us,ac,ex,gs,px⟩:=st
  exact hi _ _ _ _ _ ⟨old,(N,o)::new,al+1,N+1,T,hs,en,us,ac,ex,gs,px⟩ _ _ (bget e).2
 | .fresh k,e=>by
  obtain ⟨old,new,al,N,T,hs,en,us,ac,ex,gs,px⟩:=st
  exact hi _ _ _ _ _ ⟨old,new,al,N,T+1,hs,en,us,ac,ex,gs,px⟩ _ _ e
 | .handled true _,e=>by cases e
 | .handled false _,e=>hi _ _ _ _ _ _ _ _ e
 | .stack k,e=>by
  obtain ⟨old,new,al,N,T,hs,en,us,ac,ex,gs,px⟩:=st
  cases hs with
  | nil=>cases e
  | cons h hs =>
   cases h with
   | zero=>exact hi _ _ _ _ _ ⟨old,new,al,N,T,hs,en,us,ac,ex,gs,px⟩ _ _ e
   | succ h=>exact Ext.trans (b:=⟨old,new,al,N,T,hs,en,us,.k k::ac,.k (roomK (roomWord h) (k []))::ex,gs,px⟩) ⟨[.k k],[.k (roomK (roomWord h) (k []))],rfl,rfl,rfl⟩ (hi _ _ _ _ _ _ _ _ e)
 | .call _ (some _) _ _ _,e=>by cases e
 | .call _ none _ _ _,e=>enter_ext hi (bget e).2
 | .unsupported _,e=>by cases e
 | .finish ..,e=>by cases e
 | .register ..,e=>by cases e
 | .choose ..,e=>by cases e
 | .os ..,e=>by cases e
 | .newGen c k,e=>by
  obtain ⟨old,new,al,N,T,hs,en,us,ac,ex,gs,px⟩:=st
  exact hi Γ κ (k (sg 0 0)) p (fun i=>sg (i+1)) ⟨old,new,al,N,T,hs,en,us,ac,ex,gs++[(sg 0 0,GenState.fresh c)],px⟩ r st' e
 | .genState g k,e=>by obtain ⟨y,x,e⟩:=oget e; exact (findG_ext x).trans (hi _ _ _ _ _ _ _ _ e)
 | .resume g r l k,e=>by
  obtain ⟨y,x,e⟩:=oget (bget e).2
  obtain ⟨st₁,x₁,e⟩:=oget e
  obtain ⟨j,gst,st₂⟩:=y
  have z:=(findG_ext x).trans (setG_ext x₁)
  cases gst with
  | fresh c=>cases r with
   | throw=>cases e
   | send v=>cases v<;>first | exact z.trans (floor_ext hi e) | cases e
  | suspended k₀ l₀ c₀ p₀ fs cl=>cases fs with
   | nil=>exact z.trans (floor_ext hi e)
   | cons=>cases e
  | _=>cases e
 | .yield _ true _ _,e=>by cases e
 | .yield v false l k,e=>by
  cases κ with
  | nil=>cases e
  | cons f κ=>cases f with
   | ret=>cases e
   | gen Γ₁ p₁ i h k₁=>obtain ⟨y,x,e⟩:=oget e; exact (setG_ext x).trans (hi _ _ _ _ _ _ _ _ e)
 | .fork ..,e=>by cases e
 | .thread ..,e=>by cases e
 | .await ..,e=>by cases e
theorem ev_ext:∀ (n:Nat) (Γ:Ctx) (κ:List Frm) (t:Sem Fin) (p:Pos) (sg:Sg) (st:OS) (r:Result) (st':OS),ev V n Γ κ t p sg st=some (r,st')→Ext st st'
 | 0,_,_,_,_,_,_,_,_,e=>by cases e
 | n+1,Γ,κ,t,p,sg,st,r,st',e=>step_ext (ev_ext n) t e
end
end Mine
namespace Mine
open PySem.Sem (wp)
noncomputable def Room (x:Nat) (Γ:Ctx):Prop:=Γ.handled=none∧frameCount Γ.below+2*x<recursionLimit∧unitsOf Γ.below+4*x<cLine
noncomputable def GensOk (g g':Array GenState):Prop:=∃ l:List GenState,g'=g++l.toArray∧∀ x∈l,x=GenState.finished
theorem GensOk.refl (g:Array GenState):GensOk g g:=⟨[],by simp,fun _ h=>nomatch h⟩
theorem GensOk.trans {a b c:Array GenState} (x:GensOk a b) (y:GensOk b c):GensOk a c:=by
 obtain ⟨l,rfl,h⟩:=x
 obtain ⟨m,rfl,k⟩:=y
 exact ⟨l++m,by simp [Array.append_assoc],fun z hz=>(List.mem_append.mp hz).elim (h z) (k z)⟩
structure After (C:Con) (s:Shared) (xs:Nat→Nat) (s':Shared):Prop where
 keep:∀ b o,s.heap.get? b=some o→b∉C.need.map (·.1)→s'.heap.get? b=some o
 len:(C.give xs).length=C.need.length
 give:∀ q∈(C.need.map (·.1)).zip (C.give xs),s'.heap.get? q.1=some q.2
 new:∀ q∈C.new xs,s'.heap.get? q.1=some q.2∧s.heap.objs.size≤q.1
 nd:((C.new xs).map (·.1)).Nodup
 gens:GensOk s.gens s'.gens
 drawn:s'.drawn=s.drawn
 os:s'.os=s.os
 size:s.heap.objs.size≤s'.heap.objs.size
noncomputable def Con.Ok (M:Model) (kt:Addr→Option Obj) (x:Nat) (C:Con):Prop :=
 ∀ (Γ:Ctx) (p:Pos) (s:Shared) (R:Result→Shared→Prop),Γ.code=C.c→Room x Γ→s.heap.NoLimit→(∀ a o,kt a=some o→s.heap.get? a=some o) →
  (∀ q∈C.need,s.heap.get? q.1=some q.2)→(∀ q∈C.need,kt q.1=none)→(C.need.map (·.1)).Nodup →
  (∀ xs s',After C s xs s'→R (C.res xs) s')→wpCode M Γ R p s
theorem gNth_split:∀ {l:List (Nat×GenState)} {n:Nat} {q:Nat×GenState},gNth l n=some q→∃ l₁ l₂,l=l₁++q::l₂∧∀ g,gPut l n g=l₁++(q.1,g)::l₂
 | [],_,_,h=>by cases h
 | x::l,0,q,h=>by cases h; exact ⟨[],l,rfl,fun _=>rfl⟩
 | x::l,n+1,q,h=>by
  obtain ⟨l₁,l₂,e,f⟩:=gNth_split (l:=l) (n:=n) h
  exact ⟨x::l₁,l₂,by rw [e]; rfl,fun g=>by show x::gPut l n g=_; rw [f]; rfl⟩
structure GRep (g₀ g:Array GenState) (gs:List (Nat×GenState)):Prop where
 size:g₀.size≤g.size
 old:∀ i,i<g₀.size→g[i]?=g₀[i]?
 led:∀ q∈gs,g[q.1]?=some q.2∧g₀.size≤q.1
 nd:(gs.map (·.1)).Nodup
 fin:∀ i,g₀.size≤i→i<g.size→i∉gs.map (·.1)→g[i]?=some .finished
theorem GRep.init (g:Array GenState):GRep g g []:=⟨Nat.le_refl _,fun _ _=>rfl,(fun _ h=>nomatch h),List.nodup_nil,fun _ h1 h2=>absurd h2 (Nat.not_lt.mpr h1)⟩
theorem GRep.use {g₀ g g':Array GenState} {gs:List (Nat×GenState)} (D:GRep g₀ g gs) (h:GensOk g g'):GRep g₀ g' gs:=by
 obtain ⟨l,rfl,hl⟩:=h
 have lt:∀ q∈gs,q.1<g.size:=fun q hq=>by
  have:=(D.led q hq).1
  exact (Array.getElem?_eq_some_iff.mp this).1
 refine ⟨by simp; exact Nat.le_add_right_of_le D.size,fun i hi=>?_,fun q hq=>?_,D.nd,fun i h1 h2 h3=>?_⟩
 ·rw [Array.getElem?_append_left (Nat.lt_of_lt_of_le hi D.size)]; exact D.old i hi
 ·rw [Array.getElem?_append_left (lt q hq)]; exact D.led q hq
 ·by_cases q:i<g.size
  ·rw [Array.getElem?_append_left q]; exact D.fin i h1 q h3
  ·have q:=Nat.le_of_not_lt q
   rw [Array.getElem?_append_right q]
   have h2:i<g.size+l.length:=by simpa using h2
   rw [List.getElem?_toArray,List.getElem?_eq_getElem (by omega),hl _ (List.getElem_mem _)]
theorem GRep.new {g₀ g:Array GenState} {gs:List (Nat×GenState)} {x:GenState} (D:GRep g₀ g gs):GRep g₀ (g.push x) (gs++[(g.size,x)]):=by
 have lt:∀ q∈gs,q.1<g.size:=fun q hq=>(Array.getElem?_eq_some_iff.mp (D.led q hq).1).1
 refine ⟨by rw [Array.size_push]; exact Nat.le_succ_of_le D.size,fun i hi=>?_,fun q hq=>?_,?_,fun i h1 h2 h3=>?_⟩
 ·rw [Array.getElem?_push_lt (Nat.lt_of_lt_of_le hi D.size),← Array.getElem?_eq_getElem]; exact D.old i hi
 ·rcases List.mem_append.mp hq with m | m
  ·rw [Array.getElem?_push_lt (lt q m),← Array.getElem?_eq_getElem]; exact D.led q m
  ·have:=List.mem_singleton.mp m
   subst this
   exact ⟨by simp,D.size⟩
 ·rw [List.map_append,List.nodup_append]
  refine ⟨D.nd,by simp,fun a ha b hb e=>?_⟩
  obtain ⟨q,hq,rfl⟩:=List.mem_map.mp ha
  have hb:b=g.size:=by simpa using hb
  exact absurd (lt q hq) (by rw [e,hb]; exact Nat.lt_irrefl _)
 ·rw [List.map_append,List.mem_append,not_or] at h3
  have h4:i≠g.size:=by simpa using h3.2
  have h5:i<g.size:=by rw [Array.size_push] at h2; omega
  rw [Array.getElem?_push_lt h5,← Array.getElem?_eq_getElem]; exact D.fin i h1 h5 h3.1
theorem GRep.set {g₀ g:Array GenState} {l₁ l₂:List (Nat×GenState)} {q:Nat×GenState} {x:GenState} (D:GRep g₀ g (l₁++q::l₂)):GRep g₀ (g.setIfInBounds q.1 x) (l₁++(q.1,x)::l₂):=by
 have hq:=D.led q (by simp)
 have lt:q.1<g.size:=(Array.getElem?_eq_some_iff.mp hq.1).1
 have nd:=D.nd
 rw [List.map_append,List.map_cons,List.nodup_append] at nd
 have h1:∀ p∈l₁,p.1≠q.1:=fun p hp=>nd.2.2 p.1 (List.mem_map_of_mem hp) q.1 (.head _)
 have h2:∀ p∈l₂,p.1≠q.1:=fun p hp e=>(List.nodup_cons.mp nd.2.1).1 (e ▸ List.mem_map_of_mem hp)
 have other:∀ i,i≠q.1→(g.setIfInBounds q.1 x)[i]?=g[i]?:=fun i hi=>Array.getElem?_setIfInBounds_ne (fun e=>hi e.symm)
 refine ⟨by rw [Array.size_setIfInBounds]; exact D.size,fun i hi=>?_,fun p hp=>?_,by rw [List.map_append,List.map_cons,List.nodup_append]; exact nd,fun i i1 i2 i3=>?_⟩
 ·rw [other i (fun e=>by have:=hq.2; omega)]; exact D.old i hi
 ·rcases List.mem_append.mp hp with m | m
  ·rw [other _ (h1 p m)]; exact D.led p (List.mem_append_left _ m)
  ·rcases List.mem_cons.mp m with rfl | m
   ·exact ⟨by simp [lt],hq.2⟩
   ·rw [other _ (h2 p m)]; exact D.led p (List.mem_append_right _ (.tail _ m))
 ·have i3':i∉(l₁++q::l₂).map (·.1):=by simpa using i3
  have:i≠q.1:=fun e=>i3' (by rw [e]; simp)
  rw [other i this]
  exact D.fin i i1 (by rw [Array.size_setIfInBounds] at i2; exact i2) i3'
theorem allFin_ok:∀ {gs:List (Nat×GenState)},allFin gs=true→∀ q∈gs,q.2=.finished
 | [],_,q,hq=>nomatch hq
 | p::l,h,q,hq=>by
  unfold allFin at h
  split at h
  ·rename_i e
   rcases List.mem_cons.mp hq with rfl | m
   ·exact e
   ·exact allFin_ok h q m
  ·cases h
theorem GRep.done {g₀ g:Array GenState} {gs:List (Nat×GenState)} (D:GRep g₀ g gs) (h:allFin gs=true):GensOk g₀ g:=by
 refine ⟨(g.toList.drop g₀.size),?_,fun x hx=>?_⟩
 ·apply Array.ext'
  simp only [Array.toList_append]
  have:g.toList.take g₀.size=g₀.toList:=by
   apply List.ext_getElem?
   intro i
   rw [List.getElem?_take]
   by_cases hi:i<g₀.size
   ·rw [if_pos hi]
    have:=D.old i hi
    simpa using this
   ·rw [if_neg hi]
    have:g₀.toList.length≤i:=by simpa using Nat.le_of_not_lt hi
    rw [List.getElem?_eq_none this]
  conv=>lhs; rw [← List.take_append_drop g₀.size g.toList,this]
 ·obtain ⟨j,hj,e⟩:=List.getElem_of_mem hx
  have hx:g[g₀.size+j]?=some x:=by
   rw [← e,List.getElem_drop]
   have:g₀.size+j<g.toList.length:=by rw [List.length_drop] at hj; omega
   rw [← Array.getElem?_toList,List.getElem?_eq_getElem this]
  have lt:=(Array.getElem?_eq_some_iff.mp hx).1
  by_cases m:g₀.size+j∈gs.map (·.1)
  ·obtain ⟨q,hq,e⟩:=List.mem_map.mp m
   have:=(D.led q hq).1
   rw [e,hx] at this
   rw [Option.some.inj this]
   exact allFin_ok h q hq
  ·have:=D.fin _ (Nat.le_add_right _ _) lt m
   rw [hx] at this
   exact Option.some.inj this
structure Rep (P:Use→Prop) (h₀:Heap) (s₀ s:Shared) (st:OS):Prop where
 keep:∀ b o,h₀.get? b=some o→s.heap.get? b=some o
 led:∀ p∈st.led,s.heap.get? p.1=some p.2∧h₀.get? p.1=none
 nd:(st.led.map (·.1)).Nodup
 size:s.heap.objs.size=st.N
 toks:s.toks=st.T
 gens:GRep s₀.gens s.gens st.gs
 drawn:s.drawn=s₀.drawn
 os:s.os=s₀.os
 us:∀ u∈st.us,P u
 ge:∀ p∈st.new,s₀.heap.objs.size≤p.1
 mono:s₀.heap.objs.size≤s.heap.objs.size
section
variable {V:OV} {P:Use→Prop} {h₀:Heap} {s₀ s:Shared} {st st':OS}
theorem Rep.load (kin:∀ a o,V.kt a=some o→h₀.get? a=some o) {a:Addr} {o:Obj} (D:Rep P h₀ s₀ s st) (e:loadAt V a st=some (o,st')) (g:st'.good) :
  s.heap.get? a=some o∧Rep P h₀ s₀ s st':=by
 obtain ⟨old,new,al,N,T,hs,en,us,ac,ex,gs,px⟩:=st
 cases hs with
 | nil=>cases e
 | cons h hs =>
  cases h with
  | zero =>
   obtain ⟨o',k,e⟩:=oget (o:=V.kt a) e
   obtain ⟨rfl,rfl⟩:=pget e
   exact ⟨D.keep _ _ (kin _ _ k),⟨D.keep,D.led,D.nd,D.size,D.toks,D.gens,D.drawn,D.os,D.us,D.ge,D.mono⟩⟩
  | succ j =>
   obtain ⟨q,k,e⟩:=oget (o:=findIn old new al (j+1)) e
   obtain ⟨rfl,rfl⟩:=pget e
   obtain ⟨l₁,l₂,e₁,_⟩:=find_split k
   have hq:q∈old++new:=by rw [e₁]; exact List.mem_append_right _ (.head _)
   have ha:a=q.1:=It.a.inj (List.cons.inj g).1
   exact ⟨ha ▸ (D.led q hq).1,⟨D.keep,D.led,D.nd,D.size,D.toks,D.gens,D.drawn,D.os,D.us,D.ge,D.mono⟩⟩
theorem Rep.setG {i h:Nat} {x:GenState} (D:Rep P h₀ s₀ s st) (e:setG st i h x=some st') (g:st'.good) :
  Rep P h₀ s₀ (s.setGen i x) st':=by
 obtain ⟨old,new,al,N,T,hs,en,us,ac,ex,gs,px⟩:=st
 obtain ⟨q,k,e⟩:=oget (o:=gNth gs h) e
 have e:=Option.some.inj e
 subst e
 have ha:i=q.1:=It.a.inj (List.cons.inj g).1
 obtain ⟨l₁,l₂,e₁,e₂⟩:=gNth_split k
 refine ⟨D.keep,D.led,D.nd,D.size,D.toks,?_,D.drawn,D.os,D.us,D.ge,D.mono⟩
 show GRep _ (s.gens.setIfInBounds i x) (gPut gs h x)
 rw [e₂,ha]
 have z:GRep s₀.gens s.gens gs:=D.gens
 rw [e₁] at z
 exact z.set
theorem Rep.findG {i:Nat} {y:Nat×GenState×OS} (D:Rep P h₀ s₀ s st) (e:findG i st=some y) (g:y.2.2.good) :
  s.gens[i]?=some y.2.1∧Rep P h₀ s₀ s y.2.2:=by
 obtain ⟨old,new,al,N,T,hs,en,us,ac,ex,gs,px⟩:=st
 cases hs with
 | nil=>cases e
 | cons h hs =>
  obtain ⟨q,k,e⟩:=oget (o:=gNth gs h) e
  have e:=Option.some.inj e
  subst e
  have ha:i=q.1:=It.a.inj (List.cons.inj g).1
  obtain ⟨l₁,l₂,e₁,_⟩:=gNth_split k
  exact ⟨ha ▸ (D.gens.led q (by show q∈gs; rw [e₁]; exact List.mem_append_right _ (.head _))).1,⟨D.keep,D.led,D.nd,D.size,D.toks,D.gens,D.drawn,D.os,D.us,D.ge,D.mono⟩⟩
theorem put_keys:∀ {l:List (Addr×Obj)} {n:Nat} {o:Obj},(put l n o).map (·.1)=l.map (·.1)
 | [],_,_=>rfl
 | x::l,0,o=>rfl
 | x::l,n+1,o=>by show x.1::(put l n o).map (·.1)=_; rw [put_keys]; rfl
theorem newPut_keys {new:List (Addr×Obj)} {al h:Nat} {o:Obj} {p:Addr×Obj} (hp:p∈newPut new al h o):p.1∈new.map (·.1):=by
 unfold newPut at hp
 split at hp
 ·exact List.mem_map_of_mem hp
 ·rw [← put_keys (l:=new) (n:=al-h / 2) (o:=o)]; exact List.mem_map_of_mem hp
theorem Rep.ge' (D:Rep P h₀ s₀ s st) {a:Addr} (h:a∈st.new.map (·.1)):s₀.heap.objs.size≤a:=by
 obtain ⟨p,hp,rfl⟩:=List.mem_map.mp h
 exact D.ge p hp
theorem stored {h h':Heap} {l₁ l₂:List (Addr×Obj)} {q:Addr×Obj} {o:Obj} (hs:Heap.SameBut q.1 h h') (ho:h'.get? q.1=some o) (keep:∀ b o,h₀.get? b=some o→h.get? b=some o)
  (led:∀ p∈l₁++q::l₂,h.get? p.1=some p.2∧h₀.get? p.1=none) (nd:((l₁++q::l₂).map (·.1)).Nodup) :
  (∀ b o,h₀.get? b=some o→h'.get? b=some o)∧(∀ p∈l₁++(q.1,o)::l₂,h'.get? p.1=some p.2∧h₀.get? p.1=none)∧((l₁++(q.1,o)::l₂).map (·.1)).Nodup:=by
 rw [List.map_append,List.map_cons,List.nodup_append] at nd
 have h1:∀ p∈l₁,p.1≠q.1:=fun p hp=>nd.2.2 p.1 (List.mem_map_of_mem hp) q.1 (.head _)
 have h2:∀ p∈l₂,p.1≠q.1:=fun p hp e=>(List.nodup_cons.mp nd.2.1).1 (e ▸ List.mem_map_of_mem hp)
 have hq:=led q (by simp)
 refine ⟨fun b x e=>(hs.2 b fun z=>?_).trans (keep b x e),fun p hp=>?_,by rw [List.map_append,List.map_cons,List.nodup_append]; exact nd⟩
 ·rw [z,hq.2] at e; cases e
 ·rcases List.mem_append.mp hp with m | m
  ·exact ⟨(hs.2 _ (h1 p m)).trans (led p (List.mem_append_left _ m)).1,(led p (List.mem_append_left _ m)).2⟩
  ·rcases List.mem_cons.mp m with rfl | m
   ·exact ⟨ho,hq.2⟩
   ·exact ⟨(hs.2 _ (h2 p m)).trans (led p (List.mem_append_right _ (.tail _ m))).1,(led p (List.mem_append_right _ (.tail _ m))).2⟩
theorem Rep.upd {a:Addr} {f:Obj→Obj} (D:Rep P h₀ s₀ s st) (e:updAt a f st=some st') (g:st'.good) :
  (s.heap.get? a).isSome=true∧Rep P h₀ s₀ {s with heap:=s.heap.update a f} st':=by
 obtain ⟨old,new,al,N,T,hs,en,us,ac,ex,gs,px⟩:=st
 cases hs with
 | nil=>cases e
 | cons h hs =>
  cases h with
  | zero=>cases e
  | succ j =>
   obtain ⟨q,k,e⟩:=oget (o:=findIn old new al (j+1)) e
   obtain ⟨b,e⟩:=bget e
   rw [Bool.not_eq_true'] at b
   have e:=Option.some.inj e
   subst e
   obtain ⟨l₁,l₂,e₁,e₂⟩:=find_split k
   have ha:a=q.1:=It.a.inj (List.cons.inj g).1
   subst ha
   have L:∀ p∈l₁++q::l₂,s.heap.get? p.1=some p.2∧h₀.get? p.1=none:=by rw [← e₁]; exact D.led
   have nd:((l₁++q::l₂).map (·.1)).Nodup:=by rw [← e₁]; exact D.nd
   have hs:Heap.SameBut q.1 s.heap (s.heap.update q.1 f):=Heap.SameBut.update ..
   have hq:=(L q (by simp)).1
   have ho:(s.heap.update q.1 f).get? q.1=some (f q.2):=Heap.get?_update_self f hq b
   obtain ⟨k1,k2,k3⟩:=stored hs ho D.keep L nd
   refine ⟨by rw [hq]; rfl,⟨k1,?_,?_,?_,D.toks,D.gens,D.drawn,D.os,D.us,fun p hp=>D.ge' (newPut_keys hp),?_⟩⟩
   ·show ∀ p∈oldPut old (j+1) (f q.2)++newPut new al (j+1) (f q.2),_
    rw [e₂]; exact k2
   ·show ((oldPut old (j+1) (f q.2)++newPut new al (j+1) (f q.2)).map (·.1)).Nodup
    rw [e₂]; exact k3
   ·show (s.heap.update q.1 f).objs.size=_
    rw [hs.1]; exact D.size
   ·show s₀.heap.objs.size≤(s.heap.update q.1 f).objs.size
    rw [hs.1]; exact D.mono
theorem Rep.alloc {old new:List (Addr×Obj)} {al N T en:Nat} {hs:List Nat} {us:List Use} {ac ex:List It} {gs:List (Nat×GenState)} {o:Obj} (D:Rep P h₀ s₀ s ⟨old,new,al,N,T,hs,en,us,ac,ex,gs,px⟩) (hf:o.isFreed=false) :
  Rep P h₀ s₀ {s with heap:=s.heap.push o} ⟨old,(N,o)::new,al+1,N+1,T,hs,en,us,ac,ex,gs,px⟩:=by
 have hz:s.heap.objs.size=N:=D.size
 have lt:∀ p∈old++new,p.1<N:=fun p hp=>hz ▸ Heap.lt_size (D.led p hp).1
 refine ⟨fun b x e=>Heap.get?_push_of_some _ (D.keep b x e),fun p hp=>?_,?_,?_,D.toks,D.gens,D.drawn,D.os,D.us,fun p hp=>?_,?_⟩
 ·have hp:p∈old++(N,o)::new:=hp
  have elder:p∈old++new→(s.heap.push o).get? p.1=some p.2∧h₀.get? p.1=none:=fun m=>⟨Heap.get?_push_of_some _ (D.led p m).1,(D.led p m).2⟩
  rcases List.mem_append.mp hp with q | q
  ·exact elder (List.mem_append_left _ q)
  ·rcases List.mem_cons.mp q with rfl | q
   ·refine ⟨hz ▸ Heap.get?_push_size _ hf,?_⟩
    show h₀.get? N=none
    cases z:h₀.get? N with
    | none=>rfl
    | some x=>exact absurd (Heap.lt_size (D.keep _ _ z)) (by rw [hz]; exact Nat.lt_irrefl _)
   ·exact elder (List.mem_append_right _ q)
 ·have nd:((old++new).map (·.1)).Nodup:=D.nd
  show ((old++(N,o)::new).map (·.1)).Nodup
  rw [List.map_append,List.nodup_append] at nd
  rw [List.map_append,List.map_cons,List.nodup_append]
  refine ⟨nd.1,List.nodup_cons.mpr ⟨fun q=>?_,nd.2.1⟩,fun a ha b hb=>?_⟩
  ·obtain ⟨p,hp,e⟩:=List.mem_map.mp q
   exact absurd (lt p (List.mem_append_right _ hp)) (by rw [e]; exact Nat.lt_irrefl _)
  ·rcases List.mem_cons.mp hb with rfl | hb
   ·obtain ⟨p,hp,e⟩:=List.mem_map.mp ha
    exact e ▸ Nat.ne_of_lt (lt p (List.mem_append_left _ hp))
   ·exact nd.2.2 a ha b hb
 ·show (s.heap.push o).objs.size=_
  rw [Heap.size_push,hz]
 ·rcases List.mem_cons.mp (show p∈(N,o)::new from hp) with rfl | q
  ·show s₀.heap.objs.size≤N
   rw [← hz]; exact D.mono
  ·exact D.ge p q
 ·show s₀.heap.objs.size≤(s.heap.push o).objs.size
  rw [Heap.size_push]; exact Nat.le_succ_of_le D.mono
theorem needAt_ok {old new:List (Addr×Obj)} {al:Nat}:∀ {need:List (Addr×Obj)} {places:List Nat} {ac ex ac' ex':List It},needAt places need old new al ac ex=some (ac',ex')→ac'=ex' →
  ac=ex∧∃ rs:List (Nat×Addr×Obj),rs.map (·.2)=need∧(∀ r∈rs,findIn old new al r.1=some r.2)∧rs.map (·.1)=places.take need.length
 | [],places,ac,ex,ac',ex',e,g=>by
  simp only [needAt] at e
  cases e
  exact ⟨g,[],rfl,(fun _ h=>nomatch h),rfl⟩
 | q::need,[],ac,ex,ac',ex',e,g=>by simp only [needAt] at e; cases e
 | q::need,h::places,ac,ex,ac',ex',e,g=>by
  simp only [needAt] at e
  split at e
  ·rename_i r hr
   obtain ⟨e0,rs,e1,e2,e3⟩:=needAt_ok (need:=need) (places:=places) e g
   obtain ⟨a1,e0⟩:=List.cons.inj e0
   obtain ⟨a2,e0⟩:=List.cons.inj e0
   have hrq:r=q:=Prod.ext (It.a.inj a1) (It.o.inj a2)
   refine ⟨e0,(h,q)::rs,by rw [List.map_cons,e1],fun x hx=>?_,by rw [List.map_cons,e3]; rfl⟩
   rcases List.mem_cons.mp hx with rfl | hx
   ·exact hrq ▸ hr
   ·exact e2 x hx
  ·cases e
end
end Mine
namespace Mine
open PySem.Sem (wp)
theorem nth_put:∀ (l:List (Addr×Obj)) (n m:Nat) (o:Obj),(nth (put l n o) m).map (·.1)=(nth l m).map (·.1)
 | [],_,_,_=>rfl
 | x::l,0,0,o=>rfl
 | x::l,0,m+1,o=>rfl
 | x::l,n+1,0,o=>rfl
 | x::l,n+1,m+1,o=>nth_put l n m o
theorem find_put (old new:List (Addr×Obj)) (al h h':Nat) (o:Obj):(findIn (oldPut old h o) (newPut new al h o) al h').map (·.1)=(findIn old new al h').map (·.1):=by
 unfold findIn oldPut newPut
 cases Nat.beq (h % 2) 1<;>cases Nat.beq (h' % 2) 1<;>dsimp only<;>first | rfl | exact nth_put _ _ _ _ | (split<;>first | rfl | exact nth_put _ _ _ _)
theorem nth_mem {l:List (Addr×Obj)} {n:Nat} {q:Addr×Obj} (h:nth l n=some q):q∈l:=by
 obtain ⟨l₁,l₂,e,_⟩:=nth_split h
 rw [e]; simp
theorem nth_ne:∀ {l:List (Addr×Obj)} {n m:Nat} {q r:Addr×Obj},nth l n=some q→nth l m=some r→(l.map (·.1)).Nodup→n≠m→q.1≠r.1
 | [],_,_,_,_,h,_,_,_=>by cases h
 | x::l,0,0,q,r,h,k,nd,ne=>absurd rfl ne
 | x::l,0,m+1,q,r,h,k,nd,ne=>by
  have h:x=q:=Option.some.inj h
  subst h
  rw [List.map_cons,List.nodup_cons] at nd
  exact fun e=>nd.1 (e ▸ List.mem_map_of_mem (nth_mem (l:=l) (n:=m) k))
 | x::l,n+1,0,q,r,h,k,nd,ne=>by
  have k:x=r:=Option.some.inj k
  subst k
  rw [List.map_cons,List.nodup_cons] at nd
  exact fun e=>nd.1 (e ▸ List.mem_map_of_mem (nth_mem (l:=l) (n:=n) h))
 | x::l,n+1,m+1,q,r,h,k,nd,ne=>nth_ne (l:=l) (n:=n) (m:=m) h k (by rw [List.map_cons,List.nodup_cons] at nd; exact nd.2) fun e=>ne (by rw [e])
theorem find_ne {old new:List (Addr×Obj)} {al h k:Nat} {q r:Addr×Obj} (hq:findIn old new al h=some q) (hr:findIn old new al k=some r) (nd:((old++new).map (·.1)).Nodup) (ne:h≠k):q.1≠r.1:=by
 rw [List.map_append,List.nodup_append] at nd
 unfold findIn at hq hr
 cases b:Nat.beq (h % 2) 1<;>cases c:Nat.beq (k % 2) 1<;>rw [b] at hq<;>rw [c] at hr<;>dsimp only at hq hr
 ·have b':h % 2≠1:=Nat.ne_of_beq_eq_false b
  have c':k % 2≠1:=Nat.ne_of_beq_eq_false c
  split at hq
  case h_2=>cases hq
  rename_i u
  split at hr
  case h_2=>cases hr
  rename_i v
  have u:=Nat.le_of_ble_eq_true u
  have v:=Nat.le_of_ble_eq_true v
  exact nth_ne hq hr nd.2.1 (by omega)
 ·split at hq
  case h_2=>cases hq
  exact fun e=>nd.2.2 _ (List.mem_map_of_mem (nth_mem hr)) _ (List.mem_map_of_mem (nth_mem hq)) e.symm
 ·split at hr
  case h_2=>cases hr
  exact nd.2.2 _ (List.mem_map_of_mem (nth_mem hq)) _ (List.mem_map_of_mem (nth_mem hr))
 ·have b':h % 2=1:=Nat.eq_of_beq_eq_true b
  have c':k % 2=1:=Nat.eq_of_beq_eq_true c
  exact nth_ne hq hr nd.1 (by omega)
theorem apart_ok:∀ {l:List Nat},apart l=true→l.Nodup
 | [],_=>List.nodup_nil
 | h::l,e=>by
  unfold apart at e
  split at e
  ·rename_i q
   refine List.nodup_cons.mpr ⟨fun m=>?_,apart_ok e⟩
   have:=List.all_eq_true.mp q h m
   rw [Nat.beq_refl] at this
   cases this
  ·cases e
theorem need_nodup {old new:List (Addr×Obj)} {al:Nat} (nd:((old++new).map (·.1)).Nodup):∀ {rs:List (Nat×Addr×Obj)},(∀ r∈rs,findIn old new al r.1=some r.2)→(rs.map (·.1)).Nodup→(rs.map (·.2.1)).Nodup
 | [],_,_=>List.nodup_nil
 | r::rs,hf,np=>by
  rw [List.map_cons,List.nodup_cons] at np ⊢
  refine ⟨fun m=>?_,need_nodup nd (fun x hx=>hf x (.tail _ hx)) np.2⟩
  obtain ⟨x,hx,e⟩:=List.mem_map.mp m
  exact find_ne (hf x (.tail _ hx)) (hf r (.head _)) nd (fun q=>np.1 (q ▸ List.mem_map_of_mem hx)) e
theorem give_ok {al:Nat}:∀ (rs:List (Nat×Addr)) (give:List Obj) (places:List Nat) (old new:List (Addr×Obj)),rs.length=give.length→rs.map (·.1)=places.take rs.length→(∀ r∈rs,(findIn old new al r.1).map (·.1)=some r.2)→((old++new).map (·.1)).Nodup→(rs.map (·.2)).Nodup →
  (giveOld places give old++giveNew places give new al).map (·.1)=(old++new).map (·.1) ∧
  ∀ p∈giveOld places give old++giveNew places give new al,(p∈old++new∧p.1∉rs.map (·.2))∨p∈(rs.map (·.2)).zip give
 | [],give,places,old,new,hl,hp,hf,nd,nr=>by
  have hg:give=[]:=List.length_eq_zero_iff.mp hl.symm
  subst hg
  cases places with
  | nil=>exact ⟨rfl,fun p hp=>.inl ⟨hp,fun h=>nomatch h⟩⟩
  | cons h places=>exact ⟨rfl,fun p hp=>.inl ⟨hp,fun h=>nomatch h⟩⟩
 | r::rs,[],places,old,new,hl,hp,hf,nd,nr=>by cases hl
 | r::rs,o::give,[],old,new,hl,hp,hf,nd,nr=>by cases hp
 | r::rs,o::give,h::places,old,new,hl,hp,hf,nd,nr=>by
  have hp':=List.cons.inj (show r.1::rs.map (·.1)=h::places.take rs.length from hp)
  have hh:r.1=h:=hp'.1
  have hr:=hf r (.head _)
  rw [hh] at hr
  cases hq:findIn old new al h with
  | none=>rw [hq] at hr; cases hr
  | some q =>
   rw [hq] at hr
   have hq1:q.1=r.2:=Option.some.inj hr
   obtain ⟨l₁,l₂,e₁,e₂⟩:=find_split hq
   have m1:(oldPut old h o++newPut new al h o).map (·.1)=(old++new).map (·.1):=by rw [e₂,e₁,List.map_append,List.map_append]; rfl
   rw [List.map_cons,List.nodup_cons] at nr
   obtain ⟨i1,i2⟩:=give_ok (al:=al) rs give places (oldPut old h o) (newPut new al h o) (Nat.succ.inj hl) hp'.2 (fun x hx=>(find_put ..).trans (hf x (.tail _ hx))) (by rw [m1]; exact nd) nr.2
   refine ⟨i1.trans m1,fun p hp=>?_⟩
   rcases i2 p hp with ⟨a,b⟩ | a
   ·rw [e₂] at a
    have nd':=nd
    rw [e₁,List.map_append,List.map_cons,List.nodup_append] at nd'
    have split:(p=(q.1,o))∨(p∈old++new∧p.1≠q.1):=by
     rcases List.mem_append.mp a with m | m
     ·exact .inr ⟨by rw [e₁]; exact List.mem_append_left _ m,nd'.2.2 p.1 (List.mem_map_of_mem m) q.1 (.head _)⟩
     ·rcases List.mem_cons.mp m with rfl | m
      ·exact .inl rfl
      ·exact .inr ⟨by rw [e₁]; exact List.mem_append_right _ (.tail _ m),fun e=>(List.nodup_cons.mp nd'.2.1).1 (e ▸ List.mem_map_of_mem m)⟩
    rcases split with rfl | ⟨m,n⟩
    ·refine .inr ?_
     show (q.1,o)∈(r.2::rs.map (·.2)).zip (o::give)
     rw [hq1]; exact .head _
    ·refine .inl ⟨m,fun x=>?_⟩
     rcases List.mem_cons.mp x with x | x
     ·exact n (x.trans hq1.symm)
     ·exact b x
   ·exact .inr (.tail _ a)
theorem giveNew_keys {al:Nat} {p:Addr×Obj}:∀ {places:List Nat} {give:List Obj} {new:List (Addr×Obj)},p∈giveNew places give new al→p.1∈new.map (·.1)
 | [],_,new,h=>by unfold giveNew at h; exact List.mem_map_of_mem h
 | x::places,[],new,h=>by unfold giveNew at h; exact List.mem_map_of_mem h
 | x::places,o::give,new,h=>by
  unfold giveNew at h
  have:=giveNew_keys (places:=places) (give:=give) h
  have keys:(newPut new al x o).map (·.1)=new.map (·.1):=by
   unfold newPut
   split
   ·rfl
   ·exact put_keys
  rwa [keys] at this
theorem Rep.use {P:Use→Prop} {h₀:Heap} {s₀ s s':Shared} {C:Con} {xs:Nat→Nat} {places:List Nat} {old new:List (Addr×Obj)} {al N T en en':Nat} {hs:List Nat} {us us':List Use} {ac ex ac' ex' ac₁ ex₁:List It} {gs:List (Nat×GenState)} {px px':List (Nat→Nat)}
  (D:Rep P h₀ s₀ s ⟨old,new,al,N,T,hs,en,us,ac,ex,gs,px⟩) (e:needAt places C.need old new al ac₁ ex₁=some (ac',ex')) (g:ac'=ex') (nn:(C.need.map (·.1)).Nodup) (A:After C s xs s') (hus:∀ u∈us',P u) :
  Rep P h₀ s₀ s' ⟨giveOld places (C.give xs) old,C.new xs++giveNew places (C.give xs) new al,(C.new xs).length+al,s'.heap.objs.size,s'.toks,hs,en',us',ac',ex',gs,px'⟩:=by
 obtain ⟨_,rs,r1,r2,r3⟩:=needAt_ok e g
 have hlen:rs.length=C.need.length:=by rw [← r1,List.length_map]
 have addrs:(rs.map fun r=>(r.1,r.2.1)).map (·.2)=C.need.map (·.1):=by rw [← r1,List.map_map,List.map_map]; rfl
 obtain ⟨g1,g2⟩:=give_ok (al:=al) (rs.map fun r=>(r.1,r.2.1)) (C.give xs) places old new (by rw [List.length_map,hlen,A.len]) (by rw [List.map_map,List.length_map,hlen,← r3]; rfl)
  (fun r hr=>by
   obtain ⟨x,hx,rfl⟩:=List.mem_map.mp hr
   rw [r2 x hx]; rfl) D.nd (by rw [addrs]; exact nn)
 rw [addrs] at g2
 have lt:∀ p∈old++new,p.1<s.heap.objs.size:=fun p hp=>Heap.lt_size (D.led p hp).1
 have needIn:∀ a∈C.need.map (·.1),a∈(old++new).map (·.1):=fun a ha=>by
  rw [← r1,List.map_map] at ha
  obtain ⟨x,hx,rfl⟩:=List.mem_map.mp ha
  obtain ⟨l₁,l₂,e₁,_⟩:=find_split (r2 x hx)
  rw [e₁]; simp
 have none₀:∀ a∈(old++new).map (·.1),h₀.get? a=none:=fun a ha=>by
  obtain ⟨p,hp,rfl⟩:=List.mem_map.mp ha
  exact (D.led p hp).2
 have elder:∀ p∈giveOld places (C.give xs) old++giveNew places (C.give xs) new al,s'.heap.get? p.1=some p.2∧h₀.get? p.1=none:=fun p hp=>by
  refine ⟨?_,none₀ p.1 (by rw [← g1]; exact List.mem_map_of_mem hp)⟩
  rcases g2 p hp with ⟨a,b⟩ | a
  ·exact A.keep _ _ (D.led p a).1 b
  ·exact A.give p a
 refine ⟨fun b o q=>A.keep b o (D.keep b o q) fun z=>?_,fun p hp=>?_,?_,rfl,rfl,D.gens.use A.gens,A.drawn.trans D.drawn,A.os.trans D.os,hus,fun p hp=>?_,Nat.le_trans D.mono A.size⟩
 ·rw [none₀ b (needIn b z)] at q; cases q
 ·rcases List.mem_append.mp hp with m | m
  ·exact elder p (List.mem_append_left _ m)
  ·rcases List.mem_append.mp m with m | m
   ·refine ⟨(A.new p m).1,?_⟩
    cases z:h₀.get? p.1 with
    | none=>rfl
    | some o=>exact absurd (Heap.lt_size (D.keep _ _ z)) (Nat.not_lt.mpr (A.new p m).2)
   ·exact elder p (List.mem_append_right _ m)
 ·show ((giveOld places (C.give xs) old++(C.new xs++giveNew places (C.give xs) new al)).map (·.1)).Nodup
  have nd:((giveOld places (C.give xs) old++giveNew places (C.give xs) new al).map (·.1)).Nodup:=by rw [g1]; exact D.nd
  have small:∀ p∈giveOld places (C.give xs) old++giveNew places (C.give xs) new al,p.1<s.heap.objs.size:=fun p hp=>by
   have:p.1∈(old++new).map (·.1):=by rw [← g1]; exact List.mem_map_of_mem hp
   obtain ⟨r,hr,e⟩:=List.mem_map.mp this
   exact e ▸ lt r hr
  rw [List.map_append,List.nodup_append] at nd
  rw [List.map_append,List.map_append,List.nodup_append,List.nodup_append]
  refine ⟨nd.1,⟨A.nd,nd.2.1,fun a ha b hb e=>?_⟩,fun a ha b hb e=>?_⟩
  ·obtain ⟨p,hp,rfl⟩:=List.mem_map.mp ha
   obtain ⟨r,hr,rfl⟩:=List.mem_map.mp hb
   have q1:=(A.new p hp).2
   have q2:=small r (List.mem_append_right _ hr)
   have e:p.1=r.1:=e
   rw [e] at q1
   exact absurd q2 (Nat.not_lt.mpr q1)
  ·obtain ⟨r,hr,rfl⟩:=List.mem_map.mp ha
   have q:=small r (List.mem_append_left _ hr)
   rcases List.mem_append.mp hb with hb | hb
   ·obtain ⟨p,hp,rfl⟩:=List.mem_map.mp hb
    have q1:=(A.new p hp).2
    have e:r.1=p.1:=e
    rw [← e] at q1
    exact absurd q (Nat.not_lt.mpr q1)
   ·exact nd.2.2 _ (List.mem_map_of_mem hr) b hb e
 ·rcases List.mem_append.mp (show p∈C.new xs++giveNew places (C.give xs) new al from hp) with m | m
  ·exact Nat.le_trans D.mono (A.new p m).2
  ·exact D.ge' (giveNew_keys m)
end Mine
namespace Mine
open PySem.Sem (wp)
section
variable {M:Model} {Γ:Ctx}
theorem wp_limit {Q:Unit→Pos→Shared→Prop} {E:Value→Pos→Shared→Prop} {p:Pos} {s:Shared} (hl:s.heap.NoLimit) (hd:Γ.code.weight+frameCount Γ.below<recursionLimit) (h:Q () p s):wp M Γ enterFrame Q E p s:=by
 have hΓ:Γ.In {handled:=Γ.handled,depth:=frameCount Γ.below+Γ.code.weight,units:=Γ.units}:=⟨rfl,Nat.le_refl _,(fun l x=>by cases x),(fun g x=>by cases x),Nat.le_refl _⟩
 have hge:=frameCount_ge ((Γ.code,p)::Γ.below)
 rw [frameCount_cons] at hge
 have near:=not_nearTheLimit (p:=p) hΓ (by show frameCount Γ.below+Γ.code.weight<recursionLimit; omega)
 have one:¬ ((((Γ.code,p)::Γ.below).map (·.1)).map (·.frames)).sum≥recursionLimit:=by omega
 have two:¬ ((((Γ.code,p)::Γ.below).map (·.1)).map (·.frames)).sum+((((Γ.code,p)::Γ.below).map (·.1)).filter Code.isCreation).length≥recursionLimit:=by omega
 obtain ⟨mc,hns,hnone⟩:=hl
 simp only [enterFrame,currentRecursionLimit,Sem.wp_bind']
 show wp M Γ (nsGet cStatics "sys.recursionlimit") _ _ p s
 rw [Sem.wp_nsGet M Γ _ p s hns,hnone]
 show wp M Γ (if nearTheLimitUnderAClaim (((Γ.code,p)::Γ.below).map (·.1)) (((((Γ.code,p)::Γ.below).map (·.1)).map (·.frames)).sum+((((Γ.code,p)::Γ.below).map (·.1)).filter Code.isCreation).length) recursionLimit=true then _ else _) _ _ p s
 rw [near,if_neg Bool.false_ne_true]
 show wp M Γ (if ((((Γ.code,p)::Γ.below).map (·.1)).map (·.frames)).sum≥recursionLimit then _ else _) _ _ p s
 rw [if_neg one]
 show wp M Γ (if ((((Γ.code,p)::Γ.below).map (·.1)).map (·.frames)).sum+((((Γ.code,p)::Γ.below).map (·.1)).filter Code.isCreation).length≥recursionLimit then _ else _) _ _ p s
 rw [if_neg two]
 exact h
theorem qIn_mono {Q Q':Fin→Pos→Shared→Prop} {E:Value→Pos→Shared→Prop} {k k':Str→Sem Fin} (c:∀ q p s,wp M Γ (k q) Q E p s→wp M Γ (k' q) Q' E p s) (v:Value) (d:Str) {p:Pos} {s:Shared} (h:wp M Γ (qIn v d k) Q E p s):wp M Γ (qIn v d k') Q' E p s:=by
 cases v<;>exact c _ _ _ h
theorem qOf_mono {Q Q':Fin→Pos→Shared→Prop} {E:Value→Pos→Shared→Prop} {k k':Str→Sem Fin} (c:∀ q p s,wp M Γ (k q) Q E p s→wp M Γ (k' q) Q' E p s) (v:Value) (d:Str) {p:Pos} {s:Shared} (h:wp M Γ (qOf v d k) Q E p s):wp M Γ (qOf v d k') Q' E p s:=by
 have some:∀ z,wp M Γ (field z 1>>=fun v=>qIn v d k) Q E p s→wp M Γ (field z 1>>=fun v=>qIn v d k') Q' E p s:=fun z h=>by
  rw [Sem.wp_bind'] at h ⊢
  exact Sem.wp_mono M Γ _ (fun v p₁ s₁ h₁=>qIn_mono c v d h₁) (fun _ _ _ x=>x) p s h
 cases v<;>first | exact c _ _ _ h | exact some _ h
theorem wp_callAny {a:Addr} {o:Obj} {fd:FuncData} {args:Args} {Q:Fin→Pos→Shared→Prop} {E:Value→Pos→Shared→Prop} {p:Pos} {s:Shared} (ho:s.heap.get? a=some o) (hd:o.data=.func fd) (hg:fd.scope.isGenerator=false) (hc:fd.scope.isCoroutine=false)
  (hw:Γ.code.weight+frameCount Γ.below<recursionLimit) (h:wp M Γ (callNE a fd args) (fun fin p' s'=>s'.heap.NoLimit∧Q fin p' s') E p s):wp M Γ (callAny (.ref a) args) Q E p s:=by
 unfold callAny
 rw [Sem.wp_bind']
 show wp M Γ (.load a none .pure) _ _ p s
 rw [Sem.wp_load]
 refine ⟨o,ho,?_⟩
 rw [Sem.wp_pure,hd]
 have e:callFunction a fd args=qOf fd.code fd.qualname (fun q=>do
   let env ← newFunctionEnv fd.scope fd.globals fd.closure (← bindArgs fd args) (q++".<locals>.") (some a) fd.code none fd.builtins
   enterFrame
   lastOf fd env):=by
  unfold callFunction
  rw [hg,hc]
  kernel_rfl
 show wp M Γ (callFunction a fd args) Q E p s
 rw [e]
 refine qOf_mono (fun q p s h=>?_) _ _ h
 simp only [Sem.wp_bind'] at h ⊢
 refine Sem.wp_mono M Γ _ (fun b p₂ s₂ h₂=>?_) (fun _ _ _ x=>x) p s h
 refine Sem.wp_mono M Γ _ (fun env p₃ s₃ h₃=>?_) (fun _ _ _ x=>x) p₂ s₂ h₂
 obtain ⟨hl,hq⟩:s₃.heap.NoLimit∧_:=h₃
 exact wp_limit hl hw hq
end
noncomputable def Go (M:Model) (R:Result→Shared→Prop):List Frm→Ctx→Sem Fin→Pos→Shared→Prop
 | [],Γ,t,p,s=>wp M Γ t (fun fin p' s'=>s'.heap.NoLimit∧Sem.finPost M Γ R fin p' s') (fun e _ s'=>R (.error e) s') p s
 | f::κ,Γ,t,p,s=>match f with
  | .ret Γ₁ p₁ k₁=>wp M Γ t (fun fin p' s'=>s'.heap.NoLimit∧Sem.finPost M Γ (fun r s'=>Go M R κ Γ₁ (k₁ r) p₁ s') fin p' s') (fun e _ s'=>Go M R κ Γ₁ (k₁ (.error e)) p₁ s') p s
  | .gen Γ₁ p₁ i _ k₁=>∃ e s',Runs M Γ p t [] s e s'∧e.quiet=true∧Go M R κ Γ₁ (k₁ e.result) p₁ (s'.setGen i e.genState)
noncomputable def KEnd (M:Model) (R:Result→Shared→Prop):List Frm→Result→Shared→Prop
 | [],r,s=>R r s
 | f::κ,r,s=>match f with
  | .ret Γ₁ p₁ k₁=>Go M R κ Γ₁ (k₁ r) p₁ s
  | .gen Γ₁ p₁ i _ k₁=>Go M R κ Γ₁ (k₁ (End.ret r).result) p₁ (s.setGen i .finished)
theorem Go.plain {M:Model} {R:Result→Shared→Prop} {κ:List Frm} {Γ:Ctx} {t:Sem Fin} {p:Pos} {s:Shared} (hf:onFloor κ=false)
  (h:wp M Γ t (fun fin p' s'=>s'.heap.NoLimit∧Sem.finPost M Γ (KEnd M R κ) fin p' s') (fun e _ s'=>KEnd M R κ (.error e) s') p s):Go M R κ Γ t p s:=by
 cases κ with
 | nil=>exact h
 | cons f κ=>cases f with
  | ret=>exact h
  | gen=>cases hf
theorem Go.toPlain {M:Model} {R:Result→Shared→Prop} {κ:List Frm} {Γ:Ctx} {t:Sem Fin} {p:Pos} {s:Shared} (hf:onFloor κ=false) (h:Go M R κ Γ t p s) :
  wp M Γ t (fun fin p' s'=>s'.heap.NoLimit∧Sem.finPost M Γ (KEnd M R κ) fin p' s') (fun e _ s'=>KEnd M R κ (.error e) s') p s:=by
 cases κ with
 | nil=>exact h
 | cons f κ=>cases f with
  | ret=>exact h
  | gen=>cases hf
theorem Go.step {M:Model} {R:Result→Shared→Prop} {κ:List Frm} {Γ:Ctx} {t t':Sem Fin} {p p':Pos} {s s':Shared} (h:Go M R κ Γ t' p' s')
  (hw:∀ Q E,wp M Γ t' Q E p' s'→wp M Γ t Q E p s) (hr:∀ e s'',Runs M Γ p' t' [] s' e s''→Runs M Γ p t [] s e s''):Go M R κ Γ t p s:=by
 cases κ with
 | nil=>exact hw _ _ h
 | cons f κ=>cases f with
  | ret=>exact hw _ _ h
  | gen=>obtain ⟨e,s'',a,b⟩:=h; exact ⟨e,s'',hr _ _ a,b⟩
theorem Go.done {M:Model} {R:Result→Shared→Prop} {κ:List Frm} {Γ:Ctx} {f:Flow} {p:Pos} {s:Shared} (hl:s.heap.NoLimit) (h:KEnd M R κ (.ok f) s):Go M R κ Γ (.pure (.done f)) p s:=by
 cases κ with
 | nil=>show wp _ _ _ _ _ _ _; rw [Sem.wp_pure]; exact ⟨hl,h⟩
 | cons q κ=>cases q with
  | ret=>show wp _ _ _ _ _ _ _; rw [Sem.wp_pure]; exact ⟨hl,h⟩
  | gen=>exact ⟨.ret (.ok f),s,.done,rfl,h⟩
theorem Go.raise {M:Model} {R:Result→Shared→Prop} {κ:List Frm} {Γ:Ctx} {e:Value} {p:Pos} {s:Shared} (h:KEnd M R κ (.error e) s):Go M R κ Γ (.raise e) p s:=by
 cases κ with
 | nil=>show wp _ _ _ _ _ _ _; rw [Sem.wp_raise]; exact h
 | cons q κ=>cases q with
  | ret=>show wp _ _ _ _ _ _ _; rw [Sem.wp_raise]; exact h
  | gen=>exact ⟨.ret (.error e),s,.raise,rfl,h⟩
theorem Go.call {M:Model} {R:Result→Shared→Prop} {κ:List Frm} {Γ:Ctx} {c:Code} {hd:Option Value} {g:Bool} {l:List Value} {k:Result→Sem Fin} {p:Pos} {s:Shared}
  (h:wpCode M (Γ.enter c hd p) (fun r s'=>Go M R κ Γ (k r) p s') p s):Go M R κ Γ (.call c hd g l k) p s:=by
 cases κ with
 | nil=>show wp _ _ _ _ _ _ _; rw [Sem.wp_call]; exact h
 | cons q κ=>cases q with
  | ret=>show wp _ _ _ _ _ _ _; rw [Sem.wp_call]; exact h
  | gen=>obtain ⟨r,s₁,a,e,s',b,c,d⟩:=h; exact ⟨e,s',.call a b,c,d⟩
theorem Go.again {M:Model} {R:Result→Shared→Prop} {κ:List Frm} {Γ:Ctx} {c:Code} {p:Pos} {s:Shared} (hf:onFloor κ=true) (hq:c.quiet=true) (h:Go M R κ (Γ.goto c) (M.den c) p s):Go M R κ Γ (.pure (.again c)) p s:=by
 cases κ with
 | nil=>cases hf
 | cons q κ=>cases q with
  | ret=>cases hf
  | gen=>obtain ⟨e,s',a,b⟩:=h; exact ⟨e,s',.again hq a,b⟩
theorem Go.resumeF {M:Model} {R:Result→Shared→Prop} {κ:List Frm} {Γ:Ctx} {g h:Nat} {l:List Value} {k:GenResult→Sem Fin} {c:Code} {p:Pos} {s:Shared} (hg:s.gens[g]?=some (.fresh c))
  (x:Go M R (.gen Γ p g h k::κ) (Γ.wake c p) (M.den c) p (s.setGen g .running)):Go M R κ Γ (.resume g (.send .none) l k) p s:=by
 obtain ⟨e₁,s₁,a,b,x⟩:=x
 refine Go.step x (fun Q E y=>?_) (fun e s'' y=>.resumeFresh hg a b y)
 rw [Sem.wp_resume]
 exact ⟨_,_,by unfold Wakes; rw [hg]; exact ⟨e₁,s₁,a,b,rfl,rfl⟩,y⟩
theorem Go.resumeS {M:Model} {R:Result→Shared→Prop} {κ:List Frm} {Γ:Ctx} {g h:Nat} {r:Resume} {l:List Value} {k:GenResult→Sem Fin} {k₀:Resume→Sem Fin} {l₀:List Value} {c₀:Code} {p₀:Pos} {cl:Bool} {p:Pos} {s:Shared} (hg:s.gens[g]?=some (.suspended k₀ l₀ c₀ p₀ [] cl))
  (x:Go M R (.gen Γ p g h k::κ) (Γ.wake c₀ p) (k₀ r) p₀ (s.setGen g .running)):Go M R κ Γ (.resume g r l k) p s:=by
 obtain ⟨e₁,s₁,a,b,x⟩:=x
 refine Go.step x (fun Q E y=>?_) (fun e s'' y=>.resumeSuspended hg a b y)
 rw [Sem.wp_resume]
 exact ⟨_,_,by unfold Wakes; rw [hg]; exact ⟨e₁,s₁,a,b,rfl,rfl⟩,y⟩
noncomputable def Alt (M:Model) (V:OV):Prop:=∀ c t c',V.alt c=some (t,c')→∀ (Γ:Ctx) (p:Pos) (s:Shared) (Q:Fin→Pos→Shared→Prop) (E:Value→Pos→Shared→Prop),Γ.code=c'→Γ.code.weight+frameCount Γ.below<recursionLimit→Γ.code.cUnits+unitsOf Γ.below<cLine→wp M Γ t Q E p s→wp M Γ (M.den c') Q E p s
noncomputable def Lie (F₀ U₀:Nat) (Γ:Ctx) (d:Nat):Prop:=Γ.handled=none∧Γ.code.weight≤2∧Γ.code.cUnits≤4∧frameCount Γ.below≤F₀+2*d∧unitsOf Γ.below≤U₀+4*d
noncomputable def Frm.ctx:Frm→Ctx
 | .ret Γ _ _=>Γ
 | .gen Γ _ _ _ _=>Γ
noncomputable def Lies (F₀ U₀:Nat):List Frm→Prop
 | []=>True
 | f::κ=>κ.length≤deep∧Lie F₀ U₀ f.ctx κ.length∧Lies F₀ U₀ κ
noncomputable def consS (x:Nat→Nat) (sg:Sg):Sg:=fun i=>match i with
 | 0=>x
 | i+1=>sg i
theorem light_ok {c:Code} (h:light c=true):c.weight≤2∧c.cUnits≤4:=by
 unfold light at h
 split at h
 ·rename_i q; exact ⟨Nat.le_of_ble_eq_true q,Nat.le_of_ble_eq_true h⟩
 ·cases h
section
variable {M:Model} {V:OV} {h₀:Heap} {s₀:Shared} {F₀ U₀ x X:Nat} {R:Result→Shared→Prop}
theorem funcD_is {d:Data} {fd:FuncData} (h:funcD d=some fd):d=.func fd:=by
 cases d<;>first | (cases h; done) | skip
 cases h; rfl
theorem Rep.due {P:Use→Prop} {s:Shared} {st:OS} (c c':Code) (D:Rep P h₀ s₀ s st):Rep P h₀ s₀ s (due c c' st):=by
 obtain ⟨old,new,al,N,T,hs,en,us,ac,ex,gs,px⟩:=st
 exact ⟨D.keep,D.led,D.nd,D.size,D.toks,D.gens,D.drawn,D.os,D.us,D.ge,D.mono⟩
theorem due_good {c c':Code} {st:OS} (g:(Mine.due c c' st).good):c=c':=by
 obtain ⟨old,new,al,N,T,hs,en,us,ac,ex,gs,px⟩:=st
 exact It.c.inj (List.cons.inj g).1
theorem tree_ok (hden:∀ c,V.den c=M.den c) (hAlt:Alt M V) (hM:∀ f args,M.den (.call f args)=callAny f args) (kin:∀ a o,V.kt a=some o→h₀.get? a=some o) {P:Use→Prop} {Γ:Ctx} {st:OS} {y:Sem Fin×OS}
  (hw:Γ.code.weight+frameCount Γ.below<recursionLimit) (hu:Γ.code.cUnits+unitsOf Γ.below<cLine) (hy:treeOf V Γ.code st=some y) (gy:y.2.good) {s:Shared} (D:Rep P h₀ s₀ s st) {Q:Fin→Pos→Shared→Prop} {E:Value→Pos→Shared→Prop} {p:Pos}
  (run:Rep P h₀ s₀ s y.2→wp M Γ y.1 (fun fin p' s'=>s'.heap.NoLimit∧Q fin p' s') E p s):wp M Γ (M.den Γ.code) Q E p s:=by
 have weak:∀ {t:Sem Fin},wp M Γ t (fun fin p' s'=>s'.heap.NoLimit∧Q fin p' s') E p s→wp M Γ t Q E p s:=Sem.wp_mono M Γ _ (fun _ _ _ q=>q.2) (fun _ _ _ q=>q) _ _
 unfold treeOf at hy
 split at hy
 ·rename_i q _
  obtain ⟨⟨o,st₁⟩,z,hy⟩:=oget hy
  split at hy
  ·rename_i fd hfd
   obtain ⟨hfl,hy⟩:=bget hy
   rw [Bool.not_eq_true',Bool.or_eq_false_iff] at hfl
   have hy:=Option.some.inj hy
   subst hy
   obtain ⟨ho,D'⟩:=(D.due _ _).load kin z gy
   rw [due_good ((loadAt_ext z).good gy),hM]
   exact wp_callAny ho (funcD_is hfd) hfl.1 hfl.2 hw (run D')
  ·cases hy
   rw [← hden]
   exact weak (run D)
 ·split at hy
  ·rename_i q z
   cases hy
   have hcc:=due_good gy
   have r:=weak (run (D.due _ _))
   rw [hcc]
   exact hAlt _ _ _ z Γ p s _ _ hcc hw hu r
  ·cases hy
   rw [← hden]
   exact weak (run D)
noncomputable def Con.OkT (M:Model) (kt:Addr→Option Obj) (X:Nat) (h₀:Heap) (s₀:Shared) (R:Result→Shared→Prop) (pl:List Nat) (C:Con):Prop :=
 ∀ (Γ:Ctx) (p:Pos) (s:Shared),Γ.code=C.c→Room X Γ→s.heap.NoLimit→(∀ a o,kt a=some o→s.heap.get? a=some o) →
  (∀ q∈C.need,s.heap.get? q.1=some q.2)→(∀ q∈C.need,kt q.1=none)→(C.need.map (·.1)).Nodup →
  (∀ b o,h₀.get? b=some o→s.heap.get? b=some o)→(∀ q∈C.need,h₀.get? q.1=none)→GensOk s₀.gens s.gens→s.drawn=s₀.drawn→s.os=s₀.os→s₀.heap.objs.size≤s.heap.objs.size →
  (∃ rs:List (Nat×Addr×Obj),rs.map (·.2)=C.need∧rs.map (·.1)=pl.take C.need.length∧∀ r∈rs,r.1 % 2=0→s₀.heap.objs.size≤r.2.1) →
  (∀ xs s',After C s xs s'→R (C.res xs) s')→wpCode M Γ R p s
theorem Con.Ok.top {M:Model} {kt:Addr→Option Obj} {X:Nat} {h₀:Heap} {s₀:Shared} {R:Result→Shared→Prop} {pl:List Nat} {C:Con} (h:C.Ok M kt X):C.OkT M kt X h₀ s₀ R pl :=
 fun Γ p s a b c d e f g _ _ _ _ _ _ _ k=>h Γ p s R a b c d e f g k
noncomputable abbrev Uses (M:Model) (V:OV) (x X:Nat) (h₀:Heap) (s₀:Shared) (R:Result→Shared→Prop) (u:Use):Prop:=∀ c objs px C d,u.fam c objs px=some (C,d)→match u.top with | true=>C.OkT M V.kt X h₀ s₀ R u.places | false=>C.Ok M V.kt x
noncomputable def Sound (M:Model) (V:OV) (x X:Nat) (h₀:Heap) (s₀:Shared) (F₀ U₀:Nat) (R:Result→Shared→Prop) (ih:EvTy):Prop :=
 ∀ (Γ:Ctx) (κ:List Frm) (t:Sem Fin) (p:Pos) (st:OS) (out:Sg→Result×OS),(∀ sg,ih Γ κ t p sg st=some (out sg))→(∀ sg,(out sg).2.good)→κ.length≤deep+1→Lie F₀ U₀ Γ κ.length→Lies F₀ U₀ κ →
  ∀ s,Rep (Uses M V x X h₀ s₀ R) h₀ s₀ s st→(∀ sg s',Rep (Uses M V x X h₀ s₀ R) h₀ s₀ s' (out sg).2→R (out sg).1 s') →
   Go M R κ Γ t p s
theorem ogetS {α β:Type} {o:Option α} {f:Sg→α→Option β} {b:Sg→β} (e:∀ sg,obind o (f sg)=some (b sg)):∃ y,o=some y∧∀ sg,f sg y=some (b sg):=by
 cases o with
 | none=>cases e fun _ _=>0
 | some y=>exact ⟨y,rfl,e⟩
theorem bgetS {β:Type} {c:Bool} {o:Sg→Option β} {b:Sg→β} (e:∀ sg,bbind c (o sg)=some (b sg)):c=true∧∀ sg,o sg=some (b sg):=by
 cases c with
 | false=>cases e fun _ _=>0
 | true=>exact ⟨rfl,e⟩
theorem useIt_then {top:Nat} {root:Bool} {c:Code} {sg:Sg} {u:Use} {us:List Use} {old new:List (Addr×Obj)} {al N T:Nat} {hs:List Nat} {en:Nat} {ac ex:List It} {gs:List (Nat×GenState)} {px:List (Nat→Nat)} {β:Type} {k:Option (Result×OS×Sg)×OS→Option β} :
  obind (useIt top root c sg u us old new al N T hs en ac ex gs px) k=bbind ((!u.top||(root&&allFin gs))&&apart u.places) (obind (seeAt u.places old new al) fun objs=>obind (u.fam c objs px) fun cd=>obind (needAt u.places cd.1.need old new al (.c c::dueL cd.2 ac) (.c cd.1.c::dueR cd.2 ex)) fun ax =>
   k (some (cd.1.res (fun j=>sg 0 (j+2)),⟨giveOld u.places (cd.1.give fun j=>sg 0 (j+2)) old,cd.1.new (fun j=>sg 0 (j+2))++giveNew u.places (cd.1.give fun j=>sg 0 (j+2)) new al,(cd.1.new fun j=>sg 0 (j+2)).length+al,sg 0 0+top,sg 0 1,hs,en+1,us,ax.1,ax.2,gs,(fun j=>sg 0 (j+2))::px⟩,fun i=>sg (i+1)),⟨old,new,al,N,T,hs,en,us,ac,ex,gs,px⟩)):=by
 unfold useIt
 cases ((!u.top||(root&&allFin gs))&&apart u.places) with
 | false=>rfl
 | true =>
  show obind (obind (seeAt u.places old new al) _) k=obind (seeAt u.places old new al) _
  cases seeAt u.places old new al with
  | none=>rfl
  | some objs =>
   show obind (obind (u.fam c objs px) _) k=obind (u.fam c objs px) _
   cases u.fam c objs px with
   | none=>rfl
   | some cd =>
    show obind (obind (needAt ..) _) k=obind (needAt ..) _
    cases needAt u.places cd.1.need old new al (.c c::dueL cd.2 ac) (.c cd.1.c::dueR cd.2 ex)<;>rfl
theorem retTo_sound {ih:EvTy} (hext:∀ Γ κ t p sg st r st',ih Γ κ t p sg st=some (r,st')→Ext st st') (S:Sound M V x X h₀ s₀ F₀ U₀ R ih) {κ:List Frm} {r:Result} {st:OS} {out:Sg→Result×OS} (e:∀ sg,retTo ih κ r sg st=some (out sg)) (g:∀ sg,(out sg).2.good) (hl:Lies F₀ U₀ κ) {s:Shared} (D:Rep (Uses M V x X h₀ s₀ R) h₀ s₀ s st)
  (h:∀ sg s',Rep (Uses M V x X h₀ s₀ R) h₀ s₀ s' (out sg).2→R (out sg).1 s'):KEnd M R κ r s:=by
 cases κ with
 | nil =>
  have e0:(r,st)=out (fun _ _=>0):=Option.some.inj (e (fun _ _=>0))
  have:=h (fun _ _=>0) s
  rw [← e0] at this
  exact this D
 | cons f κ =>
  obtain ⟨h1,h2,h3⟩:=hl
  cases f with
  | ret Γ p k=>exact S Γ κ (k r) p st out e g (Nat.le_succ_of_le h1) h2 h3 s D h
  | gen Γ p i j k =>
   obtain ⟨st',z,e⟩:=ogetS (o:=setG st i j .finished) e
   exact S Γ κ _ p st' out e g (Nat.le_succ_of_le h1) h2 h3 _ (D.setG z ((hext _ _ _ _ _ _ _ _ (e fun _ _=>0)).good (g _))) h
theorem enter_sound {ih:EvTy} (hext:∀ Γ κ t p sg st r st',ih Γ κ t p sg st=some (r,st')→Ext st st') (S:Sound M V x X h₀ s₀ F₀ U₀ R ih) (hden:∀ c,V.den c=M.den c) (hAlt:Alt M V) (htop:V.top≤s₀.heap.objs.size) (hM:∀ f args,M.den (.call f args)=callAny f args) (kin:∀ a o,V.kt a=some o→h₀.get? a=some o) (hlim:h₀.NoLimit)
  (hroom:F₀+2*(deep+2+x)<recursionLimit∧U₀+4*(deep+2+x)<cLine) (hX:F₀+2*X<recursionLimit∧U₀+4*X<cLine)
  {Γ:Ctx} {κ:List Frm} {p:Pos} {st:OS} {out:Sg→Result×OS} (e:∀ sg,enter V ih Γ κ p sg st=some (out sg)) (g:∀ sg,(out sg).2.good)
  (hκ:κ.length≤deep+1) (hf:onFloor κ=false) (h1:Γ.handled=none) (h2:frameCount Γ.below≤F₀+2*κ.length) (h3:unitsOf Γ.below≤U₀+4*κ.length) (hl:Lies F₀ U₀ κ) {s:Shared} (D:Rep (Uses M V x X h₀ s₀ R) h₀ s₀ s st)
  (h:∀ sg s',Rep (Uses M V x X h₀ s₀ R) h₀ s₀ s' (out sg).2→R (out sg).1 s'):wpCode M Γ (KEnd M R κ) p s:=by
 obtain ⟨lg,e⟩:=bgetS e
 obtain ⟨w1,w2⟩:=light_ok lg
 obtain ⟨old,new,al,N,T,hs,en,us,ac,ex,gs,px⟩:=st
 have plain:∀ st':OS,(∀ sg,(obind (treeOf V Γ.code st') fun y=>ih Γ κ y.1 p sg y.2)=some (out sg))→Rep (Uses M V x X h₀ s₀ R) h₀ s₀ s st'→wpCode M Γ (KEnd M R κ) p s:=fun st' e D=>by
  obtain ⟨y,hy,e⟩:=ogetS e
  have gy:y.2.good:=(hext _ _ _ _ _ _ _ _ (e fun _ _=>0)).good (g _)
  rw [wpCode_iff_wp]
  exact tree_ok hden hAlt hM kin (by have:=hroom.1; unfold deep at *; omega) (by have:=hroom.2; unfold deep at *; omega) hy gy D fun D=>(S Γ κ y.1 p y.2 out e g hκ ⟨h1,w1,w2,h2,h3⟩ hl s D h).toPlain hf
 cases us with
 | nil=>exact plain _ (fun sg=>e sg) ⟨D.keep,D.led,D.nd,D.size,D.toks,D.gens,D.drawn,D.os,D.us,D.ge,D.mono⟩
 | cons u us =>
  cases b:Nat.beq u.at_ en with
  | false =>
   refine plain ⟨old,new,al,N,T,hs,en+1,u::us,ac,ex,gs,px⟩ (fun sg=>?_) ⟨D.keep,D.led,D.nd,D.size,D.toks,D.gens,D.drawn,D.os,D.us,D.ge,D.mono⟩
   have:=e sg
   rw [useAt_skip b] at this
   exact this
  | true =>
    obtain ⟨hap,e⟩:=bgetS fun sg=>(useIt_then (k:=fun u=>match u.1 with
     | some x=>retTo ih κ x.1 x.2.2 x.2.1
     | none=>obind (treeOf V Γ.code u.2) fun y=>ih Γ κ y.1 p sg y.2)).symm.trans (by have:=e sg; rw [useAt_use b] at this; exact this)
    obtain ⟨objs,hse,e⟩:=ogetS e
    obtain ⟨⟨C,d⟩,hfa,e⟩:=ogetS e
    obtain ⟨⟨ac',ex'⟩,hn,e⟩:=ogetS e
    have e:∀ sg,retTo ih κ (C.res fun j=>sg 0 (j+2)) (fun i=>sg (i+1)) ⟨giveOld u.places (C.give fun j=>sg 0 (j+2)) old,C.new (fun j=>sg 0 (j+2))++giveNew u.places (C.give fun j=>sg 0 (j+2)) new al,(C.new fun j=>sg 0 (j+2)).length+al,sg 0 0+V.top,sg 0 1,hs,en+1,us,ac',ex',gs,(fun j=>sg 0 (j+2))::px⟩=some (out sg):=e
    have ga:ac'=ex':=by
     have z:=retTo_ext hext (e fun _ _=>0)
     exact z.good (g _)
    obtain ⟨g0,rs,r1,r2,r3⟩:=needAt_ok hn ga
    have hc:Γ.code=C.c:=It.c.inj (List.cons.inj g0).1
    have inLed:∀ q∈C.need,q∈old++new:=fun q hq=>by
     rw [← r1] at hq
     obtain ⟨r,hr,rfl⟩:=List.mem_map.mp hq
     obtain ⟨l₁,l₂,e₁,_⟩:=find_split (r2 r hr)
     rw [e₁]; simp
    have D:Rep (Uses M V x X h₀ s₀ R) h₀ s₀ s ⟨old,new,al,N,T,hs,en,u::us,ac,ex,gs,px⟩:=D
    have nn:(C.need.map (·.1)).Nodup:=by
     have z:=need_nodup D.nd r2 (by rw [r3]; exact (apart_ok ((Bool.and_eq_true _ _).mp hap).2).sublist (List.take_sublist ..))
     rw [← r1,List.map_map]; exact z
    have kneed:∀ q∈C.need,V.kt q.1=none:=fun q hq=>by
     cases z:V.kt q.1 with
     | none=>rfl
     | some o=>have:=(D.led q (inLed q hq)).2; rw [kin _ _ z] at this; cases this
    have post:∀ xs s',After C s xs s'→KEnd M R κ (C.res xs) s':=fun xs s' A=>by
     have D':=D.use (us':=us) (en':=en+1) (px':=(fun j=>xs j)::px) hn ga nn A (fun v hv=>D.us v (.tail _ hv))
     let f:Nat→Nat:=fun j=>match j with
      | 0=>s'.heap.objs.size-V.top
      | 1=>s'.toks
      | j+2=>xs j
     have hz:s'.heap.objs.size-V.top+V.top=s'.heap.objs.size:=Nat.sub_add_cancel (Nat.le_trans htop D'.mono)
     rw [← hz] at D'
     exact retTo_sound hext S (out:=fun sg=>out (consS f sg)) (fun sg=>e (consS f sg)) (fun sg=>g _) hl D' fun sg s''=>h (consS f sg) s''
    have hus:=D.us u (.head _) Γ.code objs px C d hfa
    cases ht:u.top with
    | false =>
     rw [ht] at hus
     have room:Room x Γ:=by
      refine ⟨h1,?_,?_⟩
      ·have:=hroom.1
       show frameCount Γ.below+2*x<recursionLimit
       unfold deep at *; omega
      ·have:=hroom.2
       show unitsOf Γ.below+4*x<cLine
       unfold deep at *; omega
     exact hus Γ p s _ hc room (hlim.keeps D.keep) (fun a o q=>D.keep a o (kin a o q)) (fun q hq=>(D.led q (inLed q hq)).1) kneed nn post
    | true =>
     rw [ht] at hus
     have q:=((Bool.and_eq_true _ _).mp hap).1
     rw [ht] at q
     have q:=(Bool.and_eq_true _ _).mp q
     have k0:κ=[]:=List.isEmpty_iff.mp q.1
     subst k0
     have room:Room X Γ:=by
      refine ⟨h1,?_,?_⟩
      ·have:=hX.1
       have h2:frameCount Γ.below≤F₀+2*0:=h2
       show frameCount Γ.below+2*X<recursionLimit
       omega
      ·have:=hX.2
       have h3:unitsOf Γ.below≤U₀+4*0:=h3
       show unitsOf Γ.below+4*X<cLine
       omega
     refine hus Γ p s hc room (hlim.keeps D.keep) (fun a o q=>D.keep a o (kin a o q)) (fun q hq=>(D.led q (inLed q hq)).1) kneed nn D.keep (fun q hq=>(D.led q (inLed q hq)).2) (D.gens.done q.2) D.drawn D.os D.mono ⟨rs,r1,r3,fun r hr hp=>?_⟩ post
     have z:=r2 r hr
     unfold findIn at z
     cases b:Nat.beq (r.1 % 2) 1 with
     | true=>have:=Nat.eq_of_beq_eq_true b; omega
     | false =>
      rw [b] at z
      dsimp only at z
      split at z
      ·exact D.ge _ (nth_mem z)
      ·cases z
end
end Mine
namespace Mine
open PySem.Sem (wp)
section
variable {M:Model} {V:OV} {h₀:Heap} {s₀:Shared} {F₀ U₀ x X:Nat} {R:Result→Shared→Prop}
theorem floor_is {ih:EvTy} {Γ:Ctx} {κ:List Frm} {t:Sem Fin} {p:Pos} {st:OS} {out:Sg→Result×OS} (e:∀ sg,floor ih Γ κ t p sg st=some (out sg)):light Γ.code=true∧∀ sg,ih Γ κ t p sg st=some (out sg):=bgetS e
theorem ev_sound (hden:∀ c,V.den c=M.den c) (hAlt:Alt M V) (htop:V.top≤s₀.heap.objs.size) (hM:∀ f args,M.den (.call f args)=callAny f args) (kin:∀ a o,V.kt a=some o→h₀.get? a=some o) (hlim:h₀.NoLimit) (hset:V.set=⟨M.prog,M.w.params⟩)
  (hroom:F₀+2*(deep+2+x)<recursionLimit∧U₀+4*(deep+2+x)<cLine) (hX:F₀+2*X<recursionLimit∧U₀+4*X<cLine):∀ n,Sound M V x X h₀ s₀ F₀ U₀ R (ev V n)
 | 0=>fun Γ κ t p st out e=>by cases e fun _ _=>0
 | n+1=>fun Γ κ t p st out e g hκ hΓ hl s D h=>by
  have S:=ev_sound hden hAlt htop hM kin hlim hset hroom hX n
  have hext:∀ Γ κ t p sg st r st',ev V n Γ κ t p sg st=some (r,st')→Ext st st':=ev_ext n
  have e:∀ sg,evStep V (ev V n) Γ κ t p sg st=some (out sg):=e
  have g0:=g (fun _ _=>0)
  cases t with
  | pure fin =>
   cases fin with
   | done f=>exact Go.done (hlim.keeps D.keep) (retTo_sound hext S (fun sg=>e sg) g hl D h)
   | again c =>
     obtain ⟨hq,e⟩:=bgetS e
     cases hf:onFloor κ with
     | true =>
      rw [hf] at e
      obtain ⟨lg,e⟩:=floor_is e
      refine Go.again hf hq ?_
      rw [← hden]
      exact S (Γ.goto c) κ _ p st out e g hκ ⟨hΓ.1,(light_ok lg).1,(light_ok lg).2,hΓ.2.2.2.1,hΓ.2.2.2.2⟩ hl s D h
     | false =>
      refine Go.plain hf ?_
      rw [Sem.wp_pure]
      refine ⟨hlim.keeps D.keep,hq,?_⟩
      rw [hf] at e
      exact enter_sound hext S hden hAlt htop hM kin hlim hroom hX (Γ:=Γ.goto c) e g hκ hf hΓ.1 hΓ.2.2.2.1 hΓ.2.2.2.2 hl D h
  | raise a=>exact Go.raise (retTo_sound hext S (fun sg=>e sg) g hl D h)
  | rule _ k=>exact (S _ _ _ _ _ out (fun sg=>e sg) g hκ hΓ hl s D h).step (fun _ _ x=>by rw [Sem.wp_rule]; exact x) (fun _ _ x=>.rule x)
  | «at» _ k=>exact (S _ _ _ _ _ out (fun sg=>e sg) g hκ hΓ hl s D h).step (fun _ _ x=>by rw [Sem.wp_at]; exact x) (fun _ _ x=>.at x)
  | point _ k=>exact (S _ _ _ _ _ out (fun sg=>e sg) g hκ hΓ hl s D h).step (fun _ _ x=>by rw [Sem.wp_point]; exact x) (fun _ _ x=>.point x)
  | ask k =>
   have e:∀ sg,ev V n Γ κ (k ⟨M.prog,M.w.params⟩) p sg st=some (out sg):=fun sg=>by rw [← hset]; exact e sg
   exact (S _ _ _ _ _ out e g hκ hΓ hl s D h).step (fun _ _ x=>by rw [Sem.wp_ask]; exact x) (fun _ _ x=>.ask x)
  | load a q k =>
    obtain ⟨y,z,e⟩:=ogetS e
    obtain ⟨ho,D'⟩:=D.load kin z ((hext _ _ _ _ _ _ _ _ (e fun _ _=>0)).good g0)
    exact (S _ _ _ _ _ out e g hκ hΓ hl s D' h).step (fun _ _ x=>by rw [Sem.wp_load]; exact ⟨_,ho,x⟩) (fun _ _ x=>.load ho x)
  | loadIfAlive a k =>
    obtain ⟨y,z,e⟩:=ogetS e
    obtain ⟨ho,D'⟩:=D.load kin z ((hext _ _ _ _ _ _ _ _ (e fun _ _=>0)).good g0)
    exact (S _ _ _ _ _ out e g hκ hΓ hl s D' h).step (fun _ _ x=>by rw [Sem.wp_loadIfAlive,ho]; exact x) (fun _ _ x=>.loadIfAlive (by rw [ho]; exact x))
  | update a q f k =>
    obtain ⟨y,z,e⟩:=ogetS e
    obtain ⟨ho,D'⟩:=D.upd z ((hext _ _ _ _ _ _ _ _ (e fun _ _=>0)).good g0)
    exact (S _ _ _ _ _ out e g hκ hΓ hl _ D' h).step (fun _ _ x=>by rw [Sem.wp_update]; exact ⟨ho,x⟩) (fun _ _ x=>.update ho x)
  | alloc o k =>
    obtain ⟨hf,e⟩:=bgetS e
    rw [Bool.not_eq_true'] at hf
    obtain ⟨old,new,al,N,T,hs,en,us,ac,ex,gs,px⟩:=st
    have e:∀ sg,ev V n Γ κ (k N) p sg ⟨old,(N,o)::new,al+1,N+1,T,hs,en,us,ac,ex,gs,px⟩=some (out sg):=e
    have hz:s.heap.objs.size=N:=D.size
    exact (S _ _ _ _ _ out e g hκ hΓ hl _ (D.alloc hf) h).step (fun _ _ x=>by rw [Sem.wp_alloc,hz]; exact x) (fun _ _ x=>.alloc (by rw [hz]; exact x))
  | fresh k =>
   obtain ⟨old,new,al,N,T,hs,en,us,ac,ex,gs,px⟩:=st
   have e:∀ sg,ev V n Γ κ (k T) p sg ⟨old,new,al,N,T+1,hs,en,us,ac,ex,gs,px⟩=some (out sg):=fun sg=>e sg
   have hz:s.toks=T:=D.toks
   exact (S _ _ _ _ _ out e g hκ hΓ hl {s with toks:=T+1} ⟨D.keep,D.led,D.nd,D.size,rfl,D.gens,D.drawn,D.os,D.us,D.ge,D.mono⟩ h).step (fun _ _ x=>by rw [Sem.wp_fresh,hz]; exact x) (fun _ _ x=>.fresh (by rw [hz]; exact x))
  | handled own k =>
   cases own with
   | true=>cases e fun _ _=>0
   | false =>
    exact (S _ _ _ _ _ out (fun sg=>e sg) g hκ hΓ hl s D h).step (fun _ _ x=>by rw [Sem.wp_handled]; exact x) (fun _ _ x=>.handled x)
  | stack k =>
   obtain ⟨old,new,al,N,T,hs,en,us,ac,ex,gs,px⟩:=st
   cases hs with
   | nil=>cases e fun _ _=>0
   | cons q hs =>
    cases q with
    | zero=>exact (S _ _ _ _ _ out (fun sg=>e sg) g hκ hΓ hl s ⟨D.keep,D.led,D.nd,D.size,D.toks,D.gens,D.drawn,D.os,D.us,D.ge,D.mono⟩ h).step (fun _ _ x=>by rw [Sem.wp_stack]; exact x) (fun _ _ x=>.stack x)
    | succ q =>
     have e:∀ sg,ev V n Γ κ (k []) p sg ⟨old,new,al,N,T,hs,en,us,.k k::ac,.k (roomK (roomWord q) (k []))::ex,gs,px⟩=some (out sg):=fun sg=>e sg
     have ga:(It.k k::ac)=(It.k (roomK (roomWord q) (k []))::ex):=(hext _ _ _ _ _ _ _ _ (e fun _ _=>0)).good g0
     have hk:k=roomK (roomWord q) (k []):=It.k.inj (List.cons.inj ga).1
     obtain ⟨w0,w1,w2,w3,w4⟩:=hΓ
     have hu:¬ ((((Γ.code,p)::Γ.below).map (·.1.cUnits)).sum≥cLine):=by
      have:(((Γ.code,p)::Γ.below).map (·.1.cUnits)).sum=Γ.code.cUnits+unitsOf Γ.below:=by first | exact unitsOf_cons .. | rfl | simp [unitsOf]
      rw [this]
      have:=hroom.2
      unfold deep at *
      omega
     have hk':k ((Γ.code,p)::Γ.below)=k []:=(congrFun hk _).trans (by unfold roomK; rw [if_neg hu])
     exact (S _ _ _ _ _ out e g hκ ⟨w0,w1,w2,w3,w4⟩ hl s ⟨D.keep,D.led,D.nd,D.size,D.toks,D.gens,D.drawn,D.os,D.us,D.ge,D.mono⟩ h).step (fun _ _ x=>by rw [Sem.wp_stack,hk']; exact x) (fun _ _ x=>.stack (by rw [hk']; exact x))
  | call c hd gd l k =>
   cases hd with
   | some _=>cases e fun _ _=>0
   | none =>
     obtain ⟨hb,e⟩:=bgetS e
     have hb':=Nat.le_of_ble_eq_true hb
     obtain ⟨w0,w1,w2,w3,w4⟩:=hΓ
     have z:=enter_sound hext S hden hAlt htop hM kin hlim hroom hX (Γ:=Γ.enter c none p) (κ:=.ret Γ p k::κ) e g (by show κ.length+1≤deep+1; omega) rfl
      (by show (markOver none Γ.handled Γ.past)=none; rw [markOver_of_ne (by intro q; cases q),w0]; rfl)
      (by show frameCount ((Γ.code,p)::Γ.below)≤F₀+2*(κ.length+1); rw [frameCount_cons]; omega)
      (by show unitsOf ((Γ.code,p)::Γ.below)≤U₀+4*(κ.length+1); rw [unitsOf_cons]; omega)
      ⟨hb',⟨w0,w1,w2,w3,w4⟩,hl⟩ D h
     exact Go.call z
  | unsupported=>cases e fun _ _=>0
  | finish=>cases e fun _ _=>0
  | register=>cases e fun _ _=>0
  | choose=>cases e fun _ _=>0
  | os=>cases e fun _ _=>0
  | newGen c k =>
   obtain ⟨old,new,al,N,T,hs,en,us,ac,ex,gs,px⟩:=st
   let f:Nat→Nat:=fun _=>s.gens.size
   have e:∀ sg,ev V n Γ κ (k s.gens.size) p sg ⟨old,new,al,N,T,hs,en,us,ac,ex,gs++[(s.gens.size,.fresh c)],px⟩=some (out (consS f sg)):=fun sg=>e (consS f sg)
   exact (S _ _ _ _ _ (fun sg=>out (consS f sg)) e (fun sg=>g _) hκ hΓ hl {s with gens:=s.gens.push (.fresh c)} ⟨D.keep,D.led,D.nd,D.size,D.toks,D.gens.new,D.drawn,D.os,D.us,D.ge,D.mono⟩ fun sg s''=>h (consS f sg) s'').step
    (fun _ _ x=>by rw [Sem.wp_newGen]; exact x) (fun _ _ x=>.newGen x)
  | genState i k =>
    obtain ⟨y,z,e⟩:=ogetS e
    obtain ⟨ho,D'⟩:=D.findG z ((hext _ _ _ _ _ _ _ _ (e fun _ _=>0)).good g0)
    exact (S _ _ _ _ _ out e g hκ hΓ hl s D' h).step (fun _ _ x=>by rw [Sem.wp_genState]; exact ⟨_,ho,x⟩) (fun _ _ x=>.genState ho x)
  | resume i r l k =>
   obtain ⟨hb,e⟩:=bgetS e
   have hb':=Nat.le_of_ble_eq_true hb
   obtain ⟨⟨j,gst,st₁⟩,z,e⟩:=ogetS e
   obtain ⟨st₂,z₂,e⟩:=ogetS e
   obtain ⟨w0,w1,w2,w3,w4⟩:=hΓ
   have run:∀ (c₀:Code) (t₀:Sem Fin) (p₀:Pos),(∀ sg,floor (ev V n) (Γ.wake c₀ p) (.gen Γ p i j k::κ) t₀ p₀ sg st₂=some (out sg)) →
     s.gens[i]?=some gst∧Go M R (.gen Γ p i j k::κ) (Γ.wake c₀ p) t₀ p₀ (s.setGen i .running):=fun c₀ t₀ p₀ e=>by
    obtain ⟨lg,e⟩:=floor_is e
    have g2:st₂.good:=(hext _ _ _ _ _ _ _ _ (e fun _ _=>0)).good g0
    obtain ⟨ho,D₁⟩:=D.findG z ((setG_ext z₂).good g2)
    refine ⟨ho,S _ _ _ _ _ out e g (by show κ.length+1≤deep+1; omega) ⟨w0,(light_ok lg).1,(light_ok lg).2,?_,?_⟩ ⟨hb',⟨w0,w1,w2,w3,w4⟩,hl⟩ _ (D₁.setG z₂ g2) h⟩
    ·show frameCount ((Γ.code,p)::Γ.below)≤F₀+2*(κ.length+1); rw [frameCount_cons]; omega
    ·show unitsOf ((Γ.code,p)::Γ.below)≤U₀+4*(κ.length+1); rw [unitsOf_cons]; omega
   cases gst with
   | fresh c =>
    cases r with
    | throw=>cases e fun _ _=>0
    | send v =>
     cases v with
     | none =>
      obtain ⟨a,b⟩:=run c (V.den c) p e
      rw [hden] at b
      exact Go.resumeF a b
     | _=>cases e fun _ _=>0
   | suspended k₀ l₀ c₀ p₀ fs cl =>
    cases fs with
    | cons _ _=>cases e fun _ _=>0
    | nil =>
     obtain ⟨a,b⟩:=run c₀ (k₀ r) p₀ e
     exact Go.resumeS a b
   | running=>cases e fun _ _=>0
   | finished=>cases e fun _ _=>0
  | yield v gd l k =>
   cases gd with
   | true=>cases e fun _ _=>0
   | false =>
    cases κ with
    | nil=>cases e fun _ _=>0
    | cons f κ =>
     cases f with
     | ret=>cases e fun _ _=>0
     | gen Γ₁ p₁ i j k₁ =>
       obtain ⟨st',z,e⟩:=ogetS e
       obtain ⟨h1,h2,h3⟩:=hl
       exact ⟨.susp v false l k Γ.code p [],s,.yield,rfl,S Γ₁ κ _ p₁ st' out e g (Nat.le_succ_of_le h1) h2 h3 _ (D.setG z ((hext _ _ _ _ _ _ _ _ (e fun _ _=>0)).good g0)) h⟩
  | fork=>cases e fun _ _=>0
  | thread=>cases e fun _ _=>0
  | await=>cases e fun _ _=>0
end
end Mine
namespace Mine
open PySem.Sem (wp)
section
variable {M:Model} {V:OV} {h₀:Heap} {s₀:Shared} {x X:Nat} {R:Result→Shared→Prop}
theorem evCode_sound (hden:∀ c,V.den c=M.den c) (hAlt:Alt M V) (htop:V.top≤s₀.heap.objs.size) (hM:∀ f args,M.den (.call f args)=callAny f args) (kin:∀ a o,V.kt a=some o→h₀.get? a=some o) (hlim:h₀.NoLimit) (hset:V.set=⟨M.prog,M.w.params⟩)
  {Γ:Ctx} {p:Pos} {st:OS} {out:Sg→Result×OS} (hroom:frameCount Γ.below+2*(deep+2+x)<recursionLimit∧unitsOf Γ.below+4*(deep+2+x)<cLine) (hX:frameCount Γ.below+2*X<recursionLimit∧unitsOf Γ.below+4*X<cLine)
  (e:∀ sg,evCode0 V Γ p sg st=some (out sg)) (g:∀ sg,(out sg).2.good) (h1:Γ.handled=none) {s:Shared} (D:Rep (Uses M V x X h₀ s₀ R) h₀ s₀ s st)
  (h:∀ sg s',Rep (Uses M V x X h₀ s₀ R) h₀ s₀ s' (out sg).2→R (out sg).1 s'):wpCode M Γ R p s:=by
 have S:=ev_sound (V:=V) (h₀:=h₀) (s₀:=s₀) (x:=x) (X:=X) (R:=R) hden hAlt htop hM kin hlim hset hroom hX fuel
 have hext:∀ Γ κ t p sg st r st',ev V fuel Γ κ t p sg st=some (r,st')→Ext st st':=ev_ext fuel
 obtain ⟨lg,e⟩:=bgetS e
 obtain ⟨w1,w2⟩:=light_ok lg
 obtain ⟨y,hy,e⟩:=ogetS e
 have gy:y.2.good:=(hext _ _ _ _ _ _ _ _ (e fun _ _=>0)).good (g _)
 have run:=fun D=>S Γ [] y.1 p y.2 out e g (Nat.zero_le _) ⟨h1,w1,w2,Nat.le_add_right _ _,Nat.le_add_right _ _⟩ trivial s D h
 rw [wpCode_iff_wp]
 exact tree_ok hden hAlt hM kin (by have:=hroom.1; unfold deep at *; omega) (by have:=hroom.2; unfold deep at *; omega) hy gy D run
end
noncomputable def lessObj:Obj:={cls:=.none,data:=.freed}
noncomputable def less:List Addr→Heap→Heap
 | [],h=>h
 | a::l,h=>(less l h).update a fun _=>lessObj
theorem less_other {b:Addr}:∀ {l:List Addr} {h:Heap},b∉l→(less l h).get? b=h.get? b
 | [],_,_=>rfl
 | a::l,h,n=>((Heap.SameBut.update (h:=less l h) (a:=a) (f:=fun _=>lessObj)).2 b (fun e=>n (e ▸ .head _))).trans (less_other fun m=>n (.tail _ m))
theorem get_update_less {h:Heap} {a:Addr}:(h.update a fun _=>lessObj).get? a=none:=by
 obtain ⟨objs,l⟩:=h
 unfold Heap.update Heap.get?
 by_cases q:a<objs.size
 ·simp [q,lessObj,Array.getElem_modify]
 ·simp [q]
theorem less_gone {b:Addr}:∀ {l:List Addr} {h:Heap},b∈l→(less l h).get? b=none
 | [],_,m=>by cases m
 | a::l,h,m=>by
  by_cases e:b=a
  ·subst e; exact get_update_less
  ·refine ((Heap.SameBut.update (h:=less l h) (a:=a) (f:=fun _=>lessObj)).2 b e).trans (less_gone ?_)
   rcases List.mem_cons.mp m with h | h
   ·exact absurd h e
   ·exact h
theorem less_keep {b:Addr} {o:Obj} {l:List Addr} {h:Heap} (e:(less l h).get? b=some o):h.get? b=some o:=by
 by_cases m:b∈l
 ·rw [less_gone m] at e; cases e
 ·rwa [less_other m] at e
noncomputable def zipObj:List (Addr×Obj)→List Obj→List (Addr×Obj)
 | q::l,o::os=>(q.1,o)::zipObj l os
 | _,_=>[]
theorem zipObj_zip:∀ (l:List (Addr×Obj)) (os:List Obj),zipObj l os=(l.map (·.1)).zip os
 | [],_=>by simp [zipObj]
 | q::l,[]=>by simp [zipObj]
 | q::l,o::os=>by simp [zipObj,zipObj_zip l os]
noncomputable def pickNew (sel:List Nat) (new:List (Addr×Obj)):List (Addr×Obj):=match sel with
 | []=>[]
 | i::sel=>match nth new i with
  | some q=>q::pickNew sel new
  | none=>pickNew sel new
theorem pickNew_mem {new:List (Addr×Obj)} {q:Addr×Obj}:∀ {sel:List Nat},q∈pickNew sel new→∃ i∈sel,nth new i=some q
 | [],h=>nomatch h
 | i::sel,h=>by
  unfold pickNew at h
  split at h
  ·rename_i r e
   rcases List.mem_cons.mp h with rfl | h
   ·exact ⟨i,.head _,e⟩
   ·obtain ⟨j,a,b⟩:=pickNew_mem h; exact ⟨j,.tail _ a,b⟩
  ·obtain ⟨j,a,b⟩:=pickNew_mem h; exact ⟨j,.tail _ a,b⟩
theorem pickNew_nodup {new:List (Addr×Obj)} (nd:(new.map (·.1)).Nodup):∀ {sel:List Nat},sel.Nodup→((pickNew sel new).map (·.1)).Nodup
 | [],_=>List.nodup_nil
 | i::sel,h=>by
  rw [List.nodup_cons] at h
  unfold pickNew
  split
  ·rename_i q e
   rw [List.map_cons,List.nodup_cons]
   refine ⟨fun m=>?_,pickNew_nodup nd h.2⟩
   obtain ⟨r,hr,he⟩:=List.mem_map.mp m
   obtain ⟨j,hj,ej⟩:=pickNew_mem hr
   exact nth_ne e ej nd (fun z=>h.1 (z ▸ hj)) he.symm
  ·exact pickNew_nodup nd h.2
noncomputable abbrev End4:=Result×List (Addr×Obj)×List (Addr×Obj)×List It
noncomputable def endOf (sel:List Nat) (o:Result×OS):End4:=(o.1,o.2.old,pickNew sel o.2.new,o.2.ac)
noncomputable def dueOf (C:Con) (xs:Nat→Nat) (o:Result×OS):End4:=(C.res xs,zipObj C.need (C.give xs),C.new xs,o.2.ex)
noncomputable def dueIf (C:Con) (xs:Nat→Nat):Out→Option End4
 | none=>none
 | some o=>some (dueOf C xs o)
noncomputable def endIf (sel:List Nat):Out→Option End4
 | none=>some (.ok .next,[],[],[])
 | some o=>some (endOf sel o)
theorem finOf_some {o:Out} {x:Result×OS} (h:finOf o=some x):o=some x∧allFin x.2.gs=true:=by
 cases o with
 | none=>cases h
 | some y =>
  unfold finOf at h
  dsimp only at h
  split at h
  ·rename_i q; cases h; exact ⟨rfl,q⟩
  ·cases h
theorem usesOk {M:Model} {kt:Addr→Option Obj} {x y:Nat} {h₀:Heap} {s₀:Shared} {R:Result→Shared→Prop} {u:Use} {C:Con} (h:C.Ok M kt (match u.top with | true=>x | false=>y)):match u.top with | true=>C.OkT M kt x h₀ s₀ R u.places | false=>C.Ok M kt y:=by
 cases ht:u.top with
 | true=>rw [ht] at h; exact h.top
 | false=>rw [ht] at h; exact h
theorem Con.of_ev {M:Model} {V:OV} {x y:Nat} {C:Con} (hs:List Nat) (us:List Use) (sel:List Nat) (pick:Nat→Nat→Sg→Nat→Nat)
  (hden:∀ c,V.den c=M.den c) (hAlt:Alt M V) (htop:∀ s:Shared,(∀ a o,V.kt a=some o→s.heap.get? a=some o)→V.top≤s.heap.objs.size) (hM:∀ f args,M.den (.call f args)=callAny f args) (hset:V.set=⟨M.prog,M.w.params⟩) (hst:(V.kt cStatics).isSome=true) (hx:deep+2+y≤x)
  (huses:∀ u∈us,∀ c objs px C d,u.fam c objs px=some (C,d)→C.Ok M V.kt (match u.top with | true=>x | false=>y)) (hlen:∀ xs,(C.give xs).length=C.need.length) (hsel:sel.Nodup)
  (E:∀ (own past:Option Value) (below:List (Code×Pos)) (p:Pos) (N T:Nat) (sg:Sg),
   endIf sel (evCode V ⟨C.c,none,own,below,past⟩ p sg ⟨C.need,[],0,N+V.top,T,hs,0,us,[],[],[],[]⟩) =
    dueIf C (pick N T sg) (evCode V ⟨C.c,none,own,below,past⟩ p sg ⟨C.need,[],0,N+V.top,T,hs,0,us,[],[],[],[]⟩)):C.Ok M V.kt x:=by
 intro Γ p s R hc hroom hlim hkt hneed hkn hnd hR
 obtain ⟨code,handled,own,below,past⟩:=Γ
 obtain ⟨r1,r2,r3⟩:=hroom
 have hc:code=C.c:=hc
 have r1:handled=none:=r1
 subst hc; subst r1
 have hz:s.heap.objs.size-V.top+V.top=s.heap.objs.size:=Nat.sub_add_cancel (htop s hkt)
 have E:=E own past below p (s.heap.objs.size-V.top) s.toks
 rw [hz] at E
 let st:OS:=⟨C.need,[],0,s.heap.objs.size,s.toks,hs,0,us,[],[],[],[]⟩
 have ex:∀ sg,∃ o,evCode V ⟨C.c,none,own,below,past⟩ p sg st=some o∧endOf sel o=dueOf C (pick (s.heap.objs.size-V.top) s.toks sg) o:=fun sg=>by
  have E:=E sg
  cases q:evCode V ⟨C.c,none,own,below,past⟩ p sg st with
  | none =>
   have q':evCode V ⟨C.c,none,own,below,past⟩ p sg ⟨C.need,[],0,s.heap.objs.size,s.toks,hs,0,us,[],[],[],[]⟩=none:=q
   rw [q'] at E; cases E
  | some o =>
   have q':evCode V ⟨C.c,none,own,below,past⟩ p sg ⟨C.need,[],0,s.heap.objs.size,s.toks,hs,0,us,[],[],[],[]⟩=some o:=q
   rw [q'] at E; exact ⟨o,rfl,Option.some.inj E⟩
 let out:Sg→Result×OS:=fun sg=>Classical.choose (ex sg)
 have ho:∀ sg,evCode V ⟨C.c,none,own,below,past⟩ p sg st=some (out sg)∧endOf sel (out sg)=dueOf C (pick (s.heap.objs.size-V.top) s.toks sg) (out sg):=fun sg=>Classical.choose_spec (ex sg)
 let h₀:=less (C.need.map (·.1)) s.heap
 have notIn:∀ a o,V.kt a=some o→a∉C.need.map (·.1):=fun a o k m=>by
  obtain ⟨q,hq,e⟩:=List.mem_map.mp m
  rw [← e,hkn q hq] at k; cases k
 have lim:h₀.NoLimit:=by
  obtain ⟨mc,⟨o,es,ep,e,r⟩,hn⟩:=hlim
  obtain ⟨o',ho'⟩:=Option.isSome_iff_exists.mp hst
  exact ⟨mc,⟨o,es,ep,(less_other (notIn _ _ ho')).trans e,r⟩,hn⟩
 have fin0:∀ sg,evCode0 V ⟨C.c,none,own,below,past⟩ p sg st=some (out sg)∧allFin (out sg).2.gs=true:=fun sg=>finOf_some (ho sg).1
 refine evCode_sound (M:=M) (V:=V) (h₀:=h₀) (s₀:=s) (x:=y) (X:=x) (out:=out) hden hAlt (htop s hkt) hM (fun a o k=>(less_other (notIn a o k)).trans (hkt a o k)) lim hset
  ⟨by have h2:frameCount below+2*x<recursionLimit:=r2; show frameCount below+_<_; omega,by have h3:unitsOf below+4*x<cLine:=r3; show unitsOf below+_<_; omega⟩
  ⟨r2,r3⟩ (fun sg=>(fin0 sg).1) (fun sg=>?_) rfl ?_ fun sg s' D=>?_
 ·have:=(ho sg).2
  exact congrArg (fun z:End4=>z.2.2.2) this
 ·refine ⟨fun b o e=>less_keep e,fun q hq=>?_,?_,rfl,rfl,.init _,rfl,rfl,(fun u hu c objs px C d e=>usesOk (huses u hu c objs px C d e)),(fun q hq=>nomatch hq),Nat.le_refl _⟩
  ·have hq:q∈C.need++[]:=hq
   rw [List.append_nil] at hq
   exact ⟨hneed q hq,less_gone (List.mem_map_of_mem hq)⟩
  ·show (((C.need++[]):List (Addr×Obj)).map (fun q=>q.1)).Nodup
   rw [List.append_nil]; exact hnd
 ·have q:=(ho sg).2
  have q1:(out sg).1=C.res (pick (s.heap.objs.size-V.top) s.toks sg):=congrArg (fun z:End4=>z.1) q
  have q2:(out sg).2.old=zipObj C.need (C.give (pick (s.heap.objs.size-V.top) s.toks sg)):=congrArg (fun z:End4=>z.2.1) q
  have q3:pickNew sel (out sg).2.new=C.new (pick (s.heap.objs.size-V.top) s.toks sg):=congrArg (fun z:End4=>z.2.2.1) q
  rw [q1]
  have nd:=D.nd
  unfold OS.led at nd
  rw [List.map_append,List.nodup_append] at nd
  refine hR _ s' ⟨fun b o e m=>D.keep b o ((less_other m).trans e),hlen _,fun z hz=>?_,fun z hz=>?_,?_,D.gens.done (fin0 sg).2,D.drawn,D.os,D.mono⟩
  ·rw [← zipObj_zip,← q2] at hz
   exact (D.led z (List.mem_append_left _ hz)).1
  ·rw [← q3] at hz
   obtain ⟨i,_,hi⟩:=pickNew_mem hz
   have hm:=nth_mem hi
   exact ⟨(D.led z (List.mem_append_right _ hm)).1,D.ge z hm⟩
  ·rw [← q3]; exact pickNew_nodup nd.2.1 hsel
end Mine
namespace Mine
open PySem.Sem (wp)
structure Pt where
 c:Code
 need:List (Addr×Obj)
noncomputable def Pt.At (kt:Addr→Option Obj) (B:Pt) (s:Shared):Prop :=
 (∀ q∈B.need,s.heap.get? q.1=some q.2)∧(∀ q∈B.need,kt q.1=none)∧(B.need.map (·.1)).Nodup
structure Since (A B:Pt) (nw:List Addr) (s s':Shared):Prop where
 keep:∀ b o,s.heap.get? b=some o→b∉A.need.map (·.1)→s'.heap.get? b=some o∧b∉B.need.map (·.1)
 gens:GensOk s.gens s'.gens
 drawn:s'.drawn=s.drawn
 os:s'.os=s.os
 size:s.heap.objs.size≤s'.heap.objs.size
 nw:∀ a∈nw,s.heap.objs.size≤a
noncomputable def Way (M:Model) (kt:Addr→Option Obj) (x:Nat) {ι:Type} (A:Pt) (B:ι→Pt) (nw:ι→List Addr):Prop :=
 ∀ (Γ:Ctx) (p:Pos) (s:Shared) (R:Result→Shared→Prop),Γ.code=A.c→Room x Γ→s.heap.NoLimit→(∀ a o,kt a=some o→s.heap.get? a=some o)→A.At kt s →
  (∀ (i:ι) (Γ':Ctx) (p':Pos) (s':Shared),Γ'.code=(B i).c→Room x Γ'→s'.heap.NoLimit→(∀ a o,kt a=some o→s'.heap.get? a=some o)→(B i).At kt s'→Since A (B i) (nw i) s s'→wpCode M Γ' R p' s') →
  wpCode M Γ R p s
section
variable {M:Model} {V:OV} {kt:Addr→Option Obj} {x y:Nat}
theorem Way.trans {ι κ:Type} {A:Pt} {B:ι→Pt} {nw:ι→List Addr} {C:κ→Pt} {nx:κ→List Addr} (W:Way M kt x A B nw)
  (h:∀ i,Way M kt x (B i) C (fun k=>(nx k).filter fun a=>!(nw i).contains a)):Way M kt x A C nx:=by
 intro Γ p s R hc hr hl hk hA fin
 refine W Γ p s R hc hr hl hk hA fun i Γ' p' s' hc' hr' hl' hk' hB S=>?_
 refine h i Γ' p' s' R hc' hr' hl' hk' hB fun k Γ'' p'' s'' hc'' hr'' hl'' hk'' hC T=>?_
 refine fin k Γ'' p'' s'' hc'' hr'' hl'' hk'' hC ⟨fun b o e n=>?_,S.gens.trans T.gens,T.drawn.trans S.drawn,T.os.trans S.os,Nat.le_trans S.size T.size,fun a ha=>?_⟩
 ·obtain ⟨e1,n1⟩:=S.keep b o e n
  exact T.keep b o e1 n1
 ·by_cases q:a∈nw i
  ·exact S.nw a q
  ·refine Nat.le_trans S.size (T.nw a ?_)
   rw [List.mem_filter]
   refine ⟨ha,?_⟩
   simpa using q
theorem Way.mono {ι κ:Type} {A:Pt} {B:ι→Pt} {nw:ι→List Addr} {C:κ→Pt} {nx:κ→List Addr} (W:Way M kt x A B nw)
  (h:∀ i,∃ k,C k=B i∧∀ a∈nx k,a∈nw i):Way M kt x A C nx:=by
 intro Γ p s R hc hr hl hk hA fin
 refine W Γ p s R hc hr hl hk hA fun i Γ' p' s' hc' hr' hl' hk' hB S=>?_
 obtain ⟨k,e,m⟩:=h i
 exact fin k Γ' p' s' (e ▸ hc') hr' hl' hk' (e ▸ hB) ⟨e ▸ S.keep,S.gens,S.drawn,S.os,S.size,fun a ha=>S.nw a (m a ha)⟩
noncomputable def evs:List Nat→List (Addr×Obj)→List Addr
 | [],_=>[]
 | _::_,[]=>[]
 | h::pl,q::need=>match Nat.beq (h % 2) 0 with
  | true=>q.1::evs pl need
  | false=>evs pl need
theorem evs_mem {a:Addr}:∀ {rs:List (Nat×Addr×Obj)} {pl:List Nat},(rs.map fun (r:Nat×Addr×Obj)=>r.1)=pl.take rs.length→a∈evs pl (rs.map fun (r:Nat×Addr×Obj)=>r.2)→∃ r∈rs,r.1 % 2=0∧r.2.1=a
 | [],pl,_,h=>by cases pl<;>cases h
 | r::rs,[],e,h=>by cases h
 | r::rs,p::pl,e,h=>by
  have e:=List.cons.inj (show r.1::(rs.map fun (r:Nat×Addr×Obj)=>r.1)=p::pl.take rs.length from e)
  have h:a∈(match Nat.beq (p % 2) 0 with
   | true=>r.2.1::evs pl (rs.map fun (r:Nat×Addr×Obj)=>r.2)
   | false=>evs pl (rs.map fun (r:Nat×Addr×Obj)=>r.2)):=h
  cases b:Nat.beq (p % 2) 0 with
  | true =>
   rw [b] at h
   rcases List.mem_cons.mp h with rfl | h
   ·exact ⟨r,.head _,by rw [e.1]; exact Nat.eq_of_beq_eq_true b,rfl⟩
   ·obtain ⟨r',m,q⟩:=evs_mem e.2 h; exact ⟨r',.tail _ m,q⟩
  | false =>
   rw [b] at h
   obtain ⟨r',m,q⟩:=evs_mem e.2 h; exact ⟨r',.tail _ m,q⟩
noncomputable def stopC (K:Code→List (Addr×Obj)→List (Nat→Nat)→Pt) (c:Code) (os:List (Addr×Obj)) (px:List (Nat→Nat)):Con :=
 ⟨(K c os px).c,(K c os px).need,fun _=>(K c os px).need.map (·.2),fun _=>[(0,lessObj)],fun _=>.ok .next⟩
noncomputable def stopU (n:Nat) (K:Code→List (Addr×Obj)→List (Nat→Nat)→Pt) (pl:List Nat):Use:=⟨n,fun c os px=>some (stopC K c os px,[]),pl,true⟩
noncomputable def stopS:Out→Option (List It×Addr)
 | none=>some ([],0)
 | some x=>some (x.2.ac,0)
noncomputable def stopD:Out→Option (List It×Addr)
 | none=>none
 | some x=>match x.2.new with
  | []=>none
  | q::_=>some (x.2.ex,q.1)
theorem Way.of_ev {A:Pt} (hs:List Nat) (us:List Use) (n:Nat) (K:Code→List (Addr×Obj)→List (Nat→Nat)→Pt) (pl:List Nat)
  (hden:∀ c,V.den c=M.den c) (hAlt:Alt M V) (htop:∀ s:Shared,(∀ a o,V.kt a=some o→s.heap.get? a=some o)→V.top≤s.heap.objs.size) (hM:∀ f args,M.den (.call f args)=callAny f args) (hset:V.set=⟨M.prog,M.w.params⟩) (hst:(V.kt cStatics).isSome=true) (hx:deep+2+y≤x) (h0:0<V.top)
  (huses:∀ u∈us,∀ c objs px C d,u.fam c objs px=some (C,d)→C.Ok M V.kt (match u.top with | true=>x | false=>y))
  (E:∀ (own past:Option Value) (below:List (Code×Pos)) (p:Pos) (N T:Nat) (sg:Sg),
   stopS (evCode0 V ⟨A.c,none,own,below,past⟩ p sg ⟨A.need,[],0,N+V.top,T,hs,0,us++[stopU n K pl],[],[],[],[]⟩) =
    stopD (evCode0 V ⟨A.c,none,own,below,past⟩ p sg ⟨A.need,[],0,N+V.top,T,hs,0,us++[stopU n K pl],[],[],[],[]⟩)) :
  Way M V.kt x A (fun z:Code×List (Addr×Obj)×List (Nat→Nat)=>K z.1 z.2.1 z.2.2) (fun z=>evs pl (K z.1 z.2.1 z.2.2).need):=by
 intro Γ p s R hc hroom hlim hkt hA fin
 obtain ⟨hneed,hkn,hnd⟩:=hA
 obtain ⟨code,handled,own,below,past⟩:=Γ
 obtain ⟨r1,r2,r3⟩:=hroom
 have hc:code=A.c:=hc
 have r1:handled=none:=r1
 subst hc; subst r1
 have hz:s.heap.objs.size-V.top+V.top=s.heap.objs.size:=Nat.sub_add_cancel (htop s hkt)
 have E:=E own past below p (s.heap.objs.size-V.top) s.toks
 rw [hz] at E
 let st:OS:=⟨A.need,[],0,s.heap.objs.size,s.toks,hs,0,us++[stopU n K pl],[],[],[],[]⟩
 have ex:∀ sg,∃ o:Result×OS,evCode0 V ⟨A.c,none,own,below,past⟩ p sg st=some o∧o.2.good∧∃ q l,o.2.new=q::l∧q.1=0:=fun sg=>by
  have E:=E sg
  cases q:evCode0 V ⟨A.c,none,own,below,past⟩ p sg st with
  | none =>
   have q':evCode0 V ⟨A.c,none,own,below,past⟩ p sg ⟨A.need,[],0,s.heap.objs.size,s.toks,hs,0,us++[stopU n K pl],[],[],[],[]⟩=none:=q
   rw [q'] at E; cases E
  | some o =>
   have q':evCode0 V ⟨A.c,none,own,below,past⟩ p sg ⟨A.need,[],0,s.heap.objs.size,s.toks,hs,0,us++[stopU n K pl],[],[],[],[]⟩=some o:=q
   rw [q'] at E
   refine ⟨o,rfl,?_⟩
   unfold stopS stopD at E
   dsimp only at E
   split at E
   ·cases E
   ·rename_i z l hz
    have E:=Prod.mk.inj (Option.some.inj E)
    exact ⟨E.1,z,l,hz,E.2.symm⟩
 let out:Sg→Result×OS:=fun sg=>Classical.choose (ex sg)
 have ho:∀ sg,evCode0 V ⟨A.c,none,own,below,past⟩ p sg st=some (out sg)∧(out sg).2.good∧∃ q l,(out sg).2.new=q::l∧q.1=0:=fun sg=>Classical.choose_spec (ex sg)
 let h₀:=less (A.need.map (·.1)) s.heap
 have notIn:∀ a o,V.kt a=some o→a∉A.need.map (·.1):=fun a o k m=>by
  obtain ⟨q,hq,e⟩:=List.mem_map.mp m
  rw [← e,hkn q hq] at k; cases k
 have lim:h₀.NoLimit:=by
  obtain ⟨mc,⟨o,es,ep,e,r⟩,hn⟩:=hlim
  obtain ⟨o',ho'⟩:=Option.isSome_iff_exists.mp hst
  exact ⟨mc,⟨o,es,ep,(less_other (notIn _ _ ho')).trans e,r⟩,hn⟩
 refine evCode_sound (M:=M) (V:=V) (h₀:=h₀) (s₀:=s) (x:=y) (X:=x) (out:=out) hden hAlt (htop s hkt) hM (fun a o k=>(less_other (notIn a o k)).trans (hkt a o k)) lim hset
  ⟨by have h2:frameCount below+2*x<recursionLimit:=r2; show frameCount below+_<_; omega,by have h3:unitsOf below+4*x<cLine:=r3; show unitsOf below+_<_; omega⟩
  ⟨r2,r3⟩ (fun sg=>(ho sg).1) (fun sg=>(ho sg).2.1) rfl ?_ fun sg s' D=>?_
 ·refine ⟨fun b o e=>less_keep e,fun q hq=>?_,?_,rfl,rfl,.init _,rfl,rfl,fun u hu c objs px C d e=>?_,(fun q hq=>nomatch hq),Nat.le_refl _⟩
  ·have hq:q∈A.need++[]:=hq
   rw [List.append_nil] at hq
   exact ⟨hneed q hq,less_gone (List.mem_map_of_mem hq)⟩
  ·show (((A.need++[]):List (Addr×Obj)).map (fun q=>q.1)).Nodup
   rw [List.append_nil]; exact hnd
  ·rcases List.mem_append.mp (show u∈us++[stopU n K pl] from hu) with hu | hu
   ·exact usesOk (huses u hu c objs px C d e)
   ·have hu:=List.mem_singleton.mp hu
    subst hu
    show C.OkT M V.kt x h₀ s R pl
    have e:some (stopC K c objs px,([]:List (It×It)))=some (C,d):=e
    have e:stopC K c objs px=C:=(Prod.mk.inj (Option.some.inj e)).1
    subst e
    intro Γ' p' s' hc' hr' hl' hk' hn' hkn' hnd' hkeep hno hg hd hos hsz hrs _
    refine fin (c,objs,px) Γ' p' s' hc' hr' hl' hk' ⟨hn',hkn',hnd'⟩ ⟨fun b o e m=>?_,hg,hd,hos,hsz,fun a ha=>?_⟩
    ·have z:h₀.get? b=some o:=(less_other m).trans e
     refine ⟨hkeep b o z,fun m=>?_⟩
     obtain ⟨q,hq,eb⟩:=List.mem_map.mp m
     have:=hno q hq
     rw [eb,z] at this; cases this
    ·obtain ⟨rs,r1,r2,r3⟩:=hrs
     have ha:a∈evs pl (stopC K c objs px).need:=ha
     rw [← r1] at ha r2
     obtain ⟨r,hr,h1,h2⟩:=evs_mem (by rw [List.length_map] at r2; exact r2) ha
     exact h2 ▸ r3 r hr h1
 ·obtain ⟨q,l,hq,hq0⟩:=(ho sg).2.2
  have:=D.ge q (by rw [hq]; exact .head _)
  rw [hq0] at this
  have:=htop s hkt
  omega
end
end Mine
namespace Mine
open PySem.Sem (wp)
noncomputable def Fam.Ok (M:Model) (kt:Addr→Option Obj) (x:Nat) (f:Fam):Prop:=∀ c objs px C d,f c objs px=some (C,d)→C.Ok M kt x
noncomputable def oN:List (Addr×Obj)→Nat→Obj
 | [],_=>{cls:=.none}
 | o::_,0=>o.2
 | _::os,i+1=>oN os i
noncomputable def epN (os:List (Addr×Obj)) (i:Nat):Nat:=match (oN os i).data with
 | .seq _ e=>e
 | .dict _ e=>e
 | _=>0
noncomputable def slN:List DictEntry→Nat→Value
 | [],_=>.none
 | e::_,0=>e.val
 | _::es,k+1=>slN es k
noncomputable def slotN (os:List (Addr×Obj)) (i k:Nat):Value:=match (oN os i).data with
 | .dict ⟨es⟩ _=>slN es k
 | _=>.none
noncomputable def tokV:Value→Tok
 | .str _ t=>t
 | .int _ t=>t
 | _=>0
noncomputable def strV:Value→Str
 | .str s _=>s
 | _=>⟨#[]⟩
noncomputable def fam1 (K:Code→List (Addr×Obj)→Con):Fam:=fun c os _=>some (K c os,[])
theorem fam1_ok {M:Model} {kt:Addr→Option Obj} {x:Nat} {K:Code→List (Addr×Obj)→Con} (h:∀ c os,(K c os).Ok M kt x):(fam1 K).Ok M kt x:=by
 intro c os px C d e
 have e2:K c os=C:=congrArg Prod.fst (Option.some.inj e)
 subst e2
 exact h c os
theorem Room.mono {x x':Nat} {Γ:Ctx} (hx:x≤x') (h:Room x' Γ):Room x Γ:=⟨h.1,by have:=h.2.1; omega,by have:=h.2.2; omega⟩
theorem Con.Ok.mono {M:Model} {kt:Addr→Option Obj} {x x':Nat} {C:Con} (h:C.Ok M kt x) (hx:x≤x'):C.Ok M kt x' :=
 fun Γ p s R hc hr=>h Γ p s R hc (hr.mono hx)
theorem Fam.Ok.mono {M:Model} {kt:Addr→Option Obj} {x x':Nat} {F:Fam} (h:F.Ok M kt x) (hx:x≤x'):F.Ok M kt x' :=
 fun c os px C d e=>(h c os px C d e).mono hx
noncomputable def keyL:List DictEntry→Nat→Value
 | [],_=>.none
 | e::_,0=>e.key
 | _::es,k+1=>keyL es k
noncomputable def keyN (os:List (Addr×Obj)) (i k:Nat):Value:=match (oN os i).data with
 | .dict ⟨es⟩ _=>keyL es k
 | _=>.none
noncomputable def valL:List Value→Nat→Value
 | [],_=>.none
 | v::_,0=>v
 | _::vs,k+1=>valL vs k
noncomputable def valN (os:List (Addr×Obj)) (i k:Nat):Value:=match (oN os i).data with
 | .fields ⟨vs⟩=>valL vs k
 | .seq ⟨vs⟩ _=>valL vs k
 | _=>.none
noncomputable def adN:List (Addr×Obj)→Nat→Addr
 | [],_=>0
 | o::_,0=>o.1
 | _::os,i+1=>adN os i
noncomputable def ent (P:Params) (name:String) (tk:Tok) (v:Value):DictEntry:=⟨PyData.keyHash P (Str.ofString name),.str (Str.ofString name) tk,v⟩
noncomputable def AllFam (M:Model) (kt:Addr→Option Obj) (x y:Nat):List Use→Prop
 | []=>True
 | u::us=>Fam.Ok M kt (match u.top with | true=>x | false=>y) u.fam∧AllFam M kt x y us
theorem AllFam.mem {M:Model} {kt:Addr→Option Obj} {x y:Nat}:∀ {us:List Use},AllFam M kt x y us→∀ u∈us,∀ c objs px C d,u.fam c objs px=some (C,d)→C.Ok M kt (match u.top with | true=>x | false=>y)
 | v::us,h,u,hu=>by
  rcases List.mem_cons.mp hu with rfl | hu
  ·exact h.1
  ·exact h.2.mem u hu
noncomputable def fam2 (K:Code→List (Addr×Obj)→List (Nat→Nat)→Con):Fam:=fun c os px=>some (K c os px,[])
theorem fam2_ok {M:Model} {kt:Addr→Option Obj} {x:Nat} {K:Code→List (Addr×Obj)→List (Nat→Nat)→Con} (h:∀ c os px,(K c os px).Ok M kt x):(fam2 K).Ok M kt x:=by
 intro c os px C d e
 have e2:K c os px=C:=congrArg Prod.fst (Option.some.inj e)
 subst e2
 exact h c os px
noncomputable def pxN:List (Nat→Nat)→Nat→Nat→Nat
 | [],_=>fun _=>0
 | f::_,0=>f
 | _::l,i+1=>pxN l i
noncomputable def vN (os:List (Addr×Obj)) (i k:Nat):Value:=match (oN os i).data with
 | .dict ⟨es⟩ _=>slN es k
 | .fields ⟨vs⟩=>valL vs k
 | .seq ⟨vs⟩ _=>valL vs k
 | .cell (some v)=>v
 | _=>.none
noncomputable def dE (P:Params) (k:Nat→Tok):Nat→List (String×Value)→List DictEntry
 | _,[]=>[]
 | j,e::l=>ent P e.1 (k j) e.2::dE P k (j+1) l
noncomputable def lsO (its:List Value) (ep:Nat):Obj:={cls:=.type "list",data:=.seq ⟨its⟩ ep}
noncomputable def tpO (its:List Value):Obj:={cls:=.type "tuple",data:=.seq ⟨its⟩ 0}
noncomputable def argV (c:Code) (i:Nat):Value:=match c with
 | .builtin _ ⟨l,_⟩=>valL l i
 | .call _ ⟨l,_⟩=>valL l i
 | _=>.none
noncomputable def argT (c:Code) (i:Nat):Tok:=tokV (argV c i)
noncomputable def refV:Value→Addr
 | .ref a=>a
 | _=>0
noncomputable def oC (os:List (Addr×Obj)) (i:Nat):Value:=(oN os i).cls
noncomputable def oD (os:List (Addr×Obj)) (i:Nat):Option Addr:=(oN os i).dict
noncomputable def oS (os:List (Addr×Obj)) (i:Nat):Array (Option Value):=(oN os i).slots
end Mine
namespace Mine
open PySem.Sem (wp)
theorem Con.of_any {prog:Program} {w:World} {kt:Addr→Option Obj} {x:Nat} {C:Con}
  (h:∀ (A:Around) (s:Shared) (R:Result→Shared→Prop),A.handled=none→A.depth+2*x<recursionLimit→A.units+4*x<cLine→s.heap.NoLimit→(∀ a o,kt a=some o→s.heap.get? a=some o) →
   (∀ q∈C.need,s.heap.get? q.1=some q.2)→(∀ q∈C.need,kt q.1=none)→(C.need.map (·.1)).Nodup →
   (∀ xs s',After C s xs s'→R (C.res xs) s')→codeAny (model prog w) A C.c R s):C.Ok (model prog w) kt x:=by
 intro Γ p s R hc hroom hlim hkt hneed hkn hnd hR
 obtain ⟨h1,h2,h3⟩:=hroom
 exact h {handled:=none,depth:=frameCount Γ.below,frames:=none,guards:=none,units:=unitsOf Γ.below} s R rfl h2 h3 hlim hkt hneed hkn hnd hR Γ p hc
  ⟨h1,Nat.le_refl _,(fun l q=>by cases q),(fun g q=>by cases q),Nat.le_refl _⟩
theorem After.none {C:Con} {s s':Shared} {xs:Nat→Nat} (hn:C.need=[]) (hg:C.give xs=[]) (hw:C.new xs=[]) (h:s'.heap=s.heap) (g:s'.gens=s.gens) (d:s'.drawn=s.drawn) (o:s'.os=s.os):After C s xs s':=by
 constructor
 ·intro b o e _; rw [h]; exact e
 ·rw [hg,hn]; rfl
 ·intro q hq; rw [hg] at hq; simp at hq
 ·intro q hq; rw [hw] at hq; cases hq
 ·rw [hw]; exact List.nodup_nil
 ·rw [g]; exact .refl _
 ·exact d
 ·exact o
 ·rw [h]; exact Nat.le_refl _
noncomputable def kVal (id:String) (args:List Value) (v:(Nat→Nat)→Value):Con:=⟨.builtin id ⟨args,[]⟩,[],fun _=>[],fun _=>[],fun xs=>.ok (.ret (v xs))⟩
section
variable {prog:Program} {w:World} {kt:Addr→Option Obj} {x:Nat} {id:String} {B:Builtin} {args:List Value}
theorem kVal_ok {v:(Nat→Nat)→Value} (pl:plainId id=true) (en:entryFor table id=some B) (m:Made) (g:Gives (B ⟨args,[]⟩) m)
  (hm:∀ (Q:Value→Shared→Prop) (s:Shared),(∀ (xs:Nat→Nat) tk,Q (v xs) {s with toks:=tk})→m.post Q s):(kVal id args v).Ok (model prog w) kt x:=by
 refine Con.of_any fun A s R _ _ _ _ _ _ _ _ hR=>?_
 refine codeAny_builtin en ?_
 rw [Around.under_plainId pl]
 exact g prog w A R s (hm _ s fun xs tk=>hR xs _ (After.none rfl rfl rfl rfl rfl rfl rfl))
theorem kInt_ok {n:Int} (pl:plainId id=true) (en:entryFor table id=some B) (g:Gives (B ⟨args,[]⟩) (.int n)):(kVal id args fun xs=>.int n (xs 0)).Ok (model prog w) kt x :=
 kVal_ok pl en _ g fun Q s h=>h (fun _=>s.toks) (s.toks+1)
theorem kStr_ok {n:Str} (pl:plainId id=true) (en:entryFor table id=some B) (g:Gives (B ⟨args,[]⟩) (.str n)) (hn:n.length≤sizeLine):(kVal id args fun xs=>.str n (xs 0)).Ok (model prog w) kt x :=
 kVal_ok pl en _ g fun Q s h=>⟨hn,h (fun _=>s.toks) (s.toks+1)⟩
theorem kBool_ok {b b':Bool} (pl:plainId id=true) (en:entryFor table id=some B) (g:Gives (B ⟨args,[]⟩) (.val (.bool b))) (hb:b=b'):(kVal id args fun _=>.bool b').Ok (model prog w) kt x :=
 kVal_ok pl en _ g fun Q s h=>by subst hb; exact h (fun _=>0) s.toks
end
noncomputable def fII (id:String) (a b:Int) (r:Bool):Fam:=fam1 fun c _=>kVal id [.int a (argT c 0),.int b (argT c 1)] fun _=>.bool r
noncomputable def fIIi (id:String) (a b r:Int):Fam:=fam1 fun c _=>kVal id [.int a (argT c 0),.int b (argT c 1)] fun xs=>.int r (xs 0)
noncomputable def fSS (id:String) (a b:Str) (r:Bool):Fam:=fam1 fun c _=>kVal id [.str a (argT c 0),.str b (argT c 1)] fun _=>.bool r
section
variable {prog:Program} {w:World} {kt:Addr→Option Obj} {x:Nat} {id:String} {B:Builtin}
theorem fII_ok {a b:Int} {v r:Bool} (pl:plainId id=true) (en:entryFor table id=some B) (g:∀ t u,Gives (B ⟨[.int a t,.int b u],[]⟩) (.val (.bool v))) (h:v=r):(fII id a b r).Ok (model prog w) kt x:=fam1_ok fun _ _=>kBool_ok pl en (g _ _) h
theorem fIIi_ok {a b r:Int} (pl:plainId id=true) (en:entryFor table id=some B) (g:∀ t u,Gives (B ⟨[.int a t,.int b u],[]⟩) (.int r)):(fIIi id a b r).Ok (model prog w) kt x:=fam1_ok fun _ _=>kInt_ok pl en (g _ _)
theorem fSS_ok {a b:Str} {v r:Bool} (pl:plainId id=true) (en:entryFor table id=some B) (g:∀ t u,Gives (B ⟨[.str a t,.str b u],[]⟩) (.val (.bool v))) (h:v=r):(fSS id a b r).Ok (model prog w) kt x:=fam1_ok fun _ _=>kBool_ok pl en (g _ _) h
theorem int_lt_ok {a b:Int} {r:Bool} (h:decide (a<b)=r):(fII "int.__lt__" a b r).Ok (model prog w) kt x:=fII_ok (by decide +kernel) F.entry_int_lt (fun t u=>AutoIntG1.int___lt___int_int_0 a t b u) h
theorem int_le_ok {a b:Int} {r:Bool} (h:decide (a≤b)=r):(fII "int.__le__" a b r).Ok (model prog w) kt x:=fII_ok (by decide +kernel) F.entry_int_le (fun t u=>AutoIntG1.int___le___int_int_0 a t b u) h
theorem int_gt_ok {a b:Int} {r:Bool} (h:decide (a > b)=r):(fII "int.__gt__" a b r).Ok (model prog w) kt x:=fII_ok (by decide +kernel) F.entry_int_gt (fun t u=>AutoIntG4.int___gt___int_int_0 a t b u) h
theorem int_ne_ok {a b:Int} {r:Bool} (h:(a != b)=r):(fII "int.__ne__" a b r).Ok (model prog w) kt x:=fII_ok (by decide +kernel) F.entry_int_ne (fun t u=>AutoIntG6.int___ne___int_int_0 a t b u) h
theorem int_mod_ok {a b r:Int} (h:(b==0)=false) (e:a.fmod b=r):(fIIi "int.__mod__" a b r).Ok (model prog w) kt x:=by subst e; exact fIIi_ok (by decide +kernel) F.entry_int_mod (fun t u=>AutoIntG6.int___mod___int_int_1 a t b u (by simp [h]))
theorem str_eq_ok {a b:Str} {r:Bool} (h:(a.cps.toList==b.cps.toList)=r):(fSS "str.__eq__" a b r).Ok (model prog w) kt x:=fSS_ok (by decide +kernel) F.entry_str_eq (fun t u=>gives_str_eq a b t u) h
theorem str_ne_ok {a b:Str} {r:Bool} (h:(a.cps.toList != b.cps.toList)=r):(fSS "str.__ne__" a b r).Ok (model prog w) kt x:=fSS_ok (by decide +kernel) F.entry_str_ne (fun t u=>gives_str_ne a b t u) h
end
theorem erase0_size (c:Value) (rest:List Value):((⟨c::rest⟩:Array Value).eraseIdxIfInBounds 0)=⟨rest⟩:=by
 simp [Array.eraseIdxIfInBounds]
theorem pop0_meets (l:Addr) (cls:Value) (d:Option Addr) (sl:Array (Option Value)) (c:Value) (rest:List Value) (n:Nat) (t:Tok) (h:rest.length<sizeLine) :
  Meets (Builtin.«list.pop» ⟨[.ref l,.int 0 t],[]⟩) (fun _ R s=>s.heap.get? l=some {cls:=cls,dict:=d,data:=.seq ⟨c::rest⟩ n,slots:=sl}∧R (.ok (.ret c)) {s with heap:=s.heap.update l (Obj.mapSeq fun x=>x.eraseIdxIfInBounds 0)}) :=
 .of_wp fun prog w A R s hh=>by
  obtain ⟨hp,g,dd,tk,os⟩:=s; obtain ⟨hl,hh⟩:=hh
  have hz:(⟨c::rest⟩:Array Value).size≤sizeLine:=h
  have hz':((⟨c::rest⟩:Array Value).eraseIdxIfInBounds 0).size≤sizeLine+1:=by
   rw [erase0_size]; exact Nat.le_succ_of_le (Nat.le_of_lt h)
  have e:((seqIndex? 0 (⟨c::rest⟩:Array Value).size).bind fun k=>Option.map (fun x=>(k,x)) (⟨c::rest⟩:Array Value)[k]?)=some (0,c):=by
   simp [seqIndex?]
  wp_walk
  rw [e]
  dsimp only
  wp_walk using (wpAny_updateSeq hl rfl (hz:=hz) (_hz':=hz'))
  exact ⟨_,rfl,hh⟩
theorem pop0_any {prog:Program} {w:World} {A:Around} {s:Shared} {R:Result→Shared→Prop} {l:Addr} {cls:Value} {d:Option Addr} {sl:Array (Option Value)} {c:Value} {rest:List Value} {n:Nat} {t:Tok} (h:rest.length<sizeLine)
  (hl:s.heap.get? l=some {cls:=cls,dict:=d,data:=.seq ⟨c::rest⟩ n,slots:=sl}) (hR:R (.ok (.ret c)) {s with heap:=s.heap.update l (Obj.mapSeq fun x=>x.eraseIdxIfInBounds 0)}):codeAny (model prog w) A (.builtin "list.pop" ⟨[.ref l,.int 0 t],[]⟩) R s:=by
 refine codeAny_builtin F.entry_list_pop ?_
 rw [Around.under_plainId (by decide +kernel)]
 exact pop0_meets l cls d sl c rest n t h prog w A R s ⟨hl,hR⟩
theorem After.one {C:Con} {s:Shared} {xs:Nat→Nat} {l:Addr} {o:Obj} {f:Obj→Obj} {tk:Nat} (hn:C.need=[(l,o)]) (hw:C.new xs=[]) (hl:s.heap.get? l=some o) (hf:(f o).isFreed=false) (hg:C.give xs=[f o]) :
  After C s xs {s with heap:=s.heap.update l f,toks:=tk}:=by
 have hs:Heap.SameBut l s.heap (s.heap.update l f):=Heap.SameBut.update ..
 constructor
 ·intro b o' e m
  rw [hn] at m
  exact (hs.2 b fun q=>m (by subst q; simp)).trans e
 ·rw [hg,hn]; rfl
 ·intro q hq
  rw [hg,hn] at hq
  simp at hq
  subst hq
  first | exact Heap.get?_update_self f hl hf | exact Heap.get?_update_self _ hl hf
 ·intro q hq; rw [hw] at hq; cases hq
 ·rw [hw]; exact List.nodup_nil
 ·exact .refl _
 ·rfl
 ·rfl
 ·show s.heap.objs.size≤(s.heap.update l f).objs.size
  rw [hs.1]; exact Nat.le_refl _
noncomputable def kPop0 (l:Addr) (cls:Value) (d:Option Addr) (sl:Array (Option Value)) (c:Value) (rest:List Value) (n:Nat) (t:Tok):Con :=
 ⟨.builtin "list.pop" ⟨[.ref l,.int 0 t],[]⟩,[(l,⟨cls,d,.seq ⟨c::rest⟩ n,sl⟩)],fun _=>[⟨cls,d,.seq ⟨rest⟩ (n+1),sl⟩],fun _=>[],fun _=>.ok (.ret c)⟩
theorem kPop0_ok {prog:Program} {w:World} {kt:Addr→Option Obj} {x:Nat} (l:Addr) (cls:Value) (d:Option Addr) (sl:Array (Option Value)) (c:Value) (rest:List Value) (n:Nat) (t:Tok) (h:rest.length<sizeLine):(kPop0 l cls d sl c rest n t).Ok (model prog w) kt x:=by
 refine Con.of_any fun A s R _ _ _ _ _ hneed _ _ hR=>?_
 have hl:=hneed (l,_) (.head _)
 refine pop0_any h hl (hR (fun _=>0) _ (After.one (o:=⟨cls,d,.seq ⟨c::rest⟩ n,sl⟩) rfl rfl hl rfl ?_))
 show [_]=[_]
 unfold Obj.mapSeq
 simp only [erase0_size]
 simp
noncomputable def fPop0 (c:Value) (rest:List Value):Fam:=fam1 fun k os=>kPop0 (adN os 0) (oC os 0) (oD os 0) (oS os 0) c rest (epN os 0) (argT k 1)
theorem fPop0_ok {prog:Program} {w:World} {kt:Addr→Option Obj} {x:Nat} {c:Value} {rest:List Value} (h:rest.length<sizeLine):(fPop0 c rest).Ok (model prog w) kt x:=fam1_ok fun _ _=>kPop0_ok _ _ _ _ _ _ _ _ h
theorem append_meets (l:Addr) (cls:Value) (d:Option Addr) (sl:Array (Option Value)) (items:Array Value) (n:Nat) (x:Value) (hsz:items.size≤sizeLine) :
  Meets (Builtin.«list.append» ⟨[.ref l,x],[]⟩) (fun _ R s=>s.heap.get? l=some ⟨cls,d,.seq items n,sl⟩∧R (.ok (.ret Value.none)) {s with heap:=s.heap.update l (Obj.mapSeq fun x_1=>x_1.push x),toks:=s.toks}) :=
 .of_wp fun prog w A R s h=>by
  obtain ⟨hp,g,dd,tk,os⟩:=s; obtain ⟨hl,h⟩:=h
  have hz':(items.push x).size≤sizeLine+1:=by rw [Array.size_push]; omega
  wp_walk using (wpAny_updateSeq hl rfl (hz:=hsz) (_hz':=hz')); exact ⟨_,rfl,h⟩
noncomputable def kAppend (l:Addr) (cls:Value) (d:Option Addr) (sl:Array (Option Value)) (items:Array Value) (n:Nat) (x:Value):Con :=
 ⟨.builtin "list.append" ⟨[.ref l,x],[]⟩,[(l,⟨cls,d,.seq items n,sl⟩)],fun _=>[⟨cls,d,.seq (items.push x) (n+1),sl⟩],fun _=>[],fun _=>.ok (.ret .none)⟩
theorem kAppend_ok {prog:Program} {w:World} {kt:Addr→Option Obj} {y:Nat} (l:Addr) (cls:Value) (d:Option Addr) (sl:Array (Option Value)) (items:Array Value) (n:Nat) (x:Value) (h:items.size≤sizeLine):(kAppend l cls d sl items n x).Ok (model prog w) kt y:=by
 refine Con.of_any fun A s R _ _ _ _ _ hneed _ _ hR=>?_
 have hl:=hneed (l,_) (.head _)
 refine codeAny_builtin F.entry_list_append ?_
 rw [Around.under_plainId (by decide +kernel)]
 refine append_meets l cls d sl items n x h prog w A R s ⟨hl,hR (fun _=>0) _ (After.one (o:=⟨cls,d,.seq items n,sl⟩) rfl rfl hl rfl ?_)⟩
 show [_]=[_]
 unfold Obj.mapSeq
 simp
noncomputable def fAppend (items:Array Value):Fam:=fam1 fun k os=>kAppend (adN os 0) (oC os 0) (oD os 0) (oS os 0) items (epN os 0) (argV k 1)
theorem fAppend_ok {prog:Program} {w:World} {kt:Addr→Option Obj} {y:Nat} {items:Array Value} (h:items.size≤sizeLine):(fAppend items).Ok (model prog w) kt y:=fam1_ok fun _ _=>kAppend_ok _ _ _ _ _ _ _ h
theorem popLast_meets (l:Addr) (cls:Value) (d:Option Addr) (sl:Array (Option Value)) (xs:Array Value) (x:Value) (n:Nat) (h:xs.size<sizeLine) :
  Meets (Builtin.«list.pop» ⟨[.ref l],[]⟩) (fun _ R s=>s.heap.get? l=some {cls:=cls,dict:=d,data:=.seq (xs.push x) n,slots:=sl}∧R (.ok (.ret x)) {s with heap:=s.heap.update l (Obj.mapSeq fun y=>y.eraseIdxIfInBounds xs.size)}) :=
 .of_wp fun prog w A R s hh=>by
  obtain ⟨hp,g,dd,tk,os⟩:=s; obtain ⟨hl,hh⟩:=hh
  have hz:(xs.push x).size≤sizeLine:=by rw [Array.size_push]; exact h
  have hz':((xs.push x).eraseIdxIfInBounds xs.size).size≤sizeLine+1:=by
   have:((xs.push x).eraseIdxIfInBounds xs.size).size≤(xs.push x).size:=by unfold Array.eraseIdxIfInBounds; split<;>simp
   omega
  have e:((seqIndex? (-1) (xs.push x).size).bind fun k=>Option.map (fun z=>(k,z)) (xs.push x)[k]?)=some (xs.size,x):=by
   have:seqIndex? (-1) (xs.push x).size=some xs.size:=by
    unfold seqIndex?
    simp
    first | omega | (split<;>first | omega | simp_all | (simp; omega))
   rw [this]; simp
  have ne:(xs.push x).isEmpty=false:=by simp
  wp_walk
  rw [e]
  dsimp only
  wp_walk using (wpAny_updateSeq hl rfl (hz:=hz) (_hz':=hz'))
  exact ⟨_,rfl,hh⟩
theorem eraseLast (xs:Array Value) (x:Value):(xs.push x).eraseIdxIfInBounds xs.size=xs:=by
 obtain ⟨l⟩:=xs
 simp [Array.eraseIdxIfInBounds]
 first | done | (apply Array.toList_inj.mp; simp) | (rw [List.eraseIdx_append_of_length_le (Nat.le_refl _)]; simp)
noncomputable def kPopL (l:Addr) (cls:Value) (d:Option Addr) (sl:Array (Option Value)) (xs:Array Value) (x:Value) (n:Nat):Con :=
 ⟨.builtin "list.pop" ⟨[.ref l],[]⟩,[(l,⟨cls,d,.seq (xs.push x) n,sl⟩)],fun _=>[⟨cls,d,.seq xs (n+1),sl⟩],fun _=>[],fun _=>.ok (.ret x)⟩
theorem kPopL_ok {prog:Program} {w:World} {kt:Addr→Option Obj} {y:Nat} (l:Addr) (cls:Value) (d:Option Addr) (sl:Array (Option Value)) (xs:Array Value) (x:Value) (n:Nat) (h:xs.size<sizeLine):(kPopL l cls d sl xs x n).Ok (model prog w) kt y:=by
 refine Con.of_any fun A s R _ _ _ _ _ hneed _ _ hR=>?_
 have hl:=hneed (l,_) (.head _)
 refine codeAny_builtin F.entry_list_pop ?_
 rw [Around.under_plainId (by decide +kernel)]
 refine popLast_meets l cls d sl xs x n h prog w A R s ⟨hl,hR (fun _=>0) _ (After.one (o:=⟨cls,d,.seq (xs.push x) n,sl⟩) rfl rfl hl rfl ?_)⟩
 show [_]=[_]
 unfold Obj.mapSeq
 simp only [eraseLast]
 simp
noncomputable def fPopL (xs:Array Value) (x:Value):Fam:=fam1 fun _ os=>kPopL (adN os 0) (oC os 0) (oD os 0) (oS os 0) xs x (epN os 0)
theorem fPopL_ok {prog:Program} {w:World} {kt:Addr→Option Obj} {y:Nat} {xs:Array Value} {x:Value} (h:xs.size<sizeLine):(fPopL xs x).Ok (model prog w) kt y:=fam1_ok fun _ _=>kPopL_ok _ _ _ _ _ _ _ h
end Mine
namespace Mine
open PySem.Sem (wp)
theorem mem_zip_map {p:Addr×Obj}:∀ {l:List (Addr×Obj)},p∈(l.map (·.1)).zip (l.map (·.2))→p∈l
 | [],h=>by cases h
 | q::l,h=>by
  rcases List.mem_cons.mp (show p∈(q.1,q.2)::(l.map (·.1)).zip (l.map (·.2)) from h) with rfl | h
  ·exact .head _
  ·exact .tail _ (mem_zip_map h)
theorem After.same {C:Con} {s s':Shared} {xs:Nat→Nat} (hneed:∀ q∈C.need,s.heap.get? q.1=some q.2) (hg:C.give xs=C.need.map (·.2)) (hw:C.new xs=[]) (h:s'.heap=s.heap) (g:s'.gens=s.gens) (d:s'.drawn=s.drawn) (o:s'.os=s.os):After C s xs s':=by
 constructor
 ·intro b o e _; rw [h]; exact e
 ·rw [hg,List.length_map]
 ·intro q hq; rw [hg] at hq; rw [h]; exact hneed q (mem_zip_map hq)
 ·intro q hq; rw [hw] at hq; cases hq
 ·rw [hw]; exact List.nodup_nil
 ·rw [g]; exact .refl _
 ·exact d
 ·exact o
 ·rw [h]; exact Nat.le_refl _
section
variable {prog:Program} {w:World} {kt:Addr→Option Obj} {x:Nat}
noncomputable def kLenL (l:Addr) (its:List Value) (ep:Nat) (sl:Array (Option Value)) (n:Int):Con :=
 ⟨.builtin "len" ⟨[.ref l],[]⟩,[(l,⟨.type "list",none,.seq ⟨its⟩ ep,sl⟩)],fun _=>[⟨.type "list",none,.seq ⟨its⟩ ep,sl⟩],fun _=>[],fun xs=>.ok (.ret (.int n (xs 0)))⟩
theorem kLenL_ok (l:Addr) (its:List Value) (ep:Nat) (sl:Array (Option Value)) (n:Int) (hn:n=its.length) (h:its.length≤sizeLine):(kLenL l its ep sl n).Ok (model prog w) kt x:=by
 subst hn
 refine Con.of_any fun A s R _ _ _ _ _ hneed _ _ hR=>?_
 have hl:=hneed (l,_) (.head _)
 refine codeAny_builtin PySem.entry_len ?_
 rw [Around.under_plainId (by decide +kernel)]
 have hz:((⟨its⟩:Array Value).size:Int)<2 ^ 63:=by
  show (its.length:Int)<2 ^ 63
  have:sizeLine=2 ^ 24:=rfl
  omega
 refine wpAny_mono (wpAny_len_body_list (Q:=fun r s'=>R (.ok (.ret r)) s') (l:=l) (items:=⟨its⟩) ⟨_,hl,rfl,_,rfl⟩ hz ?_) (fun fin s' q=>by obtain ⟨r,rfl,hq⟩:=q; exact hq) fun _ _ e=>e
 exact hR (fun _=>s.toks+1) _ (After.same hneed rfl rfl rfl rfl rfl rfl)
noncomputable def fLenL (its:List Value) (n:Int):Fam:=fam1 fun _ os=>kLenL (adN os 0) its (epN os 0) (oS os 0) n
theorem fLenL_ok {its:List Value} {n:Int} (hn:n=its.length) (h:its.length≤sizeLine):(fLenL its n).Ok (model prog w) kt x:=fam1_ok fun _ _=>kLenL_ok _ _ _ _ _ hn h
noncomputable def kLenS (a:Str) (t:Tok) (n:Int):Con:=kVal "len" [.str a t] fun xs=>.int n (xs 0)
theorem kLenS_ok (a:Str) (t:Tok) (n:Int) (hn:n=a.length) (h:a.length≤sizeLine):(kLenS a t n).Ok (model prog w) kt x:=by
 subst hn
 refine Con.of_any fun A s R _ _ _ _ _ hneed _ _ hR=>?_
 refine codeAny_builtin PySem.entry_len ?_
 rw [Around.under_plainId (by decide +kernel)]
 have hz:¬ (a.length:Int)≥2 ^ 63:=by
  have:sizeLine=2 ^ 24:=rfl
  omega
 refine wpAny_mono (wpAny_len_body (Q:=fun r s'=>R (.ok (.ret r)) s') (typeIs_str s a t) F.slot_str_len F.entry_str_len (F.args_str_len_1 _) (gives_str_len a t) (by omega) hz ?_) (fun fin s' q=>by obtain ⟨r,rfl,hq⟩:=q; exact hq) fun _ _ e=>e
 exact hR (fun _=>s.toks+1) _ (After.none rfl rfl rfl rfl rfl rfl rfl)
noncomputable def fLenS (a:Str) (n:Int):Fam:=fam1 fun c _=>kLenS a (argT c 0) n
theorem fLenS_ok {a:Str} {n:Int} (hn:n=a.length) (h:a.length≤sizeLine):(fLenS a n).Ok (model prog w) kt x:=fam1_ok fun _ _=>kLenS_ok _ _ _ hn h
end
end Mine
namespace Mine
open PySem.Sem (wp)
noncomputable def Le {α:Type} (M:Model) (Γ:Ctx) (a b:Sem α):Prop:=∀ (Q:α→Pos→Shared→Prop) (E:Value→Pos→Shared→Prop) (p:Pos) (s:Shared),wp M Γ a Q E p s→wp M Γ b Q E p s
structure Wd where
 fd:Value→Sem FuncData
 fld:Value→Nat→Sem Value
 ln:Env→Str→Sem Value
 it:Value→Sem Bool
 cl:Value→List Value→List (Str×Value)→Sem Value
 mc:PySem.Expr→Str→Pos→Pos→Env→Value→Nat→List (Bool×Sem Value)→List (Option Str×Sem Value)→Sem Value
 ko:Env→Str→Option NameKind
 ia:Env→Bool
 sw:PySem.Expr→Option PySem.Expr→Nat→Env→Sem Bool
 dv:PySem.Expr→Pos→Value→Sem Flow
 ex:List Stmt→Env→Sem Flow
 lv:Env→Value→Sem Unit
 rt:Value→Sem Fin
 pn:Value→Sem (Option Value)
 as:PySem.Expr→Env→Value→Sem Unit
 ag:Code→Sem Fin
 nf:Value→Env→Sem Unit
 tl:Value→Sem Unit
 uf:Addr→Nat→Value→Sem Unit
 ev:PySem.Expr→Env→Sem Value
 ty:Value→Sem Value
 tc:Value→PySem.Str→Value→Sem (Option Value)
 th:Value→Sem Bool
 og:PySem.Expr→Value→Value→Sem Unit
 tr:PySem.Expr→Env→Sem Value→Sem Bool
 co:CmpOp→Value→Value→Sem Value
 se:List PySem.Expr→Env→List (Bool×Sem Value)
 cw:Pos→Value→List Value→List (Bool×Sem Value)→List (Option Str×Sem Value)→Sem Value
 ab:PySem.Expr→Str→Env→Sem Value→Sem Value
 gi:Bool→List Comprehension→Env→Value→Sem Value
 pi:Value→Sem Value
 ho:List Value→Sem Value→Sem Value
 fe:Scope→Addr→List (Str×Addr)→List (Str×Value)→Str→Option Addr→Value→Option Env→Addr→Sem Env
 cf:Scope→Env→Sem (List (Str×Addr))
 gc:Env→Pos→Str→Scope→Sem Value
 bf:Addr→Addr→Sem Addr
 ng:Code→Str→Str→Sem Value
 ns:Addr→Str→Sem (Option Value)
 gn:Value→Sem Nat
 ne:Value→List Value→Sem Value
 rn:Value→Sem Unit
 bt:Pos→List (Bool×Sem Value)→List (Bool×Sem Value)
 li:Value→Sem (Array Value)
 lu:Value→(Array Value→Array Value)→Sem Unit
 lg:List Value→Sem Unit
 hb:List Value→Sem Bool→Sem Bool
 lh:Value→Sem Bool
 lt:Value→Sem Unit
 is:String→String→Bool
 cs:Value→PySem.Str→Sem (Option Value)
 sa:Value→Sem (Option PySem.Str)
noncomputable def isIs (a b:String):Bool:=@Decidable.decide (a=b) (Fast.strDec a b)
theorem isIs_eq:isIs=fun a b=>decide (a=b):=by
 funext a b
 unfold isIs
 cases h:Fast.strDec a b with
 | isTrue e=>simp [e]
 | isFalse e=>simp [e]
noncomputable def lo:Wd:=⟨funcData,field,loadName,isType,fun f l k=>call f l k,methodCall,Env.kindOf,interactive,swapsWith,dropValue,execs,leaving,ret,
 pyNext,assign,again,noteFrame,theTreesLotGoes,updateField,eval,typeOf,tryCompare,truthy,letOwnedTupleGo,PySem.isTrue,compareOp,
 starEach,callWith,attributeBase,genexprIterable,pyIter,fun l m=>holding l m,fun a b c d e f g h i=>newFunctionEnv a b c d e f g h i,closureFor,genexprCode,builtinsFor,newGenerator,fun a n=>nsGet a n,Builtin.Generator.genNumber,newExc,raiseNew,backTo,
 Builtin.List.listItems,Builtin.List.listUpdate,fun l=>letGo l,fun l m=>holding l m,Builtin.List.listLengthHint,Builtin.List.listTouch,fun a b=>decide (a=b),callSpecial?,asStr?⟩
noncomputable def lt:Wd:=⟨Fast.tw16755525298939948312,Fast.tw6609576154772507232,Fast.tw8468629109055619292,Fast.tw10380811246957099773,fun f l k=>Fast.tw11478286150595567475 f l k,Fast.tw13401596951702201221,Fast.tw4777696345729990297,Fast.tw15112477048112897374,Fast.tw17223243974762974889,Fast.tw12372662630863984472,Fast.tw12563942051412417395,Fast.tw9442747609961115081,Fast.tw6905046200447255374,
 Fast.tw9404975358583537561,Fast.tw17772580674575903948,Fast.tw12377390311714414960,Fast.tw17872113653443481271,Fast.tw1623429502029203251,Fast.tw12367529300394763782,Fast.tw14044960220447912780,Fast.tw14684505520029207082,Fast.tw3989567798202555795,Fast.tw15245631507167962100,Fast.tw1578499551869305889,Fast.tw15418851999007992765,Fast.tw12886488535604756494,
 Fast.tw13897175071876407860,Fast.tw8289420714989923916,Fast.tw15487144857313948548,Fast.tw11392484809677674534,Fast.tw8711993805878244202,fun l m=>Fast.tw17359229931016689406 l m,fun a b c d e f g h i=>Fast.tw11113344188204177931 a b c d e f g h i,Fast.tw14069538253670106520,Fast.tw9492743126541576920,Fast.tw6600643334278800223,Fast.tw2426001476595277715,fun a n=>Fast.tw13143150168775219229 a n,Fast.tw12255447999362386569,Fast.tw11364817496384490316,Fast.tw17609497360097468838,Fast.tw4897270859577272712,
 Fast.tw10557518346328741659,Fast.tw2060155186595164805,fun l=>Fast.tw3461954006293484611 l,fun l m=>Fast.tw17359229931016689406 l m,Fast.tw15112759502256325868,Fast.tw922294955767894045,isIs,Fast.tw9201129301070521445,Fast.tw8364510232829398291⟩
theorem lt_lo:lt=lo:=by
 unfold lt lo
 rw [← Fast.te16755525298939948312,← Fast.te6609576154772507232,← Fast.te8468629109055619292,← Fast.te10380811246957099773,← Fast.te11478286150595567475,← Fast.te13401596951702201221,← Fast.te4777696345729990297,← Fast.te15112477048112897374,← Fast.te17223243974762974889,← Fast.te12372662630863984472,← Fast.te12563942051412417395,← Fast.te9442747609961115081,← Fast.te6905046200447255374,
  ← Fast.te9404975358583537561,← Fast.te17772580674575903948,← Fast.te12377390311714414960,← Fast.te17872113653443481271,← Fast.te1623429502029203251,← Fast.te12367529300394763782,← Fast.te14044960220447912780,← Fast.te14684505520029207082,← Fast.te3989567798202555795,← Fast.te15245631507167962100,← Fast.te1578499551869305889,← Fast.te15418851999007992765,← Fast.te12886488535604756494,
  ← Fast.te13897175071876407860,← Fast.te8289420714989923916,← Fast.te15487144857313948548,← Fast.te11392484809677674534,← Fast.te8711993805878244202,← Fast.te17359229931016689406,← Fast.te11113344188204177931,← Fast.te14069538253670106520,← Fast.te9492743126541576920,← Fast.te6600643334278800223,← Fast.te2426001476595277715,← Fast.te13143150168775219229,← Fast.te12255447999362386569,← Fast.te11364817496384490316,← Fast.te17609497360097468838,← Fast.te4897270859577272712,
  ← Fast.te10557518346328741659,← Fast.te2060155186595164805,← Fast.te3461954006293484611,← Fast.te15112759502256325868,← Fast.te922294955767894045,isIs_eq,← Fast.te9201129301070521445,← Fast.te8364510232829398291]
section
variable {α β:Type} {M:Model} {Γ:Ctx}
theorem Le.refl (a:Sem α):Le M Γ a a:=fun _ _ _ _ h=>h
theorem Le.bind {a b:Sem α} {f g:α→Sem β} (h:Le M Γ a b) (k:∀ v,Le M Γ (f v) (g v)):Le M Γ (a>>=f) (b>>=g):=fun Q E p s x=>by
 rw [Sem.wp_bind'] at x ⊢
 exact Sem.wp_mono M Γ _ (fun v p' s' y=>k v _ _ _ _ y) (fun _ _ _ y=>y) _ _ (h _ _ _ _ x)
theorem Le.b {a:Sem α} {f g:α→Sem β} (k:∀ v,Le M Γ (f v) (g v)):Le M Γ (a>>=f) (a>>=g):=.bind (.refl _) k
theorem Le.un {w:String} {b:Sem α}:Le M Γ (Sem.unsupported w) b:=fun _ _ _ _ h=>by rw [Sem.wp_unsupported] at h; exact h.elim
theorem Le.onRaise {a b:Sem α} {h:Value→Sem Unit} (x:Le M Γ a b):Le M Γ (a.onRaise h) (b.onRaise h):=fun Q E p s y=>by
 rw [Sem.wp_onRaise] at y ⊢
 exact x _ _ _ _ y
theorem Le.hold {l:List Value} {a b:Sem α} (h:Le M Γ a b):Le M Γ (holding l a) (holding l b):=fun Q E p s x=>by
 rw [Sem.wp_holding] at x ⊢
 exact h _ _ _ _ x
theorem Le.noComps {body:List Stmt} {env:Env} (hc:Γ.code=.func body env):Le M Γ (pure []) comprehensionsAround:=fun Q E p s h=>by
 have h:Q [] p s:=by rw [Sem.wp_pure'] at h; exact h
 unfold comprehensionsAround callersCodes
 simp only [Sem.wp_bind']
 show wp M Γ (.stack .pure) _ _ p s
 rw [Sem.wp_stack,Sem.wp_pure,hc]
 try dsimp only
 split
 ·rename_i hc
  exact absurd (show (some env.frame != some env.frame)=true from hc) (by simp)
 ·simp only [Sem.wp_pure']
  have e:pastTheWaiting ((.func body env,p)::Γ.below)=(.func body env,p)::pastTheWaiting.go false (some (.func body env)) Γ.below:=rfl
  rw [e]
  exact h
noncomputable def orUn (b:Bool) (t:Sem α):Sem α:=match b with | true=>t | false=>Sem.unsupported ""
theorem Le.orUn {b:Bool} {t u:Sem α} (h:b=true→Le M Γ t u):Le M Γ (orUn b t) u:=by
 cases b
 ·exact .un
 ·exact h rfl
noncomputable def supBase (L:Wd) (f cc:Addr) (env:Env) (p1:Pos):Sem Value:=do
 let fd ← L.fd (.ref f)
 match (fd.params.posonlyargs++fd.params.args).head? with
 | none=>Sem.unsupported ""
 | some x=>do
  let st ← ask
  let fl ← L.fld (.ref cc) 2
  match fl with
  | .str file _=>orUn (st.program.main.file==file) (orUn (!(st.program.main.scope.names.lookup ("super":Str)).isSome) (do
     rule "super.attribute-form"
     standAt p1
     let g ← L.ln env "super"
     let cls ← L.ln env "__class__"
     let self ← L.ln env x.arg
     let t ← L.it cls
     orUn (g==.type "super"&&t) (L.cl g [cls,self] [])))
  | _=>Sem.unsupported ""
noncomputable def supNo (L:Wd) (id attr:Str) (env:Env):Bool:=id != ("super":Str)||attr==("__class__":Str)||L.ko env "super" != some .globalImplicit||L.ko env "__class__" != some .free
theorem supBase_le {body:List Stmt} {env:Env} {f cc:Addr} {id attr:Str} {p0 p1:Pos} {whole:Sem Value} (hc:Γ.code=.func body env)
  (hid:supNo lo id attr env=false) (hfu:env.func=some f) (hco:env.code=.ref cc) :
  Le M Γ (supBase lo f cc env p1) (attributeBase (.Call (.Name id p0) [] [] p1) attr env whole):=by
 have hk:(env.kindOf "__class__" != some .free)=false:=(Bool.or_eq_false_iff.mp hid).2
 have hi:(id != ("super":Str)||attr==("__class__":Str)||env.kindOf "super" != some .globalImplicit)=false:=(Bool.or_eq_false_iff.mp hid).1
 unfold attributeBase supBase
 simp only [hi,hfu,hco,hk,Bool.or_false,Bool.false_eq_true,if_false,Option.isSome_some,if_true,pure_bind]
 refine .b fun fd=>?_
 cases hx:(fd.params.posonlyargs++fd.params.args).head? with
 | none=>exact .un
 | some x =>
 refine .b fun st=>.b fun fl=>?_
 cases fl<;>try exact .un
 rename_i file tk
 refine .orUn fun h1=>.orUn fun h2=>?_
 rw [Bool.not_eq_true'] at h2
 dsimp only
 rw [if_pos h1]
 dsimp only
 rw [h2,if_neg Bool.false_ne_true]
 refine .b fun _=>.b fun _=>.b fun g=>.b fun cls=>?_
 show Le M Γ (pure []>>=fun cs=>(loadName (env.holderOf cs x.arg) x.arg>>=fun self=>(isType cls>>=fun t=>orUn (g==.type "super"&&t) (call g [cls,self])))) _
 refine .bind (.noComps hc) fun cs=>.b fun self=>.b fun t=>.orUn fun h3=>?_
 rw [if_pos h3]; exact .refl _
structure SP where
 id:Str
 name:Str
 p0:Pos
 p1:Pos
 apos:Pos
 pos:Pos
 rp:Pos
 f:Addr
 cc:Addr
noncomputable def SP.o (P:SP):PySem.Expr:=.Call (.Name P.id P.p0) [] [] P.p1
noncomputable def SP.e (P:SP):PySem.Expr:=.Call (.Attribute P.o P.name P.apos) [] [] P.pos
noncomputable def SP.st (P:SP) (r:Bool):Stmt:=match r with
 | true=>.Return (some P.e) P.rp
 | false=>.Expr P.e P.rp
noncomputable def supCall (L:Wd) (P:SP) (env:Env):Sem Value:=do
 let ov ← supBase L P.f P.cc env P.p1
 standAt P.apos.atName
 L.mc P.o P.name P.apos P.pos env ov 0 [] []
noncomputable def supLast (L:Wd) (P:SP) (r:Bool) (env:Env):Sem Flow:=orUn (!supNo L P.id P.name env) (match r with
 | true=>do
  standAt P.rp
  let v ← supCall L P env
  pure (.ret v)
 | false=>do
  standAt P.rp
  orUn (!L.ia env) (do
   let sw ← L.sw P.e none P.rp.line env
   orUn (!sw) (do
    let v ← supCall L P env
    L.dv P.e P.rp v)))
theorem supLast_le {body:List Stmt} {env:Env} {P:SP} {r:Bool} (hc:Γ.code=.func body env) (hfu:env.func=some P.f) (hco:env.code=.ref P.cc):Le M Γ (supLast lo P r env) (exec (P.st r) env):=by
 refine .orUn fun hid=>?_
 rw [Bool.not_eq_true'] at hid
 have hs:Le M Γ (supCall lo P env) (eval P.e env):=.bind (supBase_le hc hid hfu hco) fun ov=>.refl _
 cases r with
 | true=>exact .b fun _=>.bind hs fun _=>.refl _
 | false =>
  show Le M Γ _ (do
    standAt P.rp
    if interactive env=true then _
    else do
     let sw ← swapsWith P.e none P.rp.line env
     if sw=true then _ else _)
  refine .b fun _=>.orUn fun h1=>?_
  rw [Bool.not_eq_true'] at h1
  rw [if_neg (by rw [show interactive env=false from h1]; exact Bool.false_ne_true)]
  refine .b fun sw=>.orUn fun h2=>?_
  rw [Bool.not_eq_true'] at h2
  rw [h2,if_neg Bool.false_ne_true]
  exact .bind hs fun _=>.refl _
noncomputable def preThen (ex:List Stmt→Env→Sem Flow) (last:Sem Flow) (env:Env):List Stmt→Sem Flow
 | []=>do match ← last with | .next=>pure .next | f=>pure f
 | s::l=>do match ← ex [s] env with | .next=>preThen ex last env l | f=>pure f
theorem one_le (s:Stmt) (env:Env):Le M Γ (execs [s] env) (exec s env):=fun Q E p st h=>by
 have e:execs [s] env=(do match ← exec s env with | .next=>execs [] env | f=>pure f):=execs_cons ..
 rw [e,Sem.wp_bind'] at h
 refine Sem.wp_mono M Γ _ (fun v p' s' y=>?_) (fun _ _ _ y=>y) _ _ h
 cases v<;>exact y
theorem preThen_le {last:Sem Flow} {st:Stmt} {env:Env} (h:Le M Γ last (exec st env)):∀ l,Le M Γ (preThen execs last env l) (execs (l++[st]) env)
 | []=>by
  show Le M Γ _ (execs [st] env)
  rw [execs_cons]
  refine .bind h fun f=>?_
  cases f<;>exact .refl _
 | s::l=>by
  show Le M Γ _ (execs (s::(l++[st])) env)
  rw [execs_cons]
  refine .bind (one_le s env) fun f=>?_
  cases f<;>first | exact preThen_le h l | exact .refl _
noncomputable def bodyT (L:Wd) (t:Sem Flow) (env:Env):Sem Fin:=do
 point
 let r ← t.onRaise (L.lv env)
 match r with
 | .ret v=>L.rt v
 | _=>L.rt .none
theorem bodyT_le {prog:Program} {w:World} {t:Sem Flow} {body:List Stmt} {env:Env} (h:Le (model prog w) Γ t (execs body env)):Le (model prog w) Γ (bodyT lo t env) ((model prog w).den (.func body env)) :=
 .b fun _=>.bind (.onRaise h) fun _=>.refl _
noncomputable def limOk (L:Wd):Sem Unit:=do
 let r ← L.ns cStatics "sys.recursionlimit"
 orUn r.isNone (pure ())
theorem limOk_room (hr:Γ.code.weight+frameCount Γ.below<recursionLimit) (p:Pos) :
  nearTheLimitUnderAClaim (((Γ.code,p)::Γ.below).map (·.1)) (((((Γ.code,p)::Γ.below).map (·.1)).map (·.frames)).sum+((((Γ.code,p)::Γ.below).map (·.1)).filter Code.isCreation).length) recursionLimit=false ∧
  ¬ ((((Γ.code,p)::Γ.below).map (·.1)).map (·.frames)).sum≥recursionLimit∧¬ ((((Γ.code,p)::Γ.below).map (·.1)).map (·.frames)).sum+((((Γ.code,p)::Γ.below).map (·.1)).filter Code.isCreation).length≥recursionLimit:=by
 have hsum:((((Γ.code,p)::Γ.below).map (·.1)).map (·.frames)).sum+((((Γ.code,p)::Γ.below).map (·.1)).filter Code.isCreation).length<recursionLimit:=by
  have hge:=frameCount_ge ((Γ.code,p)::Γ.below)
  rw [frameCount_cons] at hge
  exact Nat.lt_of_le_of_lt hge hr
 refine ⟨?_,fun h=>absurd (Nat.lt_of_le_of_lt (Nat.le_add_right ..) hsum) (Nat.not_lt.mpr h),Nat.not_le.mpr hsum⟩
 show (decide (((((Γ.code,p)::Γ.below).map (·.1)).map (·.frames)).sum+((((Γ.code,p)::Γ.below).map (·.1)).filter Code.isCreation).length+claimMargin≥recursionLimit)&&(((Γ.code,p)::Γ.below).map (·.1)).any Code.isCaller)=false
 cases hany:(((Γ.code,p)::Γ.below).map (·.1)).any Code.isCaller with
 | false=>exact Bool.and_false _
 | true =>
  have hge:=frameCount_ge_caller ((Γ.code,p)::Γ.below) hany
  rw [frameCount_cons] at hge
  rw [Bool.and_true]
  exact decide_eq_false (Nat.not_le.mpr (Nat.lt_of_le_of_lt hge hr))
theorem limOk_enter (hr:Γ.code.weight+frameCount Γ.below<recursionLimit):Le M Γ (limOk lo) enterFrame:=fun Q E p s h=>by
 unfold limOk at h
 rw [Sem.wp_bind'] at h
 simp only [enterFrame,currentRecursionLimit,Sem.wp_bind']
 show wp M Γ (nsGet cStatics "sys.recursionlimit") _ _ p s
 refine Sem.wp_mono M Γ _ (fun r p' s' y=>?_) (fun _ _ _ y=>y) _ _ h
 cases r with
 | some v=>exact absurd y (by rw [show orUn (some v).isNone (pure ())=(Sem.unsupported "":Sem Unit) from rfl,Sem.wp_unsupported]; exact id)
 | none =>
  have y:wp M Γ (pure ()) Q E p' s':=y
  rw [Sem.wp_pure'] at y
  obtain ⟨r1,r2,r3⟩:=limOk_room hr p'
  show wp M Γ (if nearTheLimitUnderAClaim (((Γ.code,p')::Γ.below).map (·.1)) (((((Γ.code,p')::Γ.below).map (·.1)).map (·.frames)).sum+((((Γ.code,p')::Γ.below).map (·.1)).filter Code.isCreation).length) recursionLimit=true then _ else _) _ _ p' s'
  rw [if_neg (by rw [r1]; exact Bool.false_ne_true)]
  show wp M Γ (if ((((Γ.code,p')::Γ.below).map (·.1)).map (·.frames)).sum≥recursionLimit then _ else _) _ _ p' s'
  rw [if_neg r2]
  show wp M Γ (if ((((Γ.code,p')::Γ.below).map (·.1)).map (·.frames)).sum+((((Γ.code,p')::Γ.below).map (·.1)).filter Code.isCreation).length≥recursionLimit then _ else _) _ _ p' s'
  rw [if_neg r3]; exact y
theorem limOk_wake (hr:Γ.code.weight+frameCount Γ.below<recursionLimit):Le M Γ (limOk lo) roomToWake:=fun Q E p s h=>by
 unfold limOk at h
 rw [Sem.wp_bind'] at h
 simp only [roomToWake,currentRecursionLimit,Sem.wp_bind']
 show wp M Γ (nsGet cStatics "sys.recursionlimit") _ _ p s
 refine Sem.wp_mono M Γ _ (fun r p' s' y=>?_) (fun _ _ _ y=>y) _ _ h
 cases r with
 | some v=>exact absurd y (by rw [show orUn (some v).isNone (pure ())=(Sem.unsupported "":Sem Unit) from rfl,Sem.wp_unsupported]; exact id)
 | none =>
  have y:wp M Γ (pure ()) Q E p' s':=y
  rw [Sem.wp_pure'] at y
  obtain ⟨r1,r2,r3⟩:=limOk_room hr p'
  show wp M Γ (if nearTheLimitUnderAClaim (((Γ.code,p')::Γ.below).map (·.1)) (((((Γ.code,p')::Γ.below).map (·.1)).map (·.frames)).sum+((((Γ.code,p')::Γ.below).map (·.1)).filter Code.isCreation).length) recursionLimit=true then _ else _) _ _ p' s'
  rw [if_neg (by rw [r1]; exact Bool.false_ne_true)]
  show wp M Γ (if ((((Γ.code,p')::Γ.below).map (·.1)).map (·.frames)).sum+((((Γ.code,p')::Γ.below).map (·.1)).filter Code.isCreation).length≥recursionLimit then _ else _) _ _ p' s'
  rw [if_neg r3]; exact y
noncomputable def genA (L:Wd) (e:PySem.Expr) (gens:List Comprehension) (scope:Scope) (pos:Pos) (env:Env):Sem Value:=match gens with
 | g::_=>orUn (!(firstAsync gens||scope.isCoroutine)) (do
   let x ← L.ev g.iter env
   standAt (firstIterPos gens pos)
   let x ← L.gi (firstAsync gens) (clausesOf e) env x
   let it ← L.ho [x] (L.pi x)
   limOk L
   let cells ← L.cf scope env
   let code ← L.gc env pos (env.qual++"<genexpr>") scope
   let bs ← L.bf env.globals env.builtins
   let cenv ← L.fe scope env.globals cells [(".0",it)] (env.qual++"<genexpr>.") none code none bs
   L.ng (.compStart e 0 it .none cenv) "<genexpr>" (env.qual++"<genexpr>"))
 | []=>Sem.unsupported ""
theorem genA_le (hr:Γ.code.weight+frameCount Γ.below<recursionLimit) (elt:PySem.Expr) (gens:List Comprehension) (scope:Scope) (pos:Pos) (env:Env) :
  Le M Γ (genA lo (.GeneratorExp elt gens scope pos) gens scope pos env) (eval (.GeneratorExp elt gens scope pos) env):=by
 cases gens with
 | nil=>exact .un
 | cons g gs =>
   obtain ⟨gt,gi,gifs,ga⟩:=g
   refine .orUn fun hn=>?_
   rw [Bool.not_eq_true'] at hn
   have h1:=(Bool.or_eq_false_iff.mp hn).1
   have h2:=(Bool.or_eq_false_iff.mp hn).2
   show Le M Γ _ (do
    let x ← eval gi env
    standAt (firstIterPos (⟨gt,gi,gifs,ga⟩::gs) pos)
    let x ← genexprIterable (firstAsync (⟨gt,gi,gifs,ga⟩::gs)) (clausesOf (.GeneratorExp elt (⟨gt,gi,gifs,ga⟩::gs) scope pos)) env x
    let it ← holding [x] (if firstAsync (⟨gt,gi,gifs,ga⟩::gs)=true then asyncIter x else pyIter x)
    enterFrame
    let cells ← closureFor scope env
    let code ← genexprCode env pos (env.qual++"<genexpr>") scope
    let bs ← builtinsFor env.globals env.builtins
    let cenv ← newFunctionEnv scope env.globals cells [(".0",it)] (env.qual++"<genexpr>.") none code none bs
    (if scope.isCoroutine=true then newAsyncGenerator else newGenerator) (.compStart (.GeneratorExp elt (⟨gt,gi,gifs,ga⟩::gs) scope pos) 0 it .none cenv) "<genexpr>" (env.qual++"<genexpr>"))
   rw [h1,h2]
   simp only [Bool.false_eq_true,if_false]
   exact .b fun _=>.b fun _=>.b fun x=>.b fun it=>.bind (limOk_enter hr) fun _=>.refl _
theorem spliced_le {a b:Sem Value} {l:List (Bool×Sem Value)} (h:Le M Γ a b):Le M Γ (spliced ((false,a)::l)) (spliced ((false,b)::l)) :=
 .bind h fun _=>.refl _
theorem evalArgs_le {f:Value} {a b:Sem Value} {l:List (Bool×Sem Value)} {kw:List (Option Str×Sem Value)} (h:Le M Γ a b):Le M Γ (evalArgs f true ((false,a)::l) kw) (evalArgs f true ((false,b)::l) kw):=by
 cases l with
 | nil=>exact .bind (spliced_le h) fun _=>.refl _
 | cons x l=>exact .bind (spliced_le h) fun _=>.refl _
theorem callWith_le {pos:Pos} {f:Value} {first:List Value} {a b:Sem Value} {l:List (Bool×Sem Value)} {kw:List (Option Str×Sem Value)} (h:Le M Γ a b):Le M Γ (callWith pos f first ((false,a)::l) kw) (callWith pos f first ((false,b)::l) kw) :=
 .bind (.hold (evalArgs_le h)) fun _=>.refl _
structure GP where
 elt:PySem.Expr
 gens:List Comprehension
 sc:Scope
 gp:Pos
 rest:List PySem.Expr
 pos:Pos
 rp:Pos
noncomputable def GP.g (G:GP):PySem.Expr:=.GeneratorExp G.elt G.gens G.sc G.gp
noncomputable def GP.st (G:GP) (f:PySem.Expr):Stmt:=.Return (some (.Call f (G.g::G.rest) [] G.pos)) G.rp
noncomputable def genN (L:Wd) (G:GP) (id:Str) (ip:Pos) (env:Env):Sem Flow:=do
 standAt G.rp
 let f ← L.ev (.Name id ip) env
 let v ← L.cw G.pos f [] ((false,genA L G.g G.gens G.sc G.gp env)::L.bt G.pos (L.se G.rest env)) []
 pure (.ret v)
theorem genN_le (hr:Γ.code.weight+frameCount Γ.below<recursionLimit) (G:GP) (id:Str) (ip:Pos) (env:Env):Le M Γ (genN lo G id ip env) (exec (G.st (.Name id ip)) env):=by
 show Le M Γ _ (do
    standAt G.rp
    let v ← (do
     let f ← eval (.Name id ip) env
     callWith G.pos f [] ((false,eval G.g env)::backTo G.pos (starEach G.rest env)) [])
    pure (Flow.ret v))
 refine .b fun _=>fun Q E p s h=>?_
 simp only [Sem.wp_bind',Sem.wp_pure'] at h ⊢
 refine Sem.wp_mono M Γ _ (fun f p2 s2 h2=>?_) (fun _ _ _ x=>x) _ _ h
 exact callWith_le (genA_le hr _ _ _ _ _) _ _ _ _ h2
noncomputable def genM (L:Wd) (G:GP) (o:PySem.Expr) (name:Str) (ap:Pos) (env:Env):Sem Flow:=do
 standAt G.rp
 let ov ← L.ab o name env (L.ev o env)
 standAt ap.atName
 let v ← L.mc o name ap G.pos env ov (G.rest.length+1) ((false,genA L G.g G.gens G.sc G.gp env)::L.bt G.pos (L.se G.rest env)) []
 pure (.ret v)
theorem genM_le (hr:Γ.code.weight+frameCount Γ.below<recursionLimit) (G:GP) (o:PySem.Expr) (name:Str) (ap:Pos) (env:Env):Le M Γ (genM lo G o name ap env) (exec (G.st (.Attribute o name ap)) env):=by
 show Le M Γ _ (do
    standAt G.rp
    let v ← (do
     let ov ← attributeBase o name env (eval o env)
     standAt ap.atName
     methodCall o name ap G.pos env ov (G.rest.length+1) ((false,eval G.g env)::backTo G.pos (starEach G.rest env)) [])
    pure (Flow.ret v))
 refine .b fun _=>fun Q E p s h=>?_
 simp only [Sem.wp_bind',Sem.wp_pure'] at h ⊢
 refine Sem.wp_mono M Γ _ (fun ov p2 s2 h2=>?_) (fun _ _ _ x=>x) _ _ h
 refine Sem.wp_mono M Γ _ (fun _ p3 s3 h3=>?_) (fun _ _ _ x=>x) _ _ h2
 exact (Le.b (M:=M) (Γ:=Γ) fun fx=>.b fun _=>callWith_le (genA_le hr _ _ _ _ _)) _ _ _ _ h3
noncomputable def nextTree (L:Wd) (g:Value):Sem Fin:=do
 let n ← L.gn g
 let before ← genState n
 (match before with
 | .fresh=>limOk L
 | .suspended=>limOk L
 | _=>pure ())
 let r ← resume n (.send .none)
 match r with
 | .yielded v=>L.rt v
 | .returned v=>orUn (v==.none) (do let e ← L.ne (.type "StopIteration") []; L.rn e; Sem.unsupported "")
 | _=>Sem.unsupported ""
theorem nextTree_le (hr:Γ.code.weight+frameCount Γ.below<recursionLimit) (g:Value):Le M Γ (nextTree lo g) (Builtin.«generator.__next__» ⟨[g],[]⟩):=by
 show Le M Γ _ (Builtin.Generator.genWake g (.send .none))
 unfold Builtin.Generator.genWake nextTree
 intro Q E p s h
 simp only [Sem.wp_bind',Sem.wp_holding] at h ⊢
 refine Sem.wp_mono M Γ _ (fun n p1 s1 h1=>?_) (fun _ _ _ x=>x) _ _ h
 refine Sem.wp_mono M Γ _ (fun b p2 s2 h2=>?_) (fun _ _ _ x=>x) _ _ h1
 have rest:∀ (p:Pos) (s:Shared),wp M Γ (resume n (Resume.send Value.none)) (fun r p' s'=>wp M Γ (match r with
   | .yielded v=>ret v
   | .returned v=>orUn (v==.none) (do let e ← newExc (.type "StopIteration") []; (raiseNew e:Sem Unit); Sem.unsupported "")
   | _=>Sem.unsupported "") Q E p' s') E p s→wp M Γ (do
    let r ← resume n (Resume.send Value.none)
    match r with
    | .yielded v=>ret v
    | .returned v=>do
     if (v==.none)=true then raiseNew (← newExc (.type "StopIteration") [])
     rule "generator.return-value"; throw (← newExc (.type "StopIteration") [v])
    | .raised e=>do
     if let .throw _:=(Resume.send Value.none) then
      if b==GenStatus.fresh then rule "generator.throw.into-fresh"; throw e
     Builtin.Generator.genLeft g e
    | .running=>do rule "generator.already-executing"; raiseError "ValueError" "generator already executing"
    | .justStarted=>do rule "generator.send-to-fresh"; raiseError "TypeError" "can't send non-None value to a just-started generator"
    | .finished =>
     match (Resume.send Value.none) with
     | .send _=>do raiseNew (← newExc (.type "StopIteration") [])
     | .throw e=>throw e:Sem Fin) Q E p s:=fun p s h=>by
  rw [Sem.wp_bind']
  refine Sem.wp_mono M Γ _ (fun r p' s' h=>?_) (fun _ _ _ x=>x) _ _ h
  cases r with
  | yielded v=>exact h
  | returned v =>
   refine Le.orUn (Γ:=Γ) (M:=M) (fun hv=>?_) Q E p' s' h
   dsimp only
   rw [if_pos hv]
   exact .b fun e=>.b fun _=>.un
  | _=>rw [Sem.wp_unsupported] at h; exact h.elim
 have wake:wp M Γ (limOk lo) _ E p2 s2→_:=fun h2=>Sem.wp_mono M Γ _ (fun _ p' s' h=>rest p' s' h) (fun _ _ _ x=>x) _ _ (limOk_wake hr _ _ _ _ h2)
 cases b with
 | fresh =>
  show wp M Γ (roomToWake>>=fun _=>_) Q E p2 s2
  rw [Sem.wp_bind']
  exact wake h2
 | suspended =>
  show wp M Γ (roomToWake>>=fun _=>_) Q E p2 s2
  rw [Sem.wp_bind']
  exact wake h2
 | _ =>
  have h2:wp M Γ (pure ()) _ E p2 s2:=h2
  rw [Sem.wp_pure'] at h2
  exact rest _ _ h2
end
theorem den_bi {prog:Program} {w:World} {id:String} {args:Args} {b:Builtin} (hb:entryFor table id=some b):(model prog w).den (.builtin id args)=b args:=by
 show (match entryFor table id with | some b=>b args | none=>unsupported ((withoutEnding? id "#data").getD id))=_
 rw [hb]
noncomputable def markIt (o:Obj):Obj:={o with cls:=.none}
noncomputable def isMark (o:Obj):Bool:=match o.cls with
 | .none=>true
 | _=>false
noncomputable def owners:List String:=["enumerate","zip","dict_itemiterator","dict_reverseitemiterator","odict_iterator","itertools.zip_longest","itertools.pairwise"]
noncomputable def letT (L:Wd) (r a:Addr):Sem Unit:=do
 let o ← load r
 match o.cls,o.data with
 | .type n,.fields vs=>match owners.contains n with
  | false=>pure ()
  | true=>match (vs[0]?:Option Value) with
   | some (.int (.ofNat m) 0)=>do
    let x ← load a
    let y ← load m
    match isMark y with
    | true=>Sem.unsupported ""
    | false=>do
     update a markIt
     let z ← load m
     update a fun _=>x
     match isMark z with
     | false=>Sem.unsupported ""
     | true=>do
      rule "for.unpacks-the-owned-tuple"
      L.uf r 0 .none
   | _=>Sem.unsupported ""
 | _,_=>pure ()
theorem back_same {h:Heap} {a:Addr} {x:Obj} (hx:h.get? a=some x) (f:Obj→Obj):(h.update a f).update a (fun _=>x)=h:=by
 obtain ⟨objs,l⟩:=h
 have hx:objs[a]?=some x:=by
  unfold Heap.get? at hx
  dsimp only at hx
  split at hx
  ·cases hx
  ·exact hx
 show (⟨(objs.modify a f).modify a (fun _=>x),l⟩:Heap)=⟨objs,l⟩
 have:(objs.modify a f).modify a (fun _=>x)=objs:=by
  apply Array.ext_getElem?
  intro i
  rw [Array.getElem?_modify,Array.getElem?_modify]
  by_cases h:a=i
  ·subst h
   simp [hx]
  ·simp [h]
 rw [this]
theorem other_same {h:Heap} {a m:Addr} (hne:a≠m) (f:Obj→Obj):(h.update a f).get? m=h.get? m:=by
 obtain ⟨objs,l⟩:=h
 show (match (objs.modify a f)[m]? with | some ⟨_,_,.freed,_⟩=>none | o=>o)=(match objs[m]? with | some ⟨_,_,.freed,_⟩=>none | o=>o)
 rw [Array.getElem?_modify]
 simp [hne]
theorem letT_le {M:Model} {Γ:Ctx} {elts ctx pos} (r a:Addr):Le M Γ (letT lo r a) (letOwnedTupleGo (.Tuple elts ctx pos) (.ref r) (.ref a)):=by
 show Le M Γ (letT lo r a) (do
  let o ← load r
  match o.cls,o.data with
  | .type n,.fields vs =>
   if (owners.contains n&&vs[0]?==some (rawInt a))=true then do
    rule "for.unpacks-the-owned-tuple"
    updateField r 0 .none
   else pure ()
  | _,_=>pure ())
 unfold letT
 refine Le.bind (.refl _) fun o=>?_
 split
 ·rename_i n vs e1 e2
  split
  ·rename_i hn
   rw [hn,Bool.false_and,if_neg Bool.false_ne_true]
   exact .refl _
  ·rename_i hn
   split
   ·rename_i m e3
    intro Q E p s h
    rw [Sem.wp_bind'] at h
    have h:wp M Γ (.load a none .pure) _ E p s:=h
    rw [Sem.wp_load] at h
    obtain ⟨x,hx,h⟩:=h
    rw [Sem.wp_pure,Sem.wp_bind'] at h
    have h:wp M Γ (.load m none .pure) _ E p s:=h
    rw [Sem.wp_load] at h
    obtain ⟨y,hy,h⟩:=h
    rw [Sem.wp_pure] at h
    split at h
    ·rw [Sem.wp_unsupported] at h; exact h.elim
    ·rename_i hm
     rw [Sem.wp_bind'] at h
     have h:wp M Γ (.update a none markIt .pure) _ E p s:=h
     rw [Sem.wp_update] at h
     obtain ⟨_,h⟩:=h
     rw [Sem.wp_pure,Sem.wp_bind'] at h
     have h:wp M Γ (.load m none .pure) _ E p _:=h
     rw [Sem.wp_load] at h
     obtain ⟨z,hz,h⟩:=h
     rw [Sem.wp_pure,Sem.wp_bind'] at h
     have h:wp M Γ (.update a none (fun _=>x) .pure) _ E p _:=h
     rw [Sem.wp_update] at h
     obtain ⟨_,h⟩:=h
     rw [Sem.wp_pure] at h
     have hs:({s with heap:=(s.heap.update a markIt).update a (fun _=>x)}:Shared)=s:=by rw [back_same hx]
     have h6:wp M Γ (match isMark z with
      | false=>Sem.unsupported ""
      | true=>do
       rule "for.unpacks-the-owned-tuple"
       lo.uf r 0 .none) Q E p {s with heap:=(s.heap.update a markIt).update a (fun _=>x)}:=h
     rw [hs] at h6
     clear h
     cases hz2:isMark z with
     | false=>rw [hz2] at h6; rw [Sem.wp_unsupported] at h6; exact h6.elim
     | true =>
      rw [hz2] at h6
      have ham:a=m:=by
       by_cases hne:a=m
       ·exact hne
       ·exfalso
        have hz:(s.heap.update a markIt).get? m=some z:=hz
        rw [other_same hne,hy] at hz
        cases hz
        rw [hz2] at hm
        cases hm
      subst ham
      have hb:(vs[0]?==some (rawInt a))=true:=by
       rw [e3]
       show (some (Value.int (a:Nat) 0)==some (Value.int (a:Nat) 0))=true
       simp
      rw [hn,hb,Bool.true_and,if_pos rfl]
      exact h6
   ·exact .un
 ·exact .refl _
noncomputable def forTree (L:Wd) (target:PySem.Expr) (it:Value) (body orelse:List Stmt) (env:Env):Sem Fin:=(do
 standAt target.pos
 let n ← (L.pn it).onRaise (fun _=>standAt {target.pos with line:=0})
 match n with
 | none=>L.ag (.block orelse env)
 | some v=>do
  (match it,v with
  | .ref r,.ref a=>letT L r a
  | _,_=>Sem.unsupported "")
  L.as target env v
  let f ← L.ex body env
  match f with
  | .next=>L.ag (.forLoop target it body orelse env)
  | .cont=>L.ag (.forLoop target it body orelse env)
  | .brk=>pure (.done .next)
  | .ret v=>pure (.done (.ret v))).onRaise (fun x=>do L.nf x env; L.tl x)
theorem forTree_le {M:Model} {Γ:Ctx} {elts ctx pos} (it:Value) (body orelse:List Stmt) (env:Env):Le M Γ (forTree lo (.Tuple elts ctx pos) it body orelse env)
  ((forTurn (.Tuple elts ctx pos) it body orelse env).onRaise (fun x=>do noteFrame x env; theTreesLotGoes x)):=by
 refine Le.onRaise ?_
 unfold forTurn
 refine Le.bind (.refl _) fun _=>Le.bind (.refl _) fun n=>?_
 cases n with
 | none=>exact .refl _
 | some v =>
  refine Le.bind ?_ fun _=>Le.bind (.refl _) fun _=>Le.bind (.refl _) fun f=>?_
  ·split
   ·exact letT_le _ _
   ·exact .un
  ·cases f<;>exact .refl _
section
variable {α β:Type} {M:Model} {Γ:Ctx}
theorem Le.hld {vs:List Value} {a b:Sem α} (h:Le M Γ a b):Le M Γ a (holding vs b):=fun Q E p s x=>by
 unfold PySem.holding
 split
 ·exact h Q E p s x
 ·rw [Sem.wp_keep]; exact h Q E p s x
theorem Le.goRel:∀ (keep vs:List Value),Le M Γ (pure ()) (release.go keep vs)
 | keep,[]=>.refl _
 | keep,[_]=>.refl _
 | keep,v::w::vs=>fun Q E p s x=>by
  unfold release.go
  rw [Sem.wp_bind']
  refine (Le.hld (a:=(pure ():Sem Unit)) (b:=point) ?_) _ _ _ _ ?_
  ·intro Q E p s h
   rw [Sem.wp_pure'] at h
   show wp M Γ (.point [] .pure) _ _ _ _
   rw [Sem.wp_point,Sem.wp_pure]
   exact h
  ·rw [Sem.wp_pure']
   exact Le.goRel keep (w::vs) Q E p s x
theorem Le.opr {vs:List Value} {a b:Sem Value} (h:Le M Γ a b):Le M Γ a (operate vs b):=fun Q E p s x=>by
 unfold PySem.operate
 rw [Sem.wp_bind']
 refine Le.hld h _ _ _ _ (Sem.wp_mono M Γ _ (fun v p' s' y=>?_) (fun _ _ _ y=>y) _ _ x)
 rw [Sem.wp_bind']
 refine Le.goRel _ _ _ _ _ _ ?_
 rw [Sem.wp_pure',Sem.wp_pure']
 exact y
theorem Le.room {what:String} (hu:Γ.code.cUnits+unitsOf Γ.below<cLine):Le M Γ (pure ()) (cRoom what):=fun Q E p s h=>by
 rw [Sem.wp_pure'] at h
 unfold cRoom
 rw [Sem.wp_bind']
 show wp M Γ (.stack .pure) _ _ p s
 rw [Sem.wp_stack,Sem.wp_pure]
 have:(((Γ.code,p)::Γ.below).map (·.1.cUnits)).sum=Γ.code.cUnits+unitsOf Γ.below:=by first | exact unitsOf_cons .. | rfl | simp [unitsOf]
 rw [if_neg (by rw [this]; omega)]
 show wp M Γ (pure ()) _ _ p s
 rw [Sem.wp_pure']
 exact h
noncomputable def opB:Bool→CmpOp | true=>.Eq | false=>.NotEq
noncomputable def nmB:Bool→PySem.Str | true=>"__eq__" | false=>"__ne__"
noncomputable def richT (L:Wd) (q:Bool) (a b:Addr):Sem Value:=do
 let ta ← L.ty (.ref a)
 let tb ← L.ty (.ref b)
 orUn (!(ta != tb)) (do
  let r ← L.tc (.ref a) (nmB q) (.ref b)
  match r with
  | some v=>pure v
  | none=>Sem.unsupported "")
theorem richT_le (hu:Γ.code.cUnits+unitsOf Γ.below<cLine) (q:Bool) (a b:Addr):Le M Γ (richT lo q a b) (compareOp (opB q) (.ref a) (.ref b)):=by
 have e:compareOp (opB q) (.ref a) (.ref b)=richCompare (opB q) (.ref a) (.ref b):=by cases q<;>rfl
 rw [e]
 unfold richCompare
 refine .hld ?_
 intro Q E p s h
 rw [Sem.wp_bind']
 refine Le.room hu _ _ _ _ ?_
 rw [Sem.wp_pure',show oneThing? (opB q) (.ref a) (.ref b)=none from rfl]
 dsimp only
 refine Le.b (M:=M) (Γ:=Γ) (a:=typeOf (.ref a)) (fun ta=>.b fun tb=>.orUn fun hne=>?_) Q E p s h
 rw [Bool.not_eq_true'] at hne
 rw [hne,if_neg Bool.false_ne_true]
 have hn:(cmpInfo (opB q)).2.1=nmB q:=by cases q<;>rfl
 simp only [Bool.false_eq_true,if_false,hn]
 refine .b fun r=>?_
 cases r with
 | none=>exact .un
 | some v=>exact .refl _
noncomputable def cmpV (L:Wd) (q:Bool) (l rv:Value):Sem Value:=match l,rv with
 | .ref a,.ref b=>richT L q a b
 | _,_=>L.co (opB q) l rv
theorem cmp_le (hu:Γ.code.cUnits+unitsOf Γ.below<cLine) (q:Bool) (l rv:Value):Le M Γ (cmpV lo q l rv) (operate [l,rv] (compareOp (opB q) l rv)):=by
 refine .opr ?_
 cases l<;>first | exact .refl _ | skip
 cases rv<;>first | exact .refl _ | exact richT_le hu q _ _
noncomputable def cmpT (L:Wd) (q:Bool) (left r:PySem.Expr) (pos:Pos) (env:Env):Sem Value:=orUn (!behindInMarks (opB q) r) (do
 let l ← L.ev left env
 let rv ← L.ev r env
 standAt pos
 cmpV L q l rv)
noncomputable def testT (L:Wd) (q:Bool) (left r:PySem.Expr) (pos:Pos) (env:Env):Sem Bool:=orUn (!behindInMarks (opB q) r) (do
 let l ← L.ev left env
 let rv ← L.ev r env
 standAt pos
 let c ← cmpV L q l rv
 L.th c)
theorem marked_is {op:CmpOp} {r:PySem.Expr} (h:(!behindInMarks op r)=true) (env:Env):markedEach [op] [r] (evalEach [r] env)=[eval r env]:=by
 rw [Bool.not_eq_true'] at h
 show [markedBehindIn op r (eval r env)]=_
 unfold markedBehindIn
 rw [h]
theorem cmpT_le (hu:Γ.code.cUnits+unitsOf Γ.below<cLine) (q:Bool) (left r:PySem.Expr) (pos:Pos) (env:Env):Le M Γ (cmpT lo q left r pos env) (eval (.Compare left [opB q] [r] pos) env):=by
 refine .orUn fun hb=>?_
 have e:eval (.Compare left [opB q] [r] pos) env=(do compareChain pos (← eval left env) [opB q] (markedEach [opB q] [r] (evalEach [r] env))):=by kernel_rfl
 rw [e,marked_is hb]
 refine .b fun l=>?_
 show Le M Γ _ (do
  let rv ← holding [l] (eval r env)
  standAt pos
  operate [l,rv] (compareOp (opB q) l rv))
 exact .bind (.hld (.refl _)) fun rv=>.b fun _=>cmp_le hu q l rv
theorem testT_le (hu:Γ.code.cUnits+unitsOf Γ.below<cLine) (q:Bool) (left r:PySem.Expr) (pos:Pos) (env:Env) (whole:Sem Value):Le M Γ (testT lo q left r pos env) (PySem.isTrue (.Compare left [opB q] [r] pos) env whole):=by
 refine .orUn fun hb=>?_
 have e:PySem.isTrue (.Compare left [opB q] [r] pos) env whole=(do testChain pos (← eval left env) [opB q] (markedEach [opB q] [r] (evalEach [r] env))):=by kernel_rfl
 rw [e,marked_is hb]
 refine .b fun l=>?_
 show Le M Γ _ (do
  let rv ← holding [l] (eval r env)
  standAt pos
  let c ← operate [l,rv] (compareOp (opB q) l rv)
  holding [c] (truthy c))
 exact .bind (.hld (.refl _)) fun rv=>.b fun _=>.bind (cmp_le hu q l rv) fun c=>.hld (.refl _)
noncomputable def compTree (L:Wd) (q:Bool) (elt:PySem.Expr) (target iter left r:PySem.Expr) (pos:Pos) (it acc:Value) (env:Env) (c:Code):Sem Fin:=(do
 standAt iter.pos
 let n ← L.pn it
 match n with
 | none=>pure (PySem.Fin.done .next)
 | some v=>do
  L.og target it v
  L.as target env v
  let ok ← testT L q left r pos env
  match ok with
  | true=>do
   let x ← L.ev elt env
   let _ ← L.cl (.builtin "list.append") [acc,x] []
   L.ag c
  | false=>L.ag c).onRaise (fun x=>do L.nf x env; L.tl x)
noncomputable def compC (q:Bool) (elt target iter left r:PySem.Expr) (pos p2:Pos) (sc:Scope) (it acc:Value) (env:Env):Code:=.compLoop (.ListComp elt [⟨target,iter,[.Compare left [opB q] [r] pos],.ofNat 0⟩] sc p2) 0 it acc env
theorem compTree_le (hu:Γ.code.cUnits+unitsOf Γ.below<cLine) (q:Bool) (elt target iter left r:PySem.Expr) (pos p2:Pos) (sc:Scope) (it acc:Value) (env:Env) :
  Le M Γ (compTree lo q elt target iter left r pos it acc env (compC q elt target iter left r pos p2 sc it acc env))
   ((compTurn (.ListComp elt [⟨target,iter,[.Compare left [opB q] [r] pos],.ofNat 0⟩] sc p2) 0 it acc env).onRaise (fun x=>do noteFrame x env; theTreesLotGoes x)):=by
 refine .onRaise ?_
 unfold compTurn
 refine .b fun _=>.b fun n=>?_
 cases n with
 | none=>exact .refl _
 | some v =>
  refine .b fun _=>.b fun _=>?_
  simp only [List.forIn_cons,List.forIn_nil,if_true,bind_assoc,pure_bind]
  refine .bind (testT_le hu q left r pos env _) fun ok=>?_
  cases ok with
  | false=>exact .refl _
  | true=>exact .refl _
inductive TD where
 | cmp (q:Bool) (left r:PySem.Expr) (pos:Pos)
 | one (e:PySem.Expr)
noncomputable def TD.e:TD→PySem.Expr
 | .cmp q left r pos=>.Compare left [opB q] [r] pos
 | .one e=>e
noncomputable def TD.t (L:Wd) (env:Env):TD→Sem Bool
 | .cmp q left r pos=>testT L q left r pos env
 | .one e=>L.tr e env (L.ev e env)
theorem TD.le (hu:Γ.code.cUnits+unitsOf Γ.below<cLine) (env:Env):∀ d:TD,Le M Γ (d.t lo env) (PySem.isTrue d.e env (eval d.e env))
 | .cmp ..=>testT_le hu _ _ _ _ _ _
 | .one _=>.refl _
noncomputable def tdAll (L:Wd) (op:BoolOp) (env:Env):List TD→Sem Bool
 | []=>pure (op==.And)
 | x::rest=>do
  let b ← x.t L env
  match op,b with
  | .And,false=>pure false
  | .Or,true=>pure true
  | _,_=>tdAll L op env rest
theorem tdAll_le (hu:Γ.code.cUnits+unitsOf Γ.below<cLine) (op:BoolOp) (env:Env):∀ l:List TD,Le M Γ (tdAll lo op env l) (allTrue op (l.map TD.e) env)
 | []=>by
  have:allTrue op ([].map TD.e) env=pure (op==.And):=by kernel_rfl
  rw [this]; exact .refl _
 | x::rest=>by
  have e:allTrue op ((x::rest).map TD.e) env=(do
    match op,← PySem.isTrue x.e env (eval x.e env) with
    | .And,false=>pure false
    | .Or,true=>pure true
    | _,_=>allTrue op (rest.map TD.e) env):=by kernel_rfl
  rw [e]
  refine .bind (TD.le hu env x) fun b=>?_
  cases op<;>cases b<;>first | exact .refl _ | exact tdAll_le hu _ env rest
inductive SD where
 | iff (l:Option (BoolOp×List TD×Pos)) (d:TD) (body orelse:List Stmt) (pos:Pos)
 | ret (q:Bool) (left r:PySem.Expr) (cpos pos:Pos)
 | one (s:Stmt)
noncomputable def SD.test:Option (BoolOp×List TD×Pos)→TD→PySem.Expr
 | some x,_=>.BoolOp x.1 (x.2.1.map TD.e) x.2.2
 | none,d=>d.e
noncomputable def SD.s:SD→Stmt
 | .iff l d body orelse pos=>.If (SD.test l d) body orelse pos
 | .ret q left r cpos pos=>.Return (some (.Compare left [opB q] [r] cpos)) pos
 | .one s=>s
noncomputable def SD.testT (L:Wd) (env:Env):Option (BoolOp×List TD×Pos)→TD→Sem Bool
 | some x,_=>tdAll L x.1 env x.2.1
 | none,d=>d.t L env
noncomputable def SD.t (L:Wd) (env:Env):SD→Sem Flow
 | .iff l d body orelse pos=>do
  standAt pos
  let b ← SD.testT L env l d
  match b with
  | true=>L.ex body env
  | false=>L.ex orelse env
 | .ret q left r cpos pos=>do
   standAt pos
   let v ← cmpT L q left r cpos env
   pure (.ret v)
 | .one s=>L.ex [s] env
theorem SD.test_le (hu:Γ.code.cUnits+unitsOf Γ.below<cLine) (env:Env):∀ (l:Option (BoolOp×List TD×Pos)) (d:TD),Le M Γ (SD.testT lo env l d) (PySem.isTrue (SD.test l d) env (eval (SD.test l d) env))
 | some x,_=>by
  have e:PySem.isTrue (.BoolOp x.1 (x.2.1.map TD.e) x.2.2) env (eval (.BoolOp x.1 (x.2.1.map TD.e) x.2.2) env)=allTrue x.1 (x.2.1.map TD.e) env:=by kernel_rfl
  show Le M Γ _ (PySem.isTrue (.BoolOp x.1 (x.2.1.map TD.e) x.2.2) env (eval (.BoolOp x.1 (x.2.1.map TD.e) x.2.2) env))
  rw [e]; exact tdAll_le hu _ env _
 | none,d=>d.le hu env
theorem SD.le (hu:Γ.code.cUnits+unitsOf Γ.below<cLine) (env:Env):∀ d:SD,Le M Γ (d.t lo env) (exec d.s env)
 | .iff l d body orelse pos=>by
  have e:exec (.If (SD.test l d) body orelse pos) env=(do
   standAt pos
   if ← PySem.isTrue (SD.test l d) env (eval (SD.test l d) env) then execs body env else execs orelse env):=by kernel_rfl
  show Le M Γ _ (exec (.If (SD.test l d) body orelse pos) env)
  rw [e]
  refine .b fun _=>.bind (SD.test_le hu env l d) fun b=>?_
  cases b<;>exact .refl _
 | .ret q left r cpos pos=>by
  have e:exec (.Return (some (.Compare left [opB q] [r] cpos)) pos) env=(do
   standAt pos
   return .ret (← eval (.Compare left [opB q] [r] cpos) env)):=by kernel_rfl
  show Le M Γ _ (exec (.Return (some (.Compare left [opB q] [r] cpos)) pos) env)
  rw [e]
  exact .b fun _=>.bind (cmpT_le hu q _ _ _ _) fun v=>.refl _
 | .one s=>one_le s env
noncomputable def sdAll (L:Wd) (env:Env):List SD→Sem Flow
 | []=>pure .next
 | s::rest=>do
  let f ← s.t L env
  match f with
  | .next=>sdAll L env rest
  | f=>pure f
theorem sdAll_le (hu:Γ.code.cUnits+unitsOf Γ.below<cLine) (env:Env):∀ l:List SD,Le M Γ (sdAll lo env l) (execs (l.map SD.s) env)
 | []=>.refl _
 | s::rest=>by
  show Le M Γ _ (execs (s.s::rest.map SD.s) env)
  rw [execs_cons]
  refine .bind (SD.le hu env s) fun f=>?_
  cases f<;>first | exact sdAll_le hu env rest | exact .refl _
end
noncomputable def isSeqD:Data→Bool | .seq ..=>true | _=>false
noncomputable def extTree (L:Wd) (a b:Addr) (res:Value):Sem Fin:=do
 let o1 ← load a
 let o2 ← load b
 orUn (isSeqD o1.data&&!isSeqD o2.data) (do
  let t ← L.ty (.ref b)
  match t with
  | .type n=>orUn (L.is n "generator"||L.is n "range") (do
    let it ← L.pi (.ref b)
    let room ← L.hb [it] (L.lh (.ref b))
    if room=true then do
     rule "list.extend.makes-room"
     L.lt (.ref a)
     L.ag (.builtin "list.extend.loop" ⟨[.ref a,it,res],[]⟩)
    else L.ag (.builtin "list.extend.loop" ⟨[.ref a,it,res],[]⟩))
  | _=>Sem.unsupported "")
theorem extTree_le {M:Model} {Γ:Ctx} (a b:Addr) (res:Value):Le M Γ (extTree lo a b res) (Builtin.List.listExtendWith (.ref a) (.ref b) res):=by
 unfold extTree
 intro Q E p s h
 rw [Sem.wp_bind'] at h
 have h:wp M Γ (.load a none .pure) _ E p s:=h
 rw [Sem.wp_load] at h
 obtain ⟨o1,h1,h⟩:=h
 rw [Sem.wp_pure,Sem.wp_bind'] at h
 have h:wp M Γ (.load b none .pure) _ E p s:=h
 rw [Sem.wp_load] at h
 obtain ⟨o2,h2,h⟩:=h
 rw [Sem.wp_pure] at h
 refine Le.orUn (M:=M) (Γ:=Γ) (fun hd=>?_) Q E p s h
 clear h
 have hne:a≠b:=fun e=>by
  subst e
  rw [h1] at h2
  cases h2
  generalize isSeqD o1.data=z at hd
  cases z<;>cases hd
 have hs:Builtin.List.listSameRef (.ref a) (.ref b)=false:=by
  show (a==b)=false
  simpa using hne
 unfold Builtin.List.listExtendWith
 refine .b fun t=>?_
 rw [hs]
 cases t<;>first | exact .un | skip
 rename_i n
 refine .orUn fun hn=>?_
 have hn:n="generator"∨n="range":=by
  rw [Bool.or_eq_true] at hn
  exact hn.imp (fun h=>of_decide_eq_true h) fun h=>of_decide_eq_true h
 rcases hn with rfl | rfl
 all_goals
  rw [if_neg (by decide)]
  refine .b fun it=>.b fun room=>?_
  cases room<;>exact .refl _
noncomputable def initTree (L:Wd) (a b:Addr):Sem Fin:=do
 let old ← L.li (.ref a)
 L.lu (.ref a) fun _=>#[]
 L.lg old.toList.reverse
 extTree L a b .none
theorem initTree_le {M:Model} {Γ:Ctx} (a b:Addr):Le M Γ (initTree lo a b) (Builtin.«list.__init__» ⟨[.ref a,.ref b],[]⟩):=by
 show Le M Γ _ (do
  let old ← Builtin.List.listItems (.ref a)
  Builtin.List.listUpdate (.ref a) fun _=>#[]
  letGo old.toList.reverse
  Builtin.List.listExtendWith (.ref a) (.ref b) .none)
 exact .b fun old=>.b fun _=>.b fun _=>extTree_le a b .none
noncomputable def strTree (L:Wd) (a:Addr):Sem Fin:=do
 match ← L.cs (.ref a) "__str__" with
 | none=>Sem.unsupported ""
 | some r=>do match ← L.sa r with
  | none=>Sem.unsupported ""
  | some _=>L.rt r
theorem strNew_is (a:Addr):Builtin.«str.__new__» ⟨[.type "str",.ref a],[]⟩=(cRoom "str">>=fun _=>(do
 let some r ← callSpecial? (.ref a) "__str__" | unsupported "internal:no-__str__"
 if (← asStr? r).isNone then
  rule "str-of.not-a-str"; raiseError "TypeError" s!"__str__ returned non-string (type {← typeNameOf r})"
 pure r))>>=fun made=>ret made:=by kernel_rfl
theorem strTree_le {M:Model} {Γ:Ctx} (hu:Γ.code.cUnits+unitsOf Γ.below<cLine) (a:Addr):Le M Γ (strTree lo a) (Builtin.«str.__new__» ⟨[.type "str",.ref a],[]⟩):=by
 intro Q E p s h
 rw [strNew_is,Sem.wp_bind',Sem.wp_bind']
 refine Le.room hu _ _ _ _ ?_
 rw [Sem.wp_pure']
 unfold strTree at h
 rw [Sem.wp_bind'] at h ⊢
 refine Sem.wp_mono M Γ _ (fun v p' s' y=>?_) (fun _ _ _ y=>y) _ _ h
 cases v with
 | none=>exact Le.un (w:="") _ _ _ _ y
 | some r =>
  dsimp only at y ⊢
  rw [Sem.wp_bind'] at y ⊢
  refine Sem.wp_mono M Γ _ (fun v p' s' y=>?_) (fun _ _ _ y=>y) _ _ y
  cases v with
  | none=>exact Le.un (w:="") _ _ _ _ y
  | some x =>
   show wp M Γ (pure r) _ _ _ _
   rw [Sem.wp_pure']
   exact y
noncomputable def aBody:Code→List Stmt | .func b _=>b | .forLoop _ _ b _ _=>b | _=>[]
noncomputable def aEnv:Code→Env | .func _ e=>e | .forLoop _ _ _ _ e=>e | .compLoop _ _ _ _ e=>e | _=>default
noncomputable def aArg (c:Code) (n:Nat):Value:=match c with | .builtin _ a=>(a.pos[n]?).getD .none | .forLoop _ it _ _ _=>it | .compLoop _ _ it acc _=>(match n with | 0=>it | _=>acc) | _=>.none
noncomputable def aRef (c:Code) (n:Nat):Addr:=match aArg c n with | .ref a=>a | _=>0
noncomputable def aExp:Code→PySem.Expr | .forLoop e _ _ _ _=>e | .compLoop e _ _ _ _=>e | _=>default
noncomputable def aElse:Code→List Stmt | .forLoop _ _ _ e _=>e | _=>[]
noncomputable def xCall:PySem.Expr→PySem.Expr×List PySem.Expr×Pos | .Call f a _ p=>(f,a,p) | e=>(e,[],⟨0,0,0,0⟩)
noncomputable def xAttr:PySem.Expr→PySem.Expr×Str×Pos | .Attribute o n p=>(o,n,p) | e=>(e,"",⟨0,0,0,0⟩)
noncomputable def xName:PySem.Expr→Str×Pos | .Name n p=>(n,p) | _=>("",⟨0,0,0,0⟩)
noncomputable def xCmp:PySem.Expr→Bool×PySem.Expr×PySem.Expr×Pos | .Compare l o r p=>((match o with | [.Eq]=>true | _=>false),l,r.headD default,p) | e=>(true,e,e,⟨0,0,0,0⟩)
noncomputable def xGen:PySem.Expr→PySem.Expr×List Comprehension×Scope×Pos | .GeneratorExp e g s p=>(e,g,s,p) | .ListComp e g s p=>(e,g,s,p) | e=>(e,[],default,⟨0,0,0,0⟩)
noncomputable def sRet:Stmt→Bool×PySem.Expr×Pos | .Return (some e) p=>(true,e,p) | .Expr e p=>(false,e,p) | _=>(false,default,⟨0,0,0,0⟩)
noncomputable def lastS (l:List Stmt):Stmt:=l.getLastD (.Pass ⟨0,0,0,0⟩)
noncomputable def spOf (c:Code):SP :=
 let s:=sRet (lastS (aBody c))
 let c1:=xCall s.2.1
 let at':=xAttr c1.1
 let c2:=xCall at'.1
 let nm:=xName c2.1
 ⟨nm.1,at'.2.1,nm.2,c2.2.2,at'.2.2,c1.2.2,s.2.2,(aEnv c).func.getD 0,(match (aEnv c).code with | .ref a=>a | _=>0)⟩
noncomputable def gpOf (c:Code):GP :=
 let s:=sRet (lastS (aBody c))
 let c1:=xCall s.2.1
 let g:=xGen (c1.2.1.headD default)
 ⟨g.1,g.2.1,g.2.2.1,g.2.2.2,c1.2.1.tail,c1.2.2,s.2.2⟩
noncomputable def gpF (c:Code):PySem.Expr:=(xCall (sRet (lastS (aBody c))).2.1).1
noncomputable def isCmp:PySem.Expr→Bool | .Compare _ [.Eq] [_] _=>true | .Compare _ [.NotEq] [_] _=>true | _=>false
noncomputable def tdOf (e:PySem.Expr):TD:=match isCmp e with
 | true=>let q:=xCmp e; .cmp q.1 q.2.1 q.2.2.1 q.2.2.2
 | false=>.one e
noncomputable def sdTest:PySem.Expr→Option (BoolOp×List TD×Pos) | .BoolOp o l p=>some (o,l.map tdOf,p) | _=>none
noncomputable def sdOf:Stmt→SD
 | .If t b o p=>.iff (sdTest t) (tdOf t) b o p
 | .Return (some e) p=>match isCmp e with
  | true=>let q:=xCmp e; .ret q.1 q.2.1 q.2.2.1 q.2.2.2 p
  | false=>.one (.Return (some e) p)
 | s=>.one s
noncomputable def clOf (c:Code):Comprehension:=(xGen (aExp c)).2.1.headD ⟨default,default,[],0⟩
noncomputable def isClause:List Comprehension→Bool | [⟨_,_,[e],.ofNat 0⟩]=>isCmp e | _=>false
noncomputable def kindOf (sup gen cmp:Addr→Bool) (c:Code):Nat:=match c with
 | .func body env=>(match env.func with
  | some f=>(match sup f with
   | true=>1
   | false=>match gen f with
    | true=>(match gpF c with | .Name ..=>2 | _=>3)
    | false=>match cmp f with
     | true=>4
     | false=>0)
  | none=>0)
 | .builtin id ⟨[.ref _],[]⟩=>(match isIs id "generator.__next__" with | true=>5 | false=>0)
 | .builtin id ⟨[.type t,.ref _],[]⟩=>(match isIs id "str.__new__"&&isIs t "str" with | true=>6 | false=>0)
 | .builtin id ⟨[.ref _,.ref _],[]⟩=>(match isIs id "list.__init__" with | true=>7 | false=>match isIs id "list.__iadd__" with | true=>8 | false=>0)
 | .forLoop (.Tuple ..) _ _ _ _=>9
 | .compLoop (.ListComp _ g _ _) 0 _ _ _=>(match isClause g with | true=>10 | false=>0)
 | _=>0
noncomputable def tupE:PySem.Expr→List PySem.Expr×Nat×Pos | .Tuple e k p=>(e,k,p) | _=>([],0,⟨0,0,0,0⟩)
noncomputable def supEnv (P:SP) (e:Env):Env:=⟨e.scope,e.locals,e.globals,e.cells,e.qual,some P.f,.ref P.cc,e.frame,e.builtins⟩
noncomputable def alts (c:Code):List (Sem Fin×Code):=[
 (bodyT lt (preThen lt.ex (supLast lt (spOf c) (sRet (lastS (aBody c))).1 (supEnv (spOf c) (aEnv c))) (supEnv (spOf c) (aEnv c)) (aBody c).dropLast) (supEnv (spOf c) (aEnv c)),.func ((aBody c).dropLast++[(spOf c).st (sRet (lastS (aBody c))).1]) (supEnv (spOf c) (aEnv c))),
 (bodyT lt (preThen lt.ex (genN lt (gpOf c) (xName (gpF c)).1 (xName (gpF c)).2 (aEnv c)) (aEnv c) (aBody c).dropLast) (aEnv c),.func ((aBody c).dropLast++[(gpOf c).st (.Name (xName (gpF c)).1 (xName (gpF c)).2)]) (aEnv c)),
 (bodyT lt (preThen lt.ex (genM lt (gpOf c) (xAttr (gpF c)).1 (xAttr (gpF c)).2.1 (xAttr (gpF c)).2.2 (aEnv c)) (aEnv c) (aBody c).dropLast) (aEnv c),.func ((aBody c).dropLast++[(gpOf c).st (.Attribute (xAttr (gpF c)).1 (xAttr (gpF c)).2.1 (xAttr (gpF c)).2.2)]) (aEnv c)),
 (bodyT lt (sdAll lt (aEnv c) ((aBody c).map sdOf)) (aEnv c),.func (((aBody c).map sdOf).map SD.s) (aEnv c)),
 (nextTree lt (.ref (aRef c 0)),.builtin "generator.__next__" ⟨[.ref (aRef c 0)],[]⟩),
 (strTree lt (aRef c 1),.builtin "str.__new__" ⟨[.type "str",.ref (aRef c 1)],[]⟩),
 (initTree lt (aRef c 0) (aRef c 1),.builtin "list.__init__" ⟨[.ref (aRef c 0),.ref (aRef c 1)],[]⟩),
 (extTree lt (aRef c 0) (aRef c 1) (.ref (aRef c 0)),.builtin "list.__iadd__" ⟨[.ref (aRef c 0),.ref (aRef c 1)],[]⟩),
 (forTree lt (.Tuple (tupE (aExp c)).1 (tupE (aExp c)).2.1 (tupE (aExp c)).2.2) (aArg c 0) (aBody c) (aElse c) (aEnv c),.forLoop (.Tuple (tupE (aExp c)).1 (tupE (aExp c)).2.1 (tupE (aExp c)).2.2) (aArg c 0) (aBody c) (aElse c) (aEnv c)),
 (let e:=xGen (aExp c); let g:=clOf c; let q:=xCmp (g.ifs.headD default); let C:=compC q.1 e.1 g.target g.iter q.2.1 q.2.2.1 q.2.2.2 e.2.2.2 e.2.2.1 (aArg c 0) (aArg c 1) (aEnv c)
  (compTree lt q.1 e.1 g.target g.iter q.2.1 q.2.2.1 q.2.2.2 (aArg c 0) (aArg c 1) (aEnv c) C,C))]
noncomputable def nthO {α:Type}:List α→Nat→Option α
 | [],_=>none
 | x::l,n=>match n with
  | 0=>none
  | 1=>some x
  | n+2=>nthO l (n+1)
noncomputable def altOf (sup gen cmp:Addr→Bool) (c:Code):Option (Sem Fin×Code):=nthO (alts c) (kindOf sup gen cmp c)
noncomputable def AllL {α:Type} (p:α→Prop):List α→Prop
 | []=>True
 | x::l=>p x∧AllL p l
theorem nthO_all {α:Type} {p:α→Prop} {x:α}:∀ {l:List α} {n:Nat},nthO l n=some x→AllL p l→p x
 | [],_,e,_=>by cases e
 | y::l,0,e,_=>by cases e
 | y::l,1,e,h=>by cases e; exact h.1
 | y::l,n+2,e,h=>nthO_all (l:=l) (n:=n+1) e h.2
noncomputable def AltOk (M:Model) (q:Sem Fin×Code):Prop:=∀ Γ:Ctx,Γ.code=q.2→Γ.code.weight+frameCount Γ.below<recursionLimit→Γ.code.cUnits+unitsOf Γ.below<cLine→Le M Γ q.1 (M.den q.2)
theorem alts_ok {prog:Program} {w:World} (c:Code):AllL (AltOk (model prog w)) (alts c):=by
 unfold alts
 rw [lt_lo]
 exact ⟨fun Γ hc hr hu=>bodyT_le (preThen_le (supLast_le hc rfl rfl) _),
  fun Γ hc hr hu=>bodyT_le (preThen_le (genN_le hr _ _ _ _) _),
  fun Γ hc hr hu=>bodyT_le (preThen_le (genM_le hr _ _ _ _ _) _),
  fun Γ hc hr hu=>bodyT_le (sdAll_le hu _ _),
  fun Γ hc hr hu=>by rw [den_bi entry_gen_next]; exact nextTree_le hr _,
  fun Γ hc hr hu=>by rw [den_bi F.entry_str_new]; exact strTree_le hu _,
  fun Γ hc hr hu=>by rw [den_bi F.entry_list_init]; exact initTree_le _ _,
  fun Γ hc hr hu=>by rw [den_bi F.entry_list_iadd]; exact extTree_le _ _ _,
  fun Γ hc hr hu=>forTree_le _ _ _ _,
  fun Γ hc hr hu=>compTree_le hu _ _ _ _ _ _ _ _ _ _ _ _,trivial⟩
theorem altOf_ok {V:OV} {prog:Program} {w:World} {sup gen cmp:Addr→Bool} (h:V.alt=altOf sup gen cmp):Alt (model prog w) V:=by
 intro c t c' e Γ p s Q E hc hr hu
 rw [h] at e
 exact nthO_all (p:=AltOk (model prog w)) e (alts_ok c) Γ hc hr hu Q E p s
end Mine
namespace Mine
open PySem.Sem (wp)
open PySem.SeqAt PySem.Builtin PySem.Builtin.Str
section
variable {prog:Program} {w:World} {kt:Addr→Option Obj} {x:Nat}
theorem After.push {C:Con} {s:Shared} {xs:Nat→Nat} {o:Obj} {tk:Nat} (hneed:∀ q∈C.need,s.heap.get? q.1=some q.2) (hg:C.give xs=C.need.map (·.2)) (hw:C.new xs=[(s.heap.objs.size,o)]) (ho:o.isFreed=false) :
  After C s xs {s with heap:=s.heap.push o,toks:=tk}:=by
 constructor
 ·intro b o' e _; exact Heap.get?_push_of_some _ e
 ·rw [hg,List.length_map]
 ·intro q hq; rw [hg] at hq; exact Heap.get?_push_of_some _ (hneed q (mem_zip_map hq))
 ·intro q hq
  rw [hw] at hq
  have:=List.mem_singleton.mp hq
  subst this
  exact ⟨Heap.get?_push_size _ ho,Nat.le_refl _⟩
 ·rw [hw]; exact List.nodup_cons.mpr ⟨by simp,List.nodup_nil⟩
 ·exact .refl _
 ·rfl
 ·rfl
 ·show s.heap.objs.size≤(s.heap.push o).objs.size
  simp
noncomputable def kLLen (l:Addr) (o:Obj) (n:Int):Con:=⟨.builtin "list.__len__" ⟨[.ref l],[]⟩,[(l,o)],fun _=>[o],fun _=>[],fun xs=>.ok (.ret (.int n (xs 0)))⟩
theorem kLLen_ok (l:Addr) (cls:Value) (d:Option Addr) (sl:Array (Option Value)) (its:Array Value) (ep:Nat) (n:Int) (hn:n=its.size):(kLLen l ⟨cls,d,.seq its ep,sl⟩ n).Ok (model prog w) kt x:=by
 subst hn
 refine Con.of_any fun A s R _ _ _ _ _ hneed _ _ hR=>?_
 have hl:s.heap.get? l=some ⟨cls,d,.seq its ep,sl⟩:=hneed (l,_) (.head _)
 refine codeAny_builtin PySem.entry_list_len ?_
 rw [Around.under_plainId (by decide +kernel)]
 obtain ⟨hp,g,dd,tk,os⟩:=s
 unfold Builtin.«list.__len__»
 wp_walk using wpAny_loadPart' hl
 exact hR (fun _=>tk) _ (After.same hneed rfl rfl rfl rfl rfl rfl)
noncomputable def kGetI (l:Addr) (o:Obj) (k:Int) (t:Tok) (v:Value):Con:=⟨.builtin "list.__getitem__" ⟨[.ref l,.int k t],[]⟩,[(l,o)],fun _=>[o],fun _=>[],fun xs=>.ok (.ret v)⟩
theorem fits_nat {i n:Nat} {k:Int} (e:k=i) (h:i<n) (hz:n≤sizeLine):Builtin.List.listFitsIndex k=true:=by
 have:sizeLine=2 ^ 24:=rfl
 exact fitsIndex_of (by omega) (by omega)
theorem kGetI_ok (l:Addr) (cls:Value) (d:Option Addr) (sl:Array (Option Value)) (its:Array Value) (ep:Nat) (k:Int) (t:Tok) (v:Value) (i:Nat) (hk:k=i) (hv:its[i]?=some v) (hz:its.size≤sizeLine):(kGetI l ⟨cls,d,.seq its ep,sl⟩ k t v).Ok (model prog w) kt x:=by
 refine Con.of_any fun A s R _ _ _ _ _ hneed _ _ hR=>?_
 have hl:s.heap.get? l=some ⟨cls,d,.seq its ep,sl⟩:=hneed (l,_) (.head _)
 refine codeAny_builtin PySem.entry_list_getitem ?_
 rw [Around.under_plainId (by decide +kernel)]
 show wpAny _ _ (Builtin.List.listSubscript? (.int k t)>>=_) _ _ s
 refine wpAny_bind (wpAny_listSubscript_int (fits_nat hk (Array.getElem?_eq_some_iff.mp hv).1 hz) ?_)
 have fin:=hR (fun _=>0) s (After.same hneed rfl rfl rfl rfl rfl rfl)
 clear hR hneed
 subst hk
 show wpAny _ _ ((seqItemAt l i>>=fun r=>pure (r.map (i,·)))>>=_) _ _ s
 refine wpAny_bind (wpAny_bind (wpAny_seqItemAt hl rfl (wpAny_pure ?_)))
 rw [hv]
 first
  | exact wpAny_bind (wpAny_pure (wpAny_pure fin))
  | exact wpAny_pure fin
noncomputable def kSetI (l:Addr) (o o':Obj) (k:Int) (t:Tok) (v:Value):Con:=⟨.builtin "list.__setitem__" ⟨[.ref l,.int k t,v],[]⟩,[(l,o)],fun _=>[o'],fun _=>[],fun xs=>.ok (.ret .none)⟩
theorem kSetI_ok (l:Addr) (cls:Value) (d:Option Addr) (sl:Array (Option Value)) (its:Array Value) (ep:Nat) (k:Int) (t:Tok) (v:Value) (i:Nat) (hk:k=i) (hi:i<its.size) (hz:its.size≤sizeLine):(kSetI l ⟨cls,d,.seq its ep,sl⟩ ⟨cls,d,.seq (its.setIfInBounds i v) ep,sl⟩ k t v).Ok (model prog w) kt x:=by
 refine Con.of_any fun A s R _ _ _ _ _ hneed _ _ hR=>?_
 have hl:s.heap.get? l=some ⟨cls,d,.seq its ep,sl⟩:=hneed (l,_) (.head _)
 refine codeAny_builtin PySem.entry_list_setitem ?_
 rw [Around.under_plainId (by decide +kernel)]
 show wpAny _ _ (Builtin.List.listSubscript? (.int k t)>>=_) _ _ s
 refine wpAny_bind (wpAny_listSubscript_int (fits_nat hk hi hz) ?_)
 have fin:=hR (fun _=>0) _ (After.one (tk:=s.toks) (o:=⟨cls,d,.seq its ep,sl⟩) (f:=Obj.mapSeq (·.setIfInBounds i v)) rfl rfl hl (by simp [Obj.mapSeq,Obj.isFreed]) (by show [_]=[_]; unfold Obj.mapSeq; simp))
 clear hR hneed
 subst hk
 show wpAny _ _ ((seqItemAt l i>>=fun r=>pure (r.map (i,·)))>>=_) _ _ s
 refine wpAny_bind (wpAny_bind (wpAny_seqItemAt hl rfl (wpAny_pure ?_)))
 rw [Array.getElem?_eq_getElem hi]
 show wpAny _ _ (setSeqItemAt l i v>>=_) _ _ s
 refine wpAny_bind (wpAny_setSeqItemAt hl rfl ?_)
 first
  | exact wpAny_bind (wpAny_pure (wpAny_pure fin))
  | exact wpAny_pure fin
noncomputable def kSliceL (l sl:Addr) (o:Obj) (vl vu vs:Value) (its':List Value):Con :=
 ⟨.builtin "list.__getitem__" ⟨[.ref l,.ref sl],[]⟩,[(l,o),(sl,{cls:=.type "slice",data:=.fields ⟨[vl,vu,vs]⟩})],fun _=>[o,{cls:=.type "slice",data:=.fields ⟨[vl,vu,vs]⟩}],fun xs=>[(xs 0,{cls:=.type "list",data:=.seq ⟨its'⟩ 0})],fun xs=>.ok (.ret (.ref (xs 0)))⟩
theorem kSliceL_ok (l sl:Addr) (cls:Value) (d:Option Addr) (slo:Array (Option Value)) (its:Array Value) (ep:Nat) (vl vu vs:Value) (lo hi st:Option Int) (its':List Value) (pl:IsPart vl lo) (pu:IsPart vu hi) (ps:IsPart vs st) (h0:st≠some 0)
  (hz:its.size≤sizeLine) (e:slicePick its lo hi st=⟨its'⟩):(kSliceL l sl ⟨cls,d,.seq its ep,slo⟩ vl vu vs its').Ok (model prog w) kt x:=by
 refine Con.of_any fun A s R _ _ _ _ _ hneed _ _ hR=>?_
 have hl:s.heap.get? l=some ⟨cls,d,.seq its ep,slo⟩:=hneed (l,_) (.head _)
 have hos:s.heap.get? sl=some {cls:=.type "slice",data:=.fields ⟨[vl,vu,vs]⟩}:=hneed (sl,_) (.tail _ (.head _))
 have hTs:s.TypeIs (.ref sl) "slice":=⟨_,hos,rfl⟩
 refine codeAny_builtin PySem.entry_list_getitem ?_
 rw [Around.under_plainId (by decide +kernel)]
 show wpAny _ _ (Builtin.List.listSubscript? (.ref sl)>>=_) _ _ s
 refine wpAny_bind ?_
 unfold Builtin.List.listSubscript?
 refine wpAny_bind (wpAny_specialOf hTs slice_no_index ?_)
 simp only [Option.isNone_none,if_true]
 refine wpAny_pure ?_
 show wpAny _ _ (typeOf (.ref sl)>>=_) _ _ s
 refine wpAny_bind (wpAny_typeOf hTs ?_)
 rw [if_neg (by decide),listSliceParts_eq]
 have hstep:¬ ((rawPart st==rawInt 0)=true):=by
  cases st with
  | none=>exact Bool.false_ne_true
  | some c =>
   intro hh
   exact h0 (by rw [show c=0 by simpa [rawPart,rawInt] using hh])
 refine wpAny_bind (wpAny_bind (wpAny_field hos rfl (x:=vs) rfl (wpAny_bind (wpAny_listPart ps ?_))))
 rw [if_neg hstep]
 refine wpAny_bind (wpAny_field hos rfl (x:=vl) rfl (wpAny_bind (wpAny_listPart pl ?_)))
 refine wpAny_bind (wpAny_field hos rfl (x:=vu) rfl (wpAny_bind (wpAny_listPart pu (wpAny_pure ?_))))
 refine wpAny_bind (m:=Builtin.List.listItems (.ref l)) ?_
 unfold Builtin.List.listItems
 refine wpAny_bind (wpAny_seqItems hl rfl (wpAny_pure ?_))
 refine wpAny_bind (wpAny_of_eq (sliceIndices_raw lo hi st its.size h0) ?_)
 refine wpAny_bind (wpAny_newObj_type (wpAny_pure ?_) (Nat.le_trans (slicePick_size_le its lo hi st) hz))
 have fin:=hR (fun _=>s.heap.objs.size) _ (After.push (tk:=s.toks) (o:={cls:=.type "list",data:=.seq ⟨its'⟩ 0}) hneed rfl rfl rfl)
 rw [← e] at fin
 exact fin
noncomputable def stopNew (xs:Nat→Nat):List (Addr×Obj):=[(xs 1,{cls:=.type "StopIteration",data:=.fields ⟨[.ref (xs 0),.none,.none,.none,.bool false,.none]⟩}),(xs 0,{cls:=.type "tuple",data:=.seq ⟨[]⟩ 0})]
theorem After.stop {C:Con} {s:Shared} {xs:Nat→Nat} {it:Addr} {L:List (Addr×Obj)} {o o':Obj} {f:Obj→Obj} {tk:Nat} (hn:C.need=(it,o)::L) (hneed:∀ q∈C.need,s.heap.get? q.1=some q.2) (hnd:(C.need.map (·.1)).Nodup) (hf:f o=o') (hfr:o'.isFreed=false) (hg:C.give xs=o'::L.map (·.2)) (hw:C.new xs=stopNew xs)
  (h0:xs 0=(s.heap.update it f).objs.size) (h1:xs 1=((s.heap.update it f).push {cls:=.type "tuple",data:=.seq ⟨[]⟩ 0}).objs.size) :
  After C s xs {s with heap:=((s.heap.update it f).push {cls:=.type "tuple",data:=.seq ⟨[]⟩ 0}).push {cls:=.type "StopIteration",data:=.fields ⟨[.ref (xs 0),.none,.none,.none,.bool false,.none]⟩},toks:=tk}:=by
 have hl:s.heap.get? it=some o:=hneed (it,o) (by rw [hn]; exact .head _)
 have hs:Heap.SameBut it s.heap (s.heap.update it f):=Heap.SameBut.update ..
 have hit:(s.heap.update it f).get? it=some o':=by
  subst hf
  first | exact Heap.get?_update_self f hl hfr | exact Heap.get?_update_self _ hl hfr
 rw [hn,List.map_cons,List.nodup_cons] at hnd
 have p1:∀ (H:Heap) (o:Obj),(H.push o).objs.size=H.objs.size+1:=fun H o=>by simp
 have keep:∀ b x,b≠it→s.heap.get? b=some x→(((s.heap.update it f).push {cls:=.type "tuple",data:=.seq ⟨[]⟩ 0}).push {cls:=.type "StopIteration",data:=.fields ⟨[.ref (xs 0),.none,.none,.none,.bool false,.none]⟩}).get? b=some x:=fun b x hb e =>
  Heap.get?_push_of_some _ (Heap.get?_push_of_some _ ((hs.2 b hb).trans e))
 constructor
 ·intro b x e m
  exact keep b x (fun q=>m (by rw [hn,q]; simp)) e
 ·rw [hg,hn]; simp
 ·intro q hq
  rw [hg,hn] at hq
  rcases List.mem_cons.mp hq with rfl | hq
  ·exact Heap.get?_push_of_some _ (Heap.get?_push_of_some _ hit)
  ·have hq:=mem_zip_map hq
   exact keep q.1 q.2 (fun e=>hnd.1 (List.mem_map.mpr ⟨q,hq,e⟩)) (hneed q (by rw [hn]; exact .tail _ hq))
 ·intro q hq
  rw [hw] at hq
  rcases List.mem_cons.mp hq with rfl | hq
  ·refine ⟨?_,?_⟩
   ·show Heap.get? _ (xs 1)=_
    rw [h1]; exact Heap.get?_push_size _ rfl
   ·show _≤xs 1
    rw [h1,p1,hs.1]; exact Nat.le_succ _
  ·have:=List.mem_singleton.mp hq
   subst this
   refine ⟨?_,?_⟩
   ·show Heap.get? _ (xs 0)=_
    rw [h0]; exact Heap.get?_push_of_some _ (Heap.get?_push_size _ rfl)
   ·show _≤xs 0
    rw [h0,hs.1]; exact Nat.le_refl _
 ·rw [hw]
  show [xs 1,xs 0].Nodup
  rw [h0,h1,p1]; simp
 ·exact .refl _
 ·rfl
 ·rfl
 ·show s.heap.objs.size≤(Heap.push _ _).objs.size
  rw [p1,p1,hs.1]; omega
noncomputable def strIt (x:Str) (t:Tok) (k:Int) (u:Tok):Obj:={cls:=.type "str_ascii_iterator",data:=.fields ⟨[.str x t,.int k u]⟩}
noncomputable def kNextS (it:Addr) (x:Str) (t:Tok) (k:Int) (u:Tok) (c:Nat):Con :=
 ⟨.builtin "str_ascii_iterator.__next__" ⟨[.ref it],[]⟩,[(it,strIt x t k u)],fun _=>[strIt x t (k+1) 0],fun _=>[],fun xs=>.ok (.ret (.str ⟨⟨[c]⟩⟩ (xs 0)))⟩
theorem kNextS_ok (it:Addr) (y:Str) (t:Tok) (k:Int) (u:Tok) (c:Nat) (h:y.cps[k.toNat]?=some c):(kNextS it y t k u c).Ok (model prog w) kt x:=by
 refine Con.of_any fun A s R _ _ _ _ _ hneed _ _ hR=>?_
 have hl:s.heap.get? it=some {cls:=.type "str_ascii_iterator",dict:=none,data:=.fields #[.str y t,.int k u],slots:=#[]}:=hneed (it,_) (.head _)
 refine codeAny_builtin F.entry_str_ascii_iterator_next ?_
 rw [Around.under_plainId (by decide +kernel)]
 unfold Builtin.«str_ascii_iterator.__next__»
 obtain ⟨hp,g,dd,tk,os⟩:=s
 wp_walk
 rw [h]
 dsimp only
 wp_walk
 exact hR (fun _=>tk) _ (After.one (tk:=tk+1) (o:=strIt y t k u) (f:=Obj.mapFields fun x=>x.setIfInBounds 1 (rawInt (k+1))) rfl rfl hl rfl rfl)
noncomputable def strItE (k:Int) (u:Tok):Obj:={cls:=.type "str_ascii_iterator",data:=.fields ⟨[.none,.int k u]⟩}
noncomputable def kNextSE (it:Addr) (x:Str) (t:Tok) (k:Int) (u:Tok):Con :=
 ⟨.builtin "str_ascii_iterator.__next__" ⟨[.ref it],[]⟩,[(it,strIt x t k u)],fun _=>[strItE k u],stopNew,fun xs=>.error (.ref (xs 1))⟩
theorem kNextSE_ok (it:Addr) (y:Str) (t:Tok) (k:Int) (u:Tok) (h:y.cps[k.toNat]?=none):(kNextSE it y t k u).Ok (model prog w) kt x:=by
 refine Con.of_any fun A s R hh _ _ _ _ hneed _ hnd hR=>?_
 have hl:s.heap.get? it=some {cls:=.type "str_ascii_iterator",dict:=none,data:=.fields #[.str y t,.int k u],slots:=#[]}:=hneed (it,_) (.head _)
 refine codeAny_builtin F.entry_str_ascii_iterator_next ?_
 rw [Around.under_plainId (by decide +kernel)]
 unfold Builtin.«str_ascii_iterator.__next__»
 obtain ⟨hp,g,dd,tk,os⟩:=s
 wp_walk
 rw [h]
 dsimp only
 wp_walk
 refine wpAny_raiseNew_none hh ?_
 have fin:=hR (fun j=>match j with | 0=>(hp.update it (Obj.mapFields fun x=>x.setIfInBounds 0 Value.none)).objs.size | _=>((hp.update it (Obj.mapFields fun x=>x.setIfInBounds 0 Value.none)).push {cls:=.type "tuple",data:=.seq ⟨[]⟩ 0}).objs.size) _
  (After.stop (tk:=tk) (it:=it) (L:=[]) (o:=strIt y t k u) (o':=strItE k u) (f:=Obj.mapFields fun x=>x.setIfInBounds 0 Value.none) rfl hneed hnd rfl rfl rfl rfl rfl rfl)
 exact fin
theorem entry_li_next:entryFor table "list_iterator.__next__"=some Builtin.«list_iterator.__next__»:=entryFor_of_tree (by kernel_rfl)
noncomputable def lisIt (v:Value) (k:Int) (u:Tok):Obj:={cls:=.type "list_iterator",data:=.fields ⟨[v,.int k u]⟩}
noncomputable def kNextL (it l:Addr) (o:Obj) (k:Int) (u:Tok) (v:Value):Con :=
 ⟨.builtin "list_iterator.__next__" ⟨[.ref it],[]⟩,[(it,lisIt (.ref l) k u),(l,o)],fun _=>[lisIt (.ref l) (k+1) 0,o],fun _=>[],fun xs=>.ok (.ret v)⟩
theorem After.one2 {C:Con} {s:Shared} {xs:Nat→Nat} {it:Addr} {L:List (Addr×Obj)} {o o':Obj} {f:Obj→Obj} {tk:Nat} (hn:C.need=(it,o)::L) (hneed:∀ q∈C.need,s.heap.get? q.1=some q.2) (hnd:(C.need.map (·.1)).Nodup) (hf:f o=o') (hfr:o'.isFreed=false) (hg:C.give xs=o'::L.map (·.2)) (hw:C.new xs=[]) :
  After C s xs {s with heap:=s.heap.update it f,toks:=tk}:=by
 have hl:s.heap.get? it=some o:=hneed (it,o) (by rw [hn]; exact .head _)
 have hs:Heap.SameBut it s.heap (s.heap.update it f):=Heap.SameBut.update ..
 have hit:(s.heap.update it f).get? it=some o':=by
  subst hf
  first | exact Heap.get?_update_self f hl hfr | exact Heap.get?_update_self _ hl hfr
 rw [hn,List.map_cons,List.nodup_cons] at hnd
 constructor
 ·intro b x e m
  exact (hs.2 b (fun q=>m (by rw [hn,q]; simp))).trans e
 ·rw [hg,hn]; simp
 ·intro q hq
  rw [hg,hn] at hq
  rcases List.mem_cons.mp hq with rfl | hq
  ·exact hit
  ·have hq:=mem_zip_map hq
   exact (hs.2 q.1 (fun e=>hnd.1 (List.mem_map.mpr ⟨q,hq,e⟩))).trans (hneed q (by rw [hn]; exact .tail _ hq))
 ·intro q hq; rw [hw] at hq; cases hq
 ·rw [hw]; exact List.nodup_nil
 ·exact .refl _
 ·rfl
 ·rfl
 ·show s.heap.objs.size≤(s.heap.update it f).objs.size
  rw [hs.1]; exact Nat.le_refl _
theorem kNextL_ok (it l:Addr) (cls:Value) (d:Option Addr) (slo:Array (Option Value)) (its:Array Value) (ep:Nat) (k:Int) (u:Tok) (v:Value) (h:its[k.toNat]?=some v):(kNextL it l ⟨cls,d,.seq its ep,slo⟩ k u v).Ok (model prog w) kt x:=by
 refine Con.of_any fun A s R hh _ _ _ _ hneed _ hnd hR=>?_
 have hl:s.heap.get? it=some {cls:=.type "list_iterator",dict:=none,data:=.fields #[.ref l,.int k u],slots:=#[]}:=hneed (it,_) (.head _)
 have hll:s.heap.get? l=some ⟨cls,d,.seq its ep,slo⟩:=hneed (l,_) (.tail _ (.head _))
 refine codeAny_builtin entry_li_next ?_
 rw [Around.under_plainId (by decide +kernel)]
 unfold Builtin.«list_iterator.__next__»
 obtain ⟨hp,g,dd,tk,os⟩:=s
 wp_walk
 rw [h]
 dsimp only
 wp_walk
 exact hR (fun _=>tk) _ (After.one2 (tk:=tk) (L:=[(l,⟨cls,d,.seq its ep,slo⟩)]) (o:=lisIt (.ref l) k u) (o':=lisIt (.ref l) (k+1) 0) (f:=Obj.mapFields fun x=>x.setIfInBounds 1 (rawInt (k+1))) rfl hneed hnd rfl rfl rfl rfl)
noncomputable def kNextLE (it l:Addr) (o:Obj) (k:Int) (u:Tok):Con :=
 ⟨.builtin "list_iterator.__next__" ⟨[.ref it],[]⟩,[(it,lisIt (.ref l) k u),(l,o)],fun _=>[lisIt .none k u,o],stopNew,fun xs=>.error (.ref (xs 1))⟩
theorem kNextLE_ok (it l:Addr) (cls:Value) (d:Option Addr) (slo:Array (Option Value)) (its:Array Value) (ep:Nat) (k:Int) (u:Tok) (h:its[k.toNat]?=none):(kNextLE it l ⟨cls,d,.seq its ep,slo⟩ k u).Ok (model prog w) kt x:=by
 refine Con.of_any fun A s R hh _ _ _ _ hneed _ hnd hR=>?_
 have hl:s.heap.get? it=some {cls:=.type "list_iterator",dict:=none,data:=.fields #[.ref l,.int k u],slots:=#[]}:=hneed (it,_) (.head _)
 have hll:s.heap.get? l=some ⟨cls,d,.seq its ep,slo⟩:=hneed (l,_) (.tail _ (.head _))
 refine codeAny_builtin entry_li_next ?_
 rw [Around.under_plainId (by decide +kernel)]
 unfold Builtin.«list_iterator.__next__»
 obtain ⟨hp,g,dd,tk,os⟩:=s
 wp_walk
 rw [h]
 dsimp only
 wp_walk
 refine wpAny_raiseNew_none hh ?_
 have fin:=hR (fun j=>match j with | 0=>(hp.update it (Obj.mapFields fun x=>x.setIfInBounds 0 Value.none)).objs.size | _=>((hp.update it (Obj.mapFields fun x=>x.setIfInBounds 0 Value.none)).push {cls:=.type "tuple",data:=.seq ⟨[]⟩ 0}).objs.size) _
  (After.stop (tk:=tk) (it:=it) (L:=[(l,⟨cls,d,.seq its ep,slo⟩)]) (o:=lisIt (.ref l) k u) (o':=lisIt .none k u) (f:=Obj.mapFields fun x=>x.setIfInBounds 0 Value.none) rfl hneed hnd rfl rfl rfl rfl rfl rfl)
 exact fin
theorem After.kept {C:Con} {s s':Shared} {xs:Nat→Nat} (hneed:∀ q∈C.need,s.heap.get? q.1=some q.2) (hg:C.give xs=C.need.map (·.2)) (hw:C.new xs=[]) (h:∀ b o,s.heap.get? b=some o→s'.heap.get? b=some o) (g:s'.gens=s.gens) (d:s'.drawn=s.drawn) (o:s'.os=s.os) (hz:s.heap.objs.size≤s'.heap.objs.size):After C s xs s':=by
 constructor
 ·intro b o e _; exact h _ _ e
 ·rw [hg,List.length_map]
 ·intro q hq; rw [hg] at hq; exact h _ _ (hneed q (mem_zip_map hq))
 ·intro q hq; rw [hw] at hq; cases hq
 ·rw [hw]; exact List.nodup_nil
 ·rw [g]; exact .refl _
 ·exact d
 ·exact o
 ·exact hz
noncomputable def kEqL (l b:Addr) (o o2:Obj) (r:Bool):Con:=⟨.builtin "list.__eq__" ⟨[.ref l,.ref b],[]⟩,[(l,o),(b,o2)],fun _=>[o,o2],fun _=>[],fun _=>.ok (.ret (.bool r))⟩
theorem kEqL_ok (l b:Addr) (items items2:Array Value) (n n2:Nat) (dd dd2:Option Addr) (sl sl2:Array (Option Value)) (hsz:items.size=items2.size) (e:Nat→Bool) (he:∀ j (h1:j<items.size) (h2:j<items2.size),MeetsSeq.EqGives items[j] items2[j] (e j)) (r:Bool) (hr:(List.range items.size).all e=r) :
  (kEqL l b ⟨.type "list",dd,.seq items n,sl⟩ ⟨.type "list",dd2,.seq items2 n2,sl2⟩ r).Ok (model prog w) kt x:=by
 subst hr
 refine Con.of_any fun A s R hh _ _ _ _ hneed _ _ hR=>?_
 refine codeAny_builtin F.entry_list_eq ?_
 rw [Around.under_plainId (by decide +kernel)]
 exact list_eqAt l b items items2 n n2 dd dd2 sl sl2 hsz e prog w A R s ⟨hneed (l,_) (.head _),hneed (b,_) (.tail _ (.head _)),fun j h1 h2=>(he j h1 h2).at _ _,hR (fun _=>0) _ (After.same hneed rfl rfl rfl rfl rfl rfl)⟩
theorem kEqL2_ok (l b:Addr) (items items2:Array Value) (n n2:Nat) (dd dd2:Option Addr) (sl sl2:Array (Option Value)) (hsz:(items.size != items2.size)=true) :
  (kEqL l b ⟨.type "list",dd,.seq items n,sl⟩ ⟨.type "list",dd2,.seq items2 n2,sl2⟩ false).Ok (model prog w) kt x:=by
 refine Con.of_any fun A s R hh _ _ _ _ hneed _ _ hR=>?_
 refine codeAny_builtin F.entry_list_eq ?_
 rw [Around.under_plainId (by decide +kernel)]
 exact list_eq_lengthsAt l b items items2 n n2 dd dd2 sl sl2 hsz prog w A R s ⟨hneed (l,_) (.head _),hneed (b,_) (.tail _ (.head _)),hR (fun _=>0) _ (After.same hneed rfl rfl rfl rfl rfl rfl)⟩
noncomputable def kNeL (l b:Addr) (o o2:Obj) (r:Bool):Con:=⟨.builtin "list.__ne__" ⟨[.ref l,.ref b],[]⟩,[(l,o),(b,o2)],fun _=>[o,o2],fun _=>[],fun _=>.ok (.ret (.bool r))⟩
theorem kNeL_ok (l b:Addr) (items items2:Array Value) (n n2:Nat) (dd dd2:Option Addr) (sl sl2:Array (Option Value)) (hsz:items.size=items2.size) (e:Nat→Bool) (he:∀ j (h1:j<items.size) (h2:j<items2.size),MeetsSeq.EqGives items[j] items2[j] (e j)) (r:Bool) (hr:(!(List.range items.size).all e)=r) :
  (kNeL l b ⟨.type "list",dd,.seq items n,sl⟩ ⟨.type "list",dd2,.seq items2 n2,sl2⟩ r).Ok (model prog w) kt x:=by
 subst hr
 refine Con.of_any fun A s R hh _ _ _ _ hneed _ _ hR=>?_
 refine codeAny_builtin F.entry_list_ne ?_
 rw [Around.under_plainId (by decide +kernel)]
 exact list_neAt l b items items2 n n2 dd dd2 sl sl2 hsz e prog w A R s ⟨hneed (l,_) (.head _),hneed (b,_) (.tail _ (.head _)),fun j h1 h2=>(he j h1 h2).at _ _,hR (fun _=>0) _ (After.same hneed rfl rfl rfl rfl rfl rfl)⟩
theorem EqGives.str (a b:Str) (t u:Tok):MeetsSeq.EqGives (.str a t) (.str b u) (decide (a=b)):=fun _ _ _ _ _ _ h=>wpAny_eqBool_str h
noncomputable def kInL (l:Addr) (o:Obj) (v:Value) (r:Bool):Con:=⟨.builtin "list.__contains__" ⟨[.ref l,v],[]⟩,[(l,o)],fun _=>[o],fun _=>[],fun _=>.ok (.ret (.bool r))⟩
theorem kInL_ok (l:Addr) (items:Array Value) (n:Nat) (dd:Option Addr) (sl:Array (Option Value)) (v:Value) (e:Value→Bool) (he:∀ y,y∈items→MeetsSeq.EqGives y v (e y)) (r:Bool) (hr:items.any e=r) :
  (kInL l ⟨.type "list",dd,.seq items n,sl⟩ v r).Ok (model prog w) kt x:=by
 subst hr
 refine Con.of_any fun A s R hh _ _ _ _ hneed _ _ hR=>?_
 refine codeAny_builtin F.entry_list_contains ?_
 rw [Around.under_plainId (by decide +kernel)]
 exact list_containsAt l items n dd sl v e prog w A R s ⟨hneed (l,_) (.head _),fun y hy=>(he y hy).at _ _,hR (fun _=>0) _ (After.same hneed rfl rfl rfl rfl rfl rfl)⟩
noncomputable def kJoin (sep:Str) (t:Tok) (l:Addr) (o:Obj) (r:Str):Con:=⟨.builtin "str.join" ⟨[.str sep t,.ref l],[]⟩,[(l,o)],fun _=>[o],fun _=>[],fun xs=>.ok (.ret (.str r (xs 0)))⟩
theorem kJoin_ok (sep:Str) (t:Tok) (l:Addr) (ps:List (Str×Tok)) (n:Nat) (dd:Option Addr) (sl:Array (Option Value)) (r:Str) (hr:r=glued sep (ps.map (·.1))) (h1:∀ p,ps=[p]→r=p.1)
  (hf:tooLong ((ps.map (·.1)).toArray.foldl (·+·.length+sep.length) 0)=false) (hz:r.length≤sizeLine) :
  (kJoin sep t l ⟨.type "list",dd,.seq ⟨strValues ps⟩ n,sl⟩ r).Ok (model prog w) kt x:=by
 refine Con.of_any fun A s R hh _ _ _ _ hneed _ _ hR=>?_
 have hl:s.heap.get? l=some ⟨.type "list",dd,.seq ⟨strValues ps⟩ n,sl⟩:=hneed (l,_) (.head _)
 refine codeAny_builtin F.entry_str_join ?_
 rw [Around.under_plainId (by decide +kernel)]
 obtain ⟨other,e⟩:=join_tree sep t l
 rw [e]
 refine wpAny_bind (wpAny_typeOf (T:="list") ⟨_,hl,rfl⟩ ?_)
 rw [if_pos (by rfl)]
 refine wpAny_bind (wpAny_seqItems hl rfl ?_)
 refine gives_joinTail sep ps hf prog w A R s ?_
 match ps,hr,h1,hR with
 | [],hr,h1,hR=>subst hr; exact ⟨hz,hR (fun _=>s.toks) _ (After.same (s':={s with toks:=s.toks+1}) hneed rfl rfl rfl rfl rfl rfl)⟩
 | [p],hr,h1,hR =>
  obtain rfl:=h1 p rfl
  exact hR (fun _=>p.2) _ (After.same hneed rfl rfl rfl rfl rfl rfl)
 | p::q::r',hr,h1,hR=>subst hr; exact ⟨hz,hR (fun _=>s.toks) _ (After.same (s':={s with toks:=s.toks+1}) hneed rfl rfl rfl rfl rfl rfl)⟩
theorem runs_grow {M:Model} {Γ:Ctx} {p:Pos} {t:Sem Fin} {fs:List Frame} {s:Shared} {e:End} {s':Shared} (h:Runs M Γ p t fs s e s'):s.heap.objs.size≤s'.heap.objs.size:=by
 induction h with
 | update _ _ ih=>exact Nat.le_trans (Nat.le_of_eq (Heap.SameBut.update ..).1.symm) ih
 | alloc _ ih=>exact Nat.le_trans (by show _≤(Heap.push _ _).objs.size; rw [Heap.size_push]; exact Nat.le_succ _) ih
 | call _ _ i1 i2=>exact Nat.le_trans i1 i2
 | resumeFresh _ _ _ _ i1 i2=>exact Nat.le_trans i1 i2
 | resumeSuspended _ _ _ _ i1 i2=>exact Nat.le_trans i1 i2
 | segRet _ _ i1 i2=>exact Nat.le_trans i1 i2
 | segGen _ _ i1 i2=>exact Nat.le_trans i1 i2
 | segSuspGen _ _ _ _ i1 i2=>exact Nat.le_trans i1 i2
 | _=>first | exact Nat.le_refl _ | assumption
theorem codeAny_grow {M:Model} {A:Around} {c:Code} {R:Result→Shared→Prop} {s:Shared} (h:codeAny M A c (fun r s'=>s.heap.objs.size≤s'.heap.objs.size→R r s') s):codeAny M A c R s:=fun Γ p hc hb=>by
 obtain ⟨r,s',a,b⟩:=h Γ p hc hb
 exact ⟨r,s',a,b (runs_grow a)⟩
noncomputable def kSumL (l:Addr) (o:Obj) (n:Int):Con:=⟨.builtin "sum" ⟨[.ref l],[]⟩,[(l,o)],fun _=>[o],fun _=>[],fun xs=>.ok (.ret (.int n (xs 0)))⟩
theorem kSumL_ok (l:Addr) (ns:Array (Int×Tok)) (n:Nat) (dd:Option Addr) (sl:Array (Option Value)) (r:Int) (hr:preSum (numAt ns) ns.size=r) (hfit:∀ j,j<ns.size→InLong (numAt ns j)∧InLong (preSum (numAt ns) (j+1))) :
  (kSumL l ⟨.type "list",dd,.seq (intItems ns) n,sl⟩ r).Ok (model prog w) kt x:=by
 subst hr
 refine Con.of_any fun A s R hh _ _ _ _ hneed _ _ hR=>?_
 have hl:s.heap.IsList l (intItems ns):=⟨_,hneed (l,_) (.head _),rfl,_,rfl⟩
 refine codeAny_grow ?_
 refine codeAny_builtin F.entry_sum ?_
 rw [Around.under_plainId F.plain_sum]
 unfold Builtin.«sum»
 simp only [List.length_cons,List.length_nil]
 rw [if_neg (by decide)]
 refine wpAny_bind (wpAny_of_eq (show Builtin.Builtins.bindParams "sum" ["start"] 0 {}=pure [none] from rfl) ?_)
 refine wpAny_bind (iter_intList (A:=A.in1) hl fun s₂ e st hfp hlI=>?_)
 refine wpAny_bind (wpAny_mkInt ?_)
 refine wpAny_bind (wpAny_pure ?_)
 simp only [List.forIn_cons,List.forIn_nil]
 refine wpAny_bind (wpAny_bind (wpAny_bind (wpAny_isInstance (T:="int") (b:=false) (typeIs_int _ _ _) PySem.sub_int_str ?_)))
 simp only [Bool.false_eq_true,if_false]
 refine wpAny_pure (wpAny_bind (wpAny_bind (wpAny_isInstance (T:="int") (b:=false) (typeIs_int _ _ _) PySem.sub_int_bytes ?_)))
 simp only [Bool.false_eq_true,if_false]
 refine wpAny_pure (wpAny_bind (wpAny_bind (wpAny_isInstance (T:="int") (b:=false) (typeIs_int _ _ _) PySem.sub_int_bytearray ?_)))
 simp only [Bool.false_eq_true,if_false]
 refine wpAny_pure (wpAny_pure ?_)
 refine wpAny_bind (wpAny_newObj_type ?_)
 have hSf:s₂.heap.objs.size∉[s.heap.objs.size,l]:=fun hm=>Nat.lt_irrefl _ (hfp _ hm)
 have W:=Walks.list (prog:=prog) (w:=w) (A:=A.in1) hh s.heap.objs.size l hlI (intItems ns)
 refine wpAny_pure ⟨plainId_quiet F.plain_sum_loop _,codeAny_sum_loop W (numAt ns) (fun _ _=>intItems_at) (fun j hj=>hfit j (by simpa [intItems] using hj)) s₂.heap.objs.size hSf (intItems ns).size 0 _ s₂.toks 0 rfl (Nat.zero_le _)
  (W.frame _ _ _ st fun b _ o e=>Heap.get?_push_of_some _ e) (Heap.get?_push_size _ rfl) fun h' tk t' hk hgr=>?_⟩
 have hn:(intItems ns).size=ns.size:=by simp [intItems]
 rw [hn]
 subst e
 refine hR (fun _=>t') _ (After.kept hneed rfl rfl (fun b o e=>?_) rfl rfl rfl ?_)
 ·exact hk b o (by simpa using Nat.ne_of_lt (Heap.lt_size e)) (Nat.ne_of_lt (Nat.lt_trans (Heap.lt_size e) (by show _<(Heap.push _ _).objs.size; rw [Heap.size_push]; exact Nat.lt_succ_self _))) (Heap.get?_push_of_some _ (Heap.get?_push_of_some _ e))
 ·exact hgr
noncomputable def kMinL (l:Addr) (o:Obj) (n:Int):Con:=⟨.builtin "min" ⟨[.ref l],[]⟩,[(l,o)],fun _=>[o],fun _=>[],fun xs=>.ok (.ret (.int n (xs 0)))⟩
theorem kMinL_ok (l:Addr) (ns:Array (Int×Tok)) (n:Nat) (dd:Option Addr) (sl:Array (Option Value)) (r:Int) (hne:0<ns.size) (hr:numAt ns (argBest (fun i j=>decide (numAt ns i<numAt ns j)) (ns.size-1))=r) :
  (kMinL l ⟨.type "list",dd,.seq (intItems ns) n,sl⟩ r).Ok (model prog w) kt x:=by
 subst hr
 refine Con.of_any fun A s R hh _ _ _ _ hneed _ _ hR=>?_
 have hl:s.heap.IsList l (intItems ns):=⟨_,hneed (l,_) (.head _),rfl,_,rfl⟩
 have hname:(toString "min"++toString ".loop":String)="min.loop":=by decide
 refine codeAny_grow ?_
 refine codeAny_builtin F.entry_min ?_
 rw [Around.under_plainId F.plain_min]
 show wpAny _ A.in1 (Builtin.Builtins.bindParams "min" ["key","default"] 0 ⟨[],[]⟩>>=_) _ _ s
 refine wpAny_bind (wpAny_of_eq (show Builtin.Builtins.bindParams "min" ["key","default"] 0 ⟨[],[]⟩=pure [none,none] from rfl) ?_)
 refine wpAny_bind (wpAny_pure ?_)
 refine wpAny_bind (iter_intList (A:=A.in1) hl fun s₂ e st hfp hlI=>?_)
 refine wpAny_bind (wpAny_newObj_type ?_)
 have hSf:s₂.heap.objs.size∉[s.heap.objs.size,l]:=fun hm=>Nat.lt_irrefl _ (hfp _ hm)
 have W:=Walks.list (prog:=prog) (w:=w) (A:=A.in1) hh s.heap.objs.size l hlI (intItems ns)
 have hn:(intItems ns).size=ns.size:=by simp [intItems]
 rw [hname]
 refine wpAny_pure ⟨plainId_quiet F.plain_min_loop _,codeAny_min_loop_first W (fun i j=>decide (numAt ns i<numAt ns j)) (CmpOf.ints_lt (numAt ns) (fun _ _=>intItems_at)) s₂.heap.objs.size hSf (by rw [hn]; exact hne)
  (W.frame _ _ _ st fun b _ o e=>Heap.get?_push_of_some _ e) (Heap.get?_push_size _ rfl) fun v h' tk hP hk hgr=>?_⟩
 rw [hn] at hP
 obtain ⟨t',rfl⟩:=intItems_at hP
 subst e
 refine hR (fun _=>t') _ (After.kept hneed rfl rfl (fun b o e=>?_) rfl rfl rfl hgr)
 exact hk b o (by simpa using Nat.ne_of_lt (Heap.lt_size e)) (Nat.ne_of_lt (Nat.lt_trans (Heap.lt_size e) (by show _<(Heap.push _ _).objs.size; rw [Heap.size_push]; exact Nat.lt_succ_self _))) (Heap.get?_push_of_some _ (Heap.get?_push_of_some _ e))
noncomputable def kRangeI (r:Addr) (a b:Int) (t u v:Tok) (n:Nat):Con :=
 ⟨.builtin "range.__iter__" ⟨[.ref r],[]⟩,[(r,{cls:=.type "range",data:=.fields ⟨[.int a t,.int b u,.int 1 v]⟩})],fun _=>[{cls:=.type "range",data:=.fields ⟨[.int a t,.int b u,.int 1 v]⟩}],
  fun xs=>[(xs 0,{cls:=.type "range_iterator",data:=.fields ⟨[.int a 0,.int n 0,.int 1 0]⟩})],fun xs=>.ok (.ret (.ref (xs 0)))⟩
theorem kRangeI_ok (r:Addr) (a b:Int) (t u v:Tok) (n:Nat) (h0:0≤a) (hn:b-a=n∨(b≤a∧n=0)) (hb:b<2 ^ 62) (ha:a<2 ^ 62) (hb0:0≤b):(kRangeI r a b t u v n).Ok (model prog w) kt x:=by
 have hs:Builtin.Range.rangeSize a b 1=n:=by
  unfold Builtin.Range.rangeSize
  rcases hn with h | ⟨h,rfl⟩<;>simp<;>omega
 have hf:∀ i:Int,-(2 ^ 62)≤i→i≤2 ^ 62→Builtin.Range.rangeFitsLong i=true:=fun i h1 h2=>by
  unfold Builtin.Range.rangeFitsLong
  simp; omega
 have hc:¬(!(Builtin.Range.rangeFitsLong a&&Builtin.Range.rangeFitsLong b&&Builtin.Range.rangeFitsLong 1&&Builtin.Range.rangeFitsLong (Builtin.Range.rangeSize a b 1)&&(Builtin.Range.rangeSize a b 1==0||if (1:Int) > 0 then Builtin.Range.rangeFitsLong (b+(1-1)) else Builtin.Range.rangeFitsLong (b+(1+1)))))=true:=by
  rw [hs,hf a (by omega) (by omega),hf b (by omega) (by omega),hf 1 (by decide) (by decide),hf n (by omega) (by omega),if_pos (by decide),hf (b+(1-1)) (by omega) (by omega)]
  simp
 refine Con.of_any fun A s R hh _ _ _ _ hneed _ _ hR=>?_
 refine codeAny_builtin F.entry_range_iter ?_
 rw [Around.under_plainId (by decide +kernel)]
 refine AutoRange.range___iter___range_1 r a b 1 t u v hc prog w A R s ⟨hneed (r,_) (.head _),?_⟩
 have neg:∀ y:Bool,¬ ((!y)=true)→y=true:=fun y h=>by cases y<;>simp_all
 rw [if_pos (neg _ hc),hs]
 exact hR (fun _=>s.heap.objs.size) _ (After.push (tk:=s.toks) hneed rfl rfl rfl)
noncomputable def kStrAt (a:Str) (t:Tok) (k:Int) (u:Tok) (c:Nat):Con:=kVal "str.__getitem__" [.str a t,.int k u] fun xs=>.str ⟨⟨[c]⟩⟩ (xs 0)
theorem kStrAt_ok (a:Str) (t:Tok) (k:Int) (u:Tok) (c:Nat) (h0:-(2 ^ 62)≤k) (h1:k<2 ^ 62) (h:(seqIndex? k a.length).bind (a.cps[·]?)=some c):(kStrAt a t k u c).Ok (model prog w) kt x:=by
 refine kStr_ok (by decide +kernel) F.entry_str_getitem (gives_str_getitem a k t u c ?_ h) ?_
 ·simp; omega
 ·show 1≤sizeLine
  rw [sizeLine_eq]; decide
noncomputable def kStrCase (id:String) (a:Str) (t:Tok) (r:Str):Con:=kVal id [.str a t] fun xs=>.str r (xs 0)
theorem kStrUp_ok (a:Str) (t:Tok) (r:Str) (h:r=⟨placed a fun _ c=>Unicode.upperOf c⟩) (hl:r.length≤sizeLine):(kStrCase "str.upper" a t r).Ok (model prog w) kt x:=by
 subst h
 refine kStr_ok (by decide +kernel) F.entry_str_upper (gives_str_upper a t ?_) hl
 unfold tooLong
 have hl':Array.size _≤sizeLine:=hl
 simpa using hl'
theorem kStrLow_ok (a:Str) (t:Tok) (r:Str) (h:r=⟨placed a fun i _=>Unicode.lowerAt a.cps i⟩) (hl:r.length≤sizeLine):(kStrCase "str.lower" a t r).Ok (model prog w) kt x:=by
 subst h
 refine kStr_ok (by decide +kernel) F.entry_str_lower (gives_str_lower a t ?_) hl
 unfold tooLong
 have hl':Array.size _≤sizeLine:=hl
 simpa using hl'
noncomputable def kCount (a:Str) (t:Tok) (b:Str) (u:Tok) (n:Int):Con:=kVal "str.count" [.str a t,.str b u] fun xs=>.int n (xs 0)
theorem kCount_ok (a:Str) (t:Tok) (b:Str) (u:Tok) (n:Int) (h:n=(occurrences a b 0 a.length (a.length+1)).length):(kCount a t b u n).Ok (model prog w) kt x:=by
 subst h
 exact kInt_ok (by decide +kernel) F.entry_str_count (gives_str_count a b t u)
noncomputable def kStrCut (a:Str) (t:Tok) (sl:Addr) (l u v:Option (Int×Tok)) (r:Str):Con :=
 ⟨.builtin "str.__getitem__" ⟨[.str a t,.ref sl],[]⟩,[(sl,{cls:=.type "slice",data:=.fields ⟨[partValue l,partValue u,partValue v]⟩})],fun _=>[{cls:=.type "slice",data:=.fields ⟨[partValue l,partValue u,partValue v]⟩}],fun _=>[],fun xs=>.ok (.ret (.str r (xs 0)))⟩
theorem kStrCut_ok (a:Str) (t:Tok) (sl:Addr) (l u v:Option (Int×Tok)) (r:Str) (h0:((v.map (·.1)).getD 1==0)=false) (hl:a.length≤sizeLine)
  (h1:r=⟨((slicePicked a l u v).filterMap (a.cps[·]?)).toArray⟩) (h2:(slicePicked a l u v).length=a.length→((v.map (·.1)).getD 1==1)=true→r=a) (h3:r.length≤a.length):(kStrCut a t sl l u v r).Ok (model prog w) kt x:=by
 refine Con.of_any fun A s R hh _ _ _ _ hneed _ _ hR=>?_
 refine codeAny_builtin F.entry_str_getitem ?_
 rw [Around.under_plainId (by decide +kernel)]
 refine meets_str_getitem_slice a t sl l u v h0 prog w A R s ⟨⟨_,hneed (sl,_) (.head _),rfl,rfl⟩,?_⟩
 unfold sliceMade
 by_cases h:((v.map (·.1)).getD 1==1&&(slicePicked a l u v).length==a.length)=true
 ·rw [if_pos h]
  rw [Bool.and_eq_true] at h
  have e:=h2 (by simpa using h.2) h.1
  have q:=hR (fun _=>t) s (After.same hneed rfl rfl rfl rfl rfl rfl)
  rw [show (kStrCut a t sl l u v r).res (fun _=>t)=.ok (.ret (.str a t)) by rw [e]; rfl] at q
  exact q
 ·rw [if_neg h,← h1]
  exact ⟨Nat.le_trans h3 hl,hR (fun _=>s.toks) _ (After.same (s':={s with toks:=s.toks+1}) hneed rfl rfl rfl rfl rfl rfl)⟩
end
end Mine
namespace Mine
open PySem.Sem (wp)
open PySem.SeqAt PySem.Builtin PySem.Builtin.Str
section
variable {prog:Program} {w:World} {kt:Addr→Option Obj} {x:Nat}
noncomputable def fLLen (its:Array Value) (n:Int):Fam:=fam1 fun _ os=>kLLen (adN os 0) ⟨oC os 0,oD os 0,.seq its (epN os 0),oS os 0⟩ n
theorem fLLen_ok {its:Array Value} {n:Int} (hn:n=its.size):(fLLen its n).Ok (model prog w) kt x:=fam1_ok fun _ _=>kLLen_ok _ _ _ _ _ _ _ hn
noncomputable def fGetI (its:Array Value) (k:Int) (v:Value):Fam:=fam1 fun c os=>kGetI (adN os 0) ⟨oC os 0,oD os 0,.seq its (epN os 0),oS os 0⟩ k (argT c 1) v
theorem fGetI_ok {its:Array Value} {k:Int} {v:Value} (i:Nat) (hk:k=i) (hv:its[i]?=some v) (hz:its.size≤sizeLine):(fGetI its k v).Ok (model prog w) kt x:=fam1_ok fun _ _=>kGetI_ok _ _ _ _ _ _ _ _ _ i hk hv hz
noncomputable def fSetI (its:Array Value) (k:Int) (i:Nat):Fam:=fam1 fun c os=>kSetI (adN os 0) ⟨oC os 0,oD os 0,.seq its (epN os 0),oS os 0⟩ ⟨oC os 0,oD os 0,.seq (its.setIfInBounds i (argV c 2)) (epN os 0),oS os 0⟩ k (argT c 1) (argV c 2)
theorem fSetI_ok {its:Array Value} {k:Int} {i:Nat} (hk:k=i) (hi:i<its.size) (hz:its.size≤sizeLine):(fSetI its k i).Ok (model prog w) kt x:=fam1_ok fun _ _=>kSetI_ok _ _ _ _ _ _ _ _ _ i hk hi hz
noncomputable def fSliceL (its:Array Value) (vl vu vs:Nat→Value) (its':List Value):Fam:=fam1 fun c os=>kSliceL (adN os 0) (adN os 1) ⟨oC os 0,oD os 0,.seq its (epN os 0),oS os 0⟩ (vl (tokV (vN os 1 0))) (vu (tokV (vN os 1 1))) (vs (tokV (vN os 1 2))) its'
theorem fSliceL_ok {its:Array Value} {vl vu vs:Nat→Value} {its':List Value} (lo hi st:Option Int) (pl:∀ t,IsPart (vl t) lo) (pu:∀ t,IsPart (vu t) hi) (ps:∀ t,IsPart (vs t) st) (h0:st≠some 0) (hz:its.size≤sizeLine) (e:slicePick its lo hi st=⟨its'⟩):(fSliceL its vl vu vs its').Ok (model prog w) kt x :=
 fam1_ok fun _ _=>kSliceL_ok _ _ _ _ _ _ _ _ _ _ lo hi st its' (pl _) (pu _) (ps _) h0 hz e
noncomputable def fNextS (y:Str) (k:Int) (c:Nat):Fam:=fam1 fun _ os=>kNextS (adN os 0) y (tokV (vN os 0 0)) k (tokV (vN os 0 1)) c
theorem fNextS_ok {y:Str} {k:Int} {c:Nat} (h:y.cps[k.toNat]?=some c):(fNextS y k c).Ok (model prog w) kt x:=fam1_ok fun _ _=>kNextS_ok _ _ _ _ _ _ h
noncomputable def fNextSE (y:Str) (k:Int):Fam:=fam1 fun _ os=>kNextSE (adN os 0) y (tokV (vN os 0 0)) k (tokV (vN os 0 1))
theorem fNextSE_ok {y:Str} {k:Int} (h:y.cps[k.toNat]?=none):(fNextSE y k).Ok (model prog w) kt x:=fam1_ok fun _ _=>kNextSE_ok _ _ _ _ _ h
noncomputable def fNextL (its:Array Value) (k:Int) (v:Value):Fam:=fam1 fun _ os=>kNextL (adN os 0) (adN os 1) ⟨oC os 1,oD os 1,.seq its (epN os 1),oS os 1⟩ k (tokV (vN os 0 1)) v
theorem fNextL_ok {its:Array Value} {k:Int} {v:Value} (h:its[k.toNat]?=some v):(fNextL its k v).Ok (model prog w) kt x:=fam1_ok fun _ _=>kNextL_ok _ _ _ _ _ _ _ _ _ _ h
noncomputable def fNextLE (its:Array Value) (k:Int):Fam:=fam1 fun _ os=>kNextLE (adN os 0) (adN os 1) ⟨oC os 1,oD os 1,.seq its (epN os 1),oS os 1⟩ k (tokV (vN os 0 1))
theorem fNextLE_ok {its:Array Value} {k:Int} (h:its[k.toNat]?=none):(fNextLE its k).Ok (model prog w) kt x:=fam1_ok fun _ _=>kNextLE_ok _ _ _ _ _ _ _ _ _ h
noncomputable def fInL (its:Array Value) (v:Nat→Value) (r:Bool):Fam:=fam1 fun c os=>kInL (adN os 0) ⟨.type "list",oD os 0,.seq its (epN os 0),oS os 0⟩ (v (argT c 1)) r
theorem fInL_ok {its:Array Value} {v:Nat→Value} {r:Bool} (e:Value→Bool) (he:∀ t y,y∈its→MeetsSeq.EqGives y (v t) (e y)) (hr:its.any e=r):(fInL its v r).Ok (model prog w) kt x:=fam1_ok fun _ _=>kInL_ok _ _ _ _ _ _ e (he _) r hr
noncomputable def fRangeI (a b:Int) (n:Nat):Fam:=fam1 fun _ os=>kRangeI (adN os 0) a b (tokV (vN os 0 0)) (tokV (vN os 0 1)) (tokV (vN os 0 2)) n
theorem fRangeI_ok {a b:Int} {n:Nat} (h0:0≤a) (hn:b-a=n∨(b≤a∧n=0)) (hb:b<2 ^ 62) (ha:a<2 ^ 62) (hb0:0≤b):(fRangeI a b n).Ok (model prog w) kt x:=fam1_ok fun _ _=>kRangeI_ok _ _ _ _ _ _ _ h0 hn hb ha hb0
noncomputable def fStrAt (a:Str) (k:Int) (c:Nat):Fam:=fam1 fun d _=>kStrAt a (argT d 0) k (argT d 1) c
theorem fStrAt_ok {a:Str} {k:Int} {c:Nat} (h0:-(2 ^ 62)≤k) (h1:k<2 ^ 62) (h:(seqIndex? k a.length).bind (a.cps[·]?)=some c):(fStrAt a k c).Ok (model prog w) kt x:=fam1_ok fun _ _=>kStrAt_ok _ _ _ _ _ h0 h1 h
noncomputable def fCase (id:String) (a r:Str):Fam:=fam1 fun d _=>kStrCase id a (argT d 0) r
theorem fUp_ok {a r:Str} (h:r=⟨placed a fun _ c=>Unicode.upperOf c⟩) (hl:r.length≤sizeLine):(fCase "str.upper" a r).Ok (model prog w) kt x:=fam1_ok fun _ _=>kStrUp_ok _ _ _ h hl
theorem fLow_ok {a r:Str} (h:r=⟨placed a fun i _=>Unicode.lowerAt a.cps i⟩) (hl:r.length≤sizeLine):(fCase "str.lower" a r).Ok (model prog w) kt x:=fam1_ok fun _ _=>kStrLow_ok _ _ _ h hl
noncomputable def fCount (a b:Str) (n:Int):Fam:=fam1 fun d _=>kCount a (argT d 0) b (argT d 1) n
theorem fCount_ok {a b:Str} {n:Int} (h:n=(occurrences a b 0 a.length (a.length+1)).length):(fCount a b n).Ok (model prog w) kt x:=fam1_ok fun _ _=>kCount_ok _ _ _ _ _ h
noncomputable def parT (p:Option Int) (t:Tok):Option (Int×Tok):=p.map fun i=>(i,t)
noncomputable def fStrCut (a:Str) (l u v:Option Int) (r:Str):Fam:=fam1 fun c os=>kStrCut a (argT c 0) (adN os 0) (parT l (tokV (vN os 0 0))) (parT u (tokV (vN os 0 1))) (parT v (tokV (vN os 0 2))) r
end
end Mine
namespace Mine
open PySem.Sem (wp)
open PySem.SeqAt PySem.Builtin PySem.Builtin.Str
section
variable {prog:Program} {w:World} {kt:Addr→Option Obj} {x:Nat}
theorem int_add_ok {a b r:Int} (h:a+b=r):(fIIi "int.__add__" a b r).Ok (model prog w) kt x:=by subst h; exact fIIi_ok (by decide +kernel) F.entry_int_add (fun t u=>AutoIntG4.int___add___int_int_0 a t b u)
theorem int_sub_ok {a b r:Int} (h:a-b=r):(fIIi "int.__sub__" a b r).Ok (model prog w) kt x:=by subst h; exact fIIi_ok (by decide +kernel) F.entry_int_sub (fun t u=>AutoIntG9.int___sub___int_int_0 a t b u)
theorem int_ge_ok {a b:Int} {r:Bool} (h:decide (a≥b)=r):(fII "int.__ge__" a b r).Ok (model prog w) kt x:=fII_ok (by decide +kernel) F.entry_int_ge (fun t u=>AutoIntG9.int___ge___int_int_0 a t b u) h
theorem int_mul_ok {a b r:Int} (ha:-1000≤a∧a≤1000) (hb:-1000≤b∧b≤1000) (h:a*b=r):(fIIi "int.__mul__" a b r).Ok (model prog w) kt x:=by
 subst h
 exact fIIi_ok (by decide +kernel) F.entry_int_mul (fun t u=>AutoIntG1.int___mul___int_int_0 a t b u (by mul_fits))
noncomputable def rgIt (k n:Int) (s:Int:=1):Obj:={cls:=.type "range_iterator",data:=.fields ⟨[.int k 0,.int n 0,.int s 0]⟩}
theorem After.two {C:Con} {s:Shared} {xs:Nat→Nat} {it:Addr} {o o1 o2:Obj} {f g:Obj→Obj} {tk:Nat} (hn:C.need=[(it,o)]) (hl:s.heap.get? it=some o) (hf:f o=o1) (hg:g o1=o2) (f1:o1.isFreed=false) (f2:o2.isFreed=false) (hgv:C.give xs=[o2]) (hw:C.new xs=[]) :
  After C s xs {s with heap:=(s.heap.update it f).update it g,toks:=tk}:=by
 have hs:Heap.SameBut it s.heap ((s.heap.update it f).update it g):=(Heap.SameBut.update ..).trans (Heap.SameBut.update ..)
 have e1:(s.heap.update it f).get? it=some o1:=by
  subst hf
  first | exact Heap.get?_update_self f hl f1 | exact Heap.get?_update_self _ hl f1
 have e2:((s.heap.update it f).update it g).get? it=some o2:=by
  subst hg
  first | exact Heap.get?_update_self g e1 f2 | exact Heap.get?_update_self _ e1 f2
 constructor
 ·intro b x e m
  exact (hs.2 b (fun q=>m (by rw [hn,q]; simp))).trans e
 ·rw [hgv,hn]; rfl
 ·intro q hq
  rw [hgv,hn] at hq
  have:=List.mem_singleton.mp hq
  subst this
  exact e2
 ·intro q hq; rw [hw] at hq; cases hq
 ·rw [hw]; exact List.nodup_nil
 ·exact .refl _
 ·rfl
 ·rfl
 ·show s.heap.objs.size≤((s.heap.update it f).update it g).objs.size
  rw [hs.1]; exact Nat.le_refl _
noncomputable def kNextR (it:Addr) (k n s:Int):Con :=
 ⟨.builtin "range_iterator.__next__" ⟨[.ref it],[]⟩,[(it,rgIt k n s)],fun _=>[rgIt (k+s) (n-1) s],fun _=>[],fun xs=>.ok (.ret (.int k (xs 0)))⟩
theorem kNextR_ok (it:Addr) (k n s:Int) (h:0<n):(kNextR it k n s).Ok (model prog w) kt x:=by
 refine Con.of_any fun A st R _ _ _ _ _ hneed _ _ hR=>?_
 have hl:st.heap.get? it=some {cls:=.type "range_iterator",dict:=none,data:=.fields #[rawInt k,rawInt n,rawInt s],slots:=#[]}:=hneed (it,_) (.head _)
 refine codeAny_builtin F.entry_range_iterator_next ?_
 rw [Around.under_plainId (by decide +kernel)]
 refine AutoRange.range_iterator___next___range_iterator_1 it k n s (by omega) prog w A R st ⟨hl,?_⟩
 exact hR (fun _=>st.toks) _ (After.two (tk:=st.toks+1) (o:=rgIt k n s) (o1:=rgIt (k+s) n s) (f:=Obj.mapFields fun x=>x.setIfInBounds 0 (rawInt (k+s))) (g:=Obj.mapFields fun x=>x.setIfInBounds 1 (rawInt (n-1))) rfl hl rfl rfl rfl rfl rfl rfl)
noncomputable def fNextR (k n s:Int):Fam:=fam1 fun _ os=>kNextR (adN os 0) k n s
theorem fNextR_ok {k n s:Int} (h:0<n):(fNextR k n s).Ok (model prog w) kt x:=fam1_ok fun _ _=>kNextR_ok _ _ _ _ h
theorem After.stop0 {C:Con} {s:Shared} {xs:Nat→Nat} {tk:Nat} (hneed:∀ q∈C.need,s.heap.get? q.1=some q.2) (hg:C.give xs=C.need.map (·.2)) (hw:C.new xs=stopNew xs)
  (h0:xs 0=s.heap.objs.size) (h1:xs 1=(s.heap.push {cls:=.type "tuple",data:=.seq ⟨[]⟩ 0}).objs.size) :
  After C s xs {s with heap:=(s.heap.push {cls:=.type "tuple",data:=.seq ⟨[]⟩ 0}).push {cls:=.type "StopIteration",data:=.fields ⟨[.ref (xs 0),.none,.none,.none,.bool false,.none]⟩},toks:=tk}:=by
 have p1:∀ (H:Heap) (o:Obj),(H.push o).objs.size=H.objs.size+1:=fun H o=>by simp
 have keep:∀ b x,s.heap.get? b=some x→((s.heap.push {cls:=.type "tuple",data:=.seq ⟨[]⟩ 0}).push {cls:=.type "StopIteration",data:=.fields ⟨[.ref (xs 0),.none,.none,.none,.bool false,.none]⟩}).get? b=some x:=fun b x e =>
  Heap.get?_push_of_some _ (Heap.get?_push_of_some _ e)
 constructor
 ·intro b x e m
  exact keep b x e
 ·rw [hg,List.length_map]
 ·intro q hq
  rw [hg] at hq
  exact keep q.1 q.2 (hneed q (mem_zip_map hq))
 ·intro q hq
  rw [hw] at hq
  rcases List.mem_cons.mp hq with rfl | hq
  ·refine ⟨?_,?_⟩
   ·show Heap.get? _ (xs 1)=_
    rw [h1]; exact Heap.get?_push_size _ rfl
   ·show _≤xs 1
    rw [h1,p1]; exact Nat.le_succ _
  ·have:=List.mem_singleton.mp hq
   subst this
   refine ⟨?_,?_⟩
   ·show Heap.get? _ (xs 0)=_
    rw [h0]; exact Heap.get?_push_of_some _ (Heap.get?_push_size _ rfl)
   ·show _≤xs 0
    rw [h0]; exact Nat.le_refl _
 ·rw [hw]
  show [xs 1,xs 0].Nodup
  rw [h0,h1,p1]; simp
 ·exact .refl _
 ·rfl
 ·rfl
 ·show s.heap.objs.size≤(Heap.push _ _).objs.size
  rw [p1,p1]; omega
noncomputable def kNextRE (it:Addr) (k n s:Int):Con :=
 ⟨.builtin "range_iterator.__next__" ⟨[.ref it],[]⟩,[(it,rgIt k n s)],fun _=>[rgIt k n s],stopNew,fun xs=>.error (.ref (xs 1))⟩
theorem kNextRE_ok (it:Addr) (k n s:Int) (h:n≤0):(kNextRE it k n s).Ok (model prog w) kt x:=by
 refine Con.of_any fun A st R hh _ _ _ _ hneed _ _ hR=>?_
 have hl:st.heap.get? it=some {cls:=.type "range_iterator",dict:=none,data:=.fields #[.int k 0,.int n 0,.int s 0],slots:=#[]}:=hneed (it,_) (.head _)
 refine codeAny_builtin F.entry_range_iterator_next ?_
 rw [Around.under_plainId (by decide +kernel)]
 unfold Builtin.«range_iterator.__next__»
 have fin:=hR (fun j=>match j with | 0=>st.heap.objs.size | _=>(st.heap.push {cls:=.type "tuple",data:=.seq ⟨[]⟩ 0}).objs.size) _ (After.stop0 (tk:=st.toks) hneed rfl rfl rfl rfl)
 obtain ⟨hp,g,dd,tk,os⟩:=st
 wp_walk
 refine wpAny_raiseNew_none hh ?_
 exact fin
noncomputable def fNextRE (k n s:Int):Fam:=fam1 fun _ os=>kNextRE (adN os 0) k n s
theorem fNextRE_ok {k n s:Int} (h:n≤0):(fNextRE k n s).Ok (model prog w) kt x:=fam1_ok fun _ _=>kNextRE_ok _ _ _ _ h
end
end Mine
namespace Mine
noncomputable abbrev P2:Program:=PySem.Challenge.pw_rl0053_02
noncomputable def sDef:Stmt→Arguments×List Stmt×Scope
 | .FunctionDef _ a b _ _ _ s _ _ _=>(a,b,s)
 | _=>default
noncomputable def sCls:Stmt→List Stmt
 | .ClassDef _ _ _ b _ _ _ _ _ _ _=>b
 | _=>[]
noncomputable def nthS:List Stmt→Nat→Stmt
 | [],_=>.Pass ⟨0,0,0,0⟩
 | s::l,n=>match n with
  | 0=>s
  | n+1=>nthS l n
noncomputable def tS (n:Nat):Stmt:=nthS P2.main.body n
noncomputable def tM (n k:Nat):Stmt:=nthS (sCls (tS n)) k
noncomputable abbrev qS (s:String):Str:=.ofString s
noncomputable def fdO (name qual:String) (s:Stmt) (g:Addr) (cl:List (Str×Addr)) (d m c ct:Value):Data:=.func ⟨qS name,qS qual,(sDef s).1,.stmts (sDef s).2.1,(sDef s).2.2,g,cl,d,.none,.none,m,.none,c,ct,0⟩
noncomputable def gO (name qual:String) (s:Stmt):Obj:=⟨.none,.none,fdO name qual s 0 [] .none .none .none .none,⟨[]⟩⟩
noncomputable def hO (name qual:String) (s:Stmt) (cl:List (Str×Addr)) (d:Value) (m:String) (t:Nat) (c:Addr) (ct:Value):Obj:=⟨.type "function",.none,fdO name qual s 3 cl d (.str (qS m) t) (.ref c) ct,⟨[]⟩⟩
noncomputable def tO (l:List Value):Obj:=⟨.type "tuple",.none,.seq ⟨l⟩ 0,⟨[]⟩⟩
noncomputable def nO:Obj:=⟨.none,.none,.fields ⟨[]⟩,⟨[]⟩⟩
noncomputable def cO (name qual:String) (t:Nat) (ln n a b:Int) (v1 v2 v3 v4 v5 v6:Value) (k l:Int) (w:Nat):Obj :=
 ⟨.type "code",.none,.fields ⟨[.str (qS name) t,.str (qS qual) (t+1),.str (qS "/claim/cut.py") (t+2),.int ln 0,.int n 0,.int a 0,.int b 0,.int 3 0,v1,.bool .true,.int 181 0,v2,v3,v4,v5,v6,.int k 0,.int l 0,.str (qS "/claim/cut.py") w]⟩,⟨[]⟩⟩
noncomputable def eD (P:Params) (n:String) (t:Nat) (v:Value):DictEntry:=⟨PyData.keyHash P (qS n),.str (qS n) t,v⟩
noncomputable def bD (P:Params) (n:String) (t:Nat):DictEntry:=eD P n t (.builtin n)
noncomputable def K2:Params→Frag:=fun P =>
 [(0,⟨.type "dict",.none,.dict ⟨[eD P "__name__" 1 (.str (qS "builtins") 160),eD P "__doc__" 2 (.builtin "builtins.__doc__:str#opaque"),eD P "__package__" 3 (.builtin "builtins.__package__:str#opaque"),eD P "__loader__" 4 (.builtin "builtins.__loader__:shared#opaque"),eD P "__spec__" 5 (.builtin "builtins.__spec__#opaque"),bD P "__build_class__" 6,bD P "__import__" 7,bD P "abs" 8,bD P "all" 9,bD P "any" 10,bD P "ascii" 11,bD P "bin" 12,bD P "breakpoint" 13,bD P "callable" 14,bD P "chr" 15,bD P "compile" 16,bD P "delattr" 17,bD P "dir" 18,bD P "divmod" 19,bD P "eval" 20,bD P "exec" 21,bD P "format" 22,bD P "getattr" 23,bD P "globals" 24,bD P "hasattr" 25,bD P "hash" 26,bD P "hex" 27,bD P "id" 28,bD P "input" 29,bD P "isinstance" 30,bD P "issubclass" 31,bD P "iter" 32,bD P "aiter" 33,bD P "len" 34,bD P "locals" 35,bD P "max" 36,bD P "min" 37,bD P "next" 38,bD P "anext" 39,bD P "oct" 40,bD P "ord" 41,bD P "pow" 42,bD P "print" 43,bD P "repr" 44,bD P "round" 45,bD P "setattr" 46,bD P "sorted" 47,bD P "sum" 48,bD P "vars" 49,eD P "None" 50 .none,eD P "Ellipsis" 51 .ellipsis,eD P "NotImplemented" 52 .notImplemented,eD P "False" 53 (.bool .false),eD P "True" 54 (.bool .true),eD P "bool" 55 (.type "bool"),eD P "memoryview" 56 (.type "memoryview"),eD P "bytearray" 57 (.type "bytearray"),eD P "bytes" 58 (.type "bytes"),eD P "classmethod" 59 (.type "classmethod"),eD P "complex" 60 (.type "complex"),eD P "dict" 61 (.type "dict"),eD P "enumerate" 62 (.type "enumerate"),eD P "filter" 63 (.type "filter"),eD P "float" 64 (.type "float"),eD P "frozenset" 65 (.type "frozenset"),eD P "property" 66 (.type "property"),eD P "int" 67 (.type "int"),eD P "list" 68 (.type "list"),eD P "map" 69 (.type "map"),eD P "object" 70 (.type "object"),eD P "range" 71 (.type "range"),eD P "reversed" 72 (.type "reversed"),eD P "set" 73 (.type "set"),eD P "slice" 74 (.type "slice"),eD P "staticmethod" 75 (.type "staticmethod"),eD P "str" 76 (.type "str"),eD P "super" 77 (.type "super"),eD P "tuple" 78 (.type "tuple"),eD P "type" 79 (.type "type"),eD P "zip" 80 (.type "zip"),eD P "__debug__" 81 (.bool .true),eD P "BaseException" 82 (.type "BaseException"),eD P "BaseExceptionGroup" 83 (.type "BaseExceptionGroup"),eD P "Exception" 84 (.type "Exception"),eD P "GeneratorExit" 85 (.type "GeneratorExit"),eD P "KeyboardInterrupt" 86 (.type "KeyboardInterrupt"),eD P "SystemExit" 87 (.type "SystemExit"),eD P "ArithmeticError" 88 (.type "ArithmeticError"),eD P "AssertionError" 89 (.type "AssertionError"),eD P "AttributeError" 90 (.type "AttributeError"),eD P "BufferError" 91 (.type "BufferError"),eD P "EOFError" 92 (.type "EOFError"),eD P "ImportError" 93 (.type "ImportError"),eD P "LookupError" 94 (.type "LookupError"),eD P "MemoryError" 95 (.type "MemoryError"),eD P "NameError" 96 (.type "NameError"),eD P "OSError" 97 (.type "OSError"),eD P "ReferenceError" 98 (.type "ReferenceError"),eD P "RuntimeError" 99 (.type "RuntimeError"),eD P "StopAsyncIteration" 100 (.type "StopAsyncIteration"),eD P "StopIteration" 101 (.type "StopIteration"),eD P "SyntaxError" 102 (.type "SyntaxError"),eD P "SystemError" 103 (.type "SystemError"),eD P "TypeError" 104 (.type "TypeError"),eD P "ValueError" 105 (.type "ValueError"),eD P "Warning" 106 (.type "Warning"),eD P "FloatingPointError" 107 (.type "FloatingPointError"),eD P "OverflowError" 108 (.type "OverflowError"),eD P "ZeroDivisionError" 109 (.type "ZeroDivisionError"),eD P "BytesWarning" 110 (.type "BytesWarning"),eD P "DeprecationWarning" 111 (.type "DeprecationWarning"),eD P "EncodingWarning" 112 (.type "EncodingWarning"),eD P "FutureWarning" 113 (.type "FutureWarning"),eD P "ImportWarning" 114 (.type "ImportWarning"),eD P "PendingDeprecationWarning" 115 (.type "PendingDeprecationWarning"),eD P "ResourceWarning" 116 (.type "ResourceWarning"),eD P "RuntimeWarning" 117 (.type "RuntimeWarning"),eD P "SyntaxWarning" 118 (.type "SyntaxWarning"),eD P "UnicodeWarning" 119 (.type "UnicodeWarning"),eD P "UserWarning" 120 (.type "UserWarning"),eD P "BlockingIOError" 121 (.type "BlockingIOError"),eD P "ChildProcessError" 122 (.type "ChildProcessError"),eD P "ConnectionError" 123 (.type "ConnectionError"),eD P "FileExistsError" 124 (.type "FileExistsError"),eD P "FileNotFoundError" 125 (.type "FileNotFoundError"),eD P "InterruptedError" 126 (.type "InterruptedError"),eD P "IsADirectoryError" 127 (.type "IsADirectoryError"),eD P "NotADirectoryError" 128 (.type "NotADirectoryError"),eD P "PermissionError" 129 (.type "PermissionError"),eD P "ProcessLookupError" 130 (.type "ProcessLookupError"),eD P "TimeoutError" 131 (.type "TimeoutError"),eD P "IndentationError" 132 (.type "IndentationError"),eD P "_IncompleteInputError" 133 (.type "_IncompleteInputError"),eD P "IndexError" 134 (.type "IndexError"),eD P "KeyError" 135 (.type "KeyError"),eD P "ModuleNotFoundError" 136 (.type "ModuleNotFoundError"),eD P "NotImplementedError" 137 (.type "NotImplementedError"),eD P "PythonFinalizationError" 138 (.type "PythonFinalizationError"),eD P "RecursionError" 139 (.type "RecursionError"),eD P "UnboundLocalError" 140 (.type "UnboundLocalError"),eD P "UnicodeError" 141 (.type "UnicodeError"),eD P "BrokenPipeError" 142 (.type "BrokenPipeError"),eD P "ConnectionAbortedError" 143 (.type "ConnectionAbortedError"),eD P "ConnectionRefusedError" 144 (.type "ConnectionRefusedError"),eD P "ConnectionResetError" 145 (.type "ConnectionResetError"),eD P "TabError" 146 (.type "TabError"),eD P "UnicodeDecodeError" 147 (.type "UnicodeDecodeError"),eD P "UnicodeEncodeError" 148 (.type "UnicodeEncodeError"),eD P "UnicodeTranslateError" 149 (.type "UnicodeTranslateError"),eD P "ExceptionGroup" 150 (.type "ExceptionGroup"),eD P "EnvironmentError" 151 (.type "OSError"),eD P "IOError" 152 (.type "OSError"),bD P "open" 153,eD P "quit" 154 (.builtin "builtins.quit#opaque"),eD P "exit" 155 (.builtin "builtins.exit#opaque"),eD P "copyright" 156 (.builtin "builtins.copyright#opaque"),eD P "credits" 157 (.builtin "builtins.credits#opaque"),eD P "license" 158 (.builtin "builtins.license#opaque"),eD P "help" 159 (.builtin "builtins.help#opaque")]⟩ 159,⟨[]⟩⟩),
  (1,⟨.type "dict",.none,.dict ⟨[eD P "builtins" 162 (.ref 4),eD P "__main__" 163 (.ref 5)]⟩ 2,⟨[]⟩⟩),
  (2,⟨.none,.none,.dict ⟨[]⟩ 0,⟨[]⟩⟩),
  (3,⟨.type "dict",.none,.dict ⟨[eD P "__name__" 165 (.str (qS "law_rl0053_02") 389),eD P "__doc__" 166 .none,eD P "__package__" 167 .none,eD P "__loader__" 168 (.builtin "__main__.__loader__#opaque"),eD P "__spec__" 169 .none,eD P "__annotations__" 170 (.ref 6),eD P "__builtins__" 171 (.ref 4),eD P "__file__" 173 (.str (qS "/claim/cut.py") 172),eD P "__cached__" 174 .none,eD P "_wall" 193 (.ref 21),eD P "_MAX_STRING_SIZE" 197 (.int 40 196),eD P "_MOVE_COST" 199 (.int 2 198),eD P "_CASE_COST" 201 (.int 1 200),eD P "_substitution_cost" 209 (.ref 28),eD P "_levenshtein_distance" 229 (.ref 35),eD P "EMPTYSTRING" 233 (.str (qS "") 232),eD P "_Accumulator" 328 (.ref 115),eD P "_netrclex" 388 (.ref 157),eD P "_law_numbers" 400 (.ref 168),eD P "_law_house" 408 (.ref 175),eD P "_law_written" 414 (.ref 180),eD P "_law_lexer" 420 (.ref 185),eD P "_law_walk" 434 (.ref 192),eD P "_law_seen" 440 (.ref 197),eD P "_law_other_size" 446 (.ref 202),eD P "_law_told_by_the_least" 452 (.ref 207),eD P "law" 458 (.ref 212)]⟩ 27,⟨[]⟩⟩),
  (4,⟨.type "module",.some 0,.plain,⟨[]⟩⟩),
  (5,⟨.type "module",.some 3,.plain,⟨[]⟩⟩),
  (6,⟨.type "dict",.none,.dict ⟨[]⟩ 0,⟨[]⟩⟩),
  (7,tO []),
  (8,nO),
  (9,⟨.type "code",.none,.fields ⟨[.str (qS "<module>") 176,.str (qS "<module>") 177,.str (qS "/claim/cut.py") 178,.int 1 0,.int 0 0,.int 0 0,.int 0 0,.int 0 0,.ref 7,.bool .false,.int 175 0,.ref 8,.none,.none,.none,.none,.int 179 0,.int 1 0,.str (qS "/claim/cut.py") 180]⟩,⟨[]⟩⟩),
  (10,⟨.type "frame",.none,.plain,⟨[.some (.ref 9),.some (.ref 3),.some (.ref 3),.none,.some (.str (qS "__main__") 164),.none,.some (.ref 0)]⟩⟩),
  (11,tO []),
  (12,⟨.none,.none,.fields ⟨[.int 1 0,.int 0 0,.ref 20,.int 8 0,.int 0 0,.ref 27,.int 14 0,.int 0 0,.ref 34,.int 54 0,.int 0 0,.ref 42,.int 86 0,.int 0 0,.ref 125,.int 130 0,.int 0 0,.ref 167,.int 135 0,.int 0 0,.ref 174,.int 139 0,.int 0 0,.ref 179,.int 147 0,.int 0 0,.ref 184,.int 152 0,.int 0 0,.ref 191,.int 166 0,.int 0 0,.ref 196,.int 168 0,.int 0 0,.ref 201,.int 170 0,.int 0 0,.ref 206,.int 183 0,.int 0 0,.ref 211]⟩,⟨[]⟩⟩),
  (13,⟨.type "code",.none,.fields ⟨[.str (qS "<module>") 182,.str (qS "<module>") 183,.str (qS "/claim/cut.py") 184,.int 1 0,.int 0 0,.int 0 0,.int 0 0,.int 0 0,.ref 11,.bool .false,.int 181 0,.ref 12,.none,.none,.none,.none,.int 185 0,.int 1 0,.str (qS "/claim/cut.py") 186]⟩,⟨[]⟩⟩),
  (14,⟨.type "frame",.none,.plain,⟨[.some (.ref 13),.some (.ref 3),.some (.ref 3),.none,.some (.str (qS "__main__") 164),.none,.some (.ref 0)]⟩⟩),
  (15,tO []),
  (16,nO),
  (17,tO [.str (qS "k") 190]),
  (18,tO []),
  (19,gO "_wall" "_wall" (tS 0)),
  (20,cO "_wall" "_wall" 187 1 1 0 0 (.ref 15) (.ref 16) .none (.ref 17) (.ref 18) (.ref 19) 191 1 192),
  (21,hO "_wall" "_wall" (tS 0) [] .none "__main__" 164 20 .none),
  (22,tO []),
  (23,nO),
  (24,tO [.str (qS "ch_a") 205,.str (qS "ch_b") 206]),
  (25,tO []),
  (26,gO "_substitution_cost" "_substitution_cost" (tS 5)),
  (27,cO "_substitution_cost" "_substitution_cost" 202 8 2 0 0 (.ref 22) (.ref 23) .none (.ref 24) (.ref 25) (.ref 26) 207 8 208),
  (28,hO "_substitution_cost" "_substitution_cost" (tS 5) [] .none "cpy313.traceback" 194 27 .none),
  (29,tO []),
  (30,nO),
  (31,tO [.str (qS "a") 213,.str (qS "b") 214,.str (qS "max_cost") 215,.str (qS "pre") 216,.str (qS "post") 217,.str (qS "row") 218,.str (qS "result") 219,.str (qS "bindex") 220,.str (qS "bchar") 221,.str (qS "distance") 222,.str (qS "minimum") 223,.str (qS "index") 224,.str (qS "substitute") 225,.str (qS "insert_delete") 226]),
  (32,tO []),
  (33,gO "_levenshtein_distance" "_levenshtein_distance" (tS 6)),
  (34,cO "_levenshtein_distance" "_levenshtein_distance" 210 14 3 0 0 (.ref 29) (.ref 30) .none (.ref 31) (.ref 32) (.ref 33) 227 14 228),
  (35,hO "_levenshtein_distance" "_levenshtein_distance" (tS 6) [] .none "cpy313.traceback" 194 34 .none),
  (36,tO [.type "list"]),
  (39,⟨.type "cell",.none,.cell (.some (.ref 115)),⟨[]⟩⟩),
  (44,tO [.int 0 246]),
  (45,tO [.ref 39]),
  (46,tO [.str (qS "__class__") 250]),
  (47,nO),
  (48,tO [.str (qS "self") 251,.str (qS "initial_size") 252]),
  (49,tO []),
  (50,gO "__init__" "_Accumulator.__init__" (tM 9 0)),
  (51,cO "__init__" "_Accumulator.__init__" 247 56 2 0 0 (.ref 46) (.ref 47) .none (.ref 48) (.ref 49) (.ref 50) 253 56 254),
  (52,hO "__init__" "_Accumulator.__init__" (tM 9 0) [(qS "__class__",39)] (.ref 44) "cpy313.email.header" 230 51 (.ref 45)),
  (53,tO []),
  (54,nO),
  (55,tO [.str (qS "self") 259,.str (qS "fws") 260,.str (qS "string") 261]),
  (56,tO []),
  (57,gO "push" "_Accumulator.push" (tM 9 1)),
  (58,cO "push" "_Accumulator.push" 256 60 3 0 0 (.ref 53) (.ref 54) .none (.ref 55) (.ref 56) (.ref 57) 262 60 263),
  (59,hO "push" "_Accumulator.push" (tM 9 1) [] .none "cpy313.email.header" 230 58 .none),
  (60,tO [.int 0 265]),
  (61,tO []),
  (62,nO),
  (63,tO [.str (qS "self") 269,.str (qS "i") 270]),
  (64,tO []),
  (65,gO "pop_from" "_Accumulator.pop_from" (tM 9 2)),
  (66,cO "pop_from" "_Accumulator.pop_from" 266 63 2 0 0 (.ref 61) (.ref 62) .none (.ref 63) (.ref 64) (.ref 65) 271 63 272),
  (67,hO "pop_from" "_Accumulator.pop_from" (tM 9 2) [] (.ref 60) "cpy313.email.header" 230 66 .none),
  (68,tO [.ref 39]),
  (69,tO [.str (qS "__class__") 277]),
  (70,nO),
  (71,tO [.str (qS "self") 278]),
  (72,tO []),
  (73,gO "pop" "_Accumulator.pop" (tM 9 3)),
  (74,cO "pop" "_Accumulator.pop" 274 66 1 0 0 (.ref 69) (.ref 70) .none (.ref 71) (.ref 72) (.ref 73) 279 66 280),
  (75,hO "pop" "_Accumulator.pop" (tM 9 3) [(qS "__class__",39)] .none "cpy313.email.header" 230 74 (.ref 68)),
  (76,tO []),
  (77,nO),
  (78,tO [.str (qS "self") 285]),
  (79,tO []),
  (80,gO "__len__" "_Accumulator.__len__" (tM 9 4)),
  (81,cO "__len__" "_Accumulator.__len__" 282 71 1 0 0 (.ref 76) (.ref 77) .none (.ref 78) (.ref 79) (.ref 80) 286 71 287),
  (82,hO "__len__" "_Accumulator.__len__" (tM 9 4) [] .none "cpy313.email.header" 230 81 .none),
  (83,tO []),
  (84,nO),
  (85,tO [.str (qS "self") 292]),
  (86,tO []),
  (87,gO "__str__" "_Accumulator.__str__" (tM 9 5)),
  (88,cO "__str__" "_Accumulator.__str__" 289 74 1 0 0 (.ref 83) (.ref 84) .none (.ref 85) (.ref 86) (.ref 87) 293 74 294),
  (89,hO "__str__" "_Accumulator.__str__" (tM 9 5) [] .none "cpy313.email.header" 230 88 .none),
  (90,tO [.none]),
  (91,tO []),
  (92,nO),
  (93,tO [.str (qS "self") 299,.str (qS "startval") 300]),
  (94,tO []),
  (95,gO "reset" "_Accumulator.reset" (tM 9 6)),
  (96,cO "reset" "_Accumulator.reset" 296 77 2 0 0 (.ref 91) (.ref 92) .none (.ref 93) (.ref 94) (.ref 95) 301 77 302),
  (97,hO "reset" "_Accumulator.reset" (tM 9 6) [] (.ref 90) "cpy313.email.header" 230 96 .none),
  (98,tO []),
  (99,nO),
  (100,tO [.str (qS "self") 307]),
  (101,tO []),
  (102,gO "is_onlyws" "_Accumulator.is_onlyws" (tM 9 7)),
  (103,cO "is_onlyws" "_Accumulator.is_onlyws" 304 80 1 0 0 (.ref 98) (.ref 99) .none (.ref 100) (.ref 101) (.ref 102) 308 80 309),
  (104,hO "is_onlyws" "_Accumulator.is_onlyws" (tM 9 7) [] .none "cpy313.email.header" 230 103 .none),
  (105,tO [.ref 39]),
  (106,tO [.str (qS "__class__") 314]),
  (107,nO),
  (108,tO [.str (qS "self") 315]),
  (109,tO []),
  (110,gO "part_count" "_Accumulator.part_count" (tM 9 8)),
  (111,cO "part_count" "_Accumulator.part_count" 311 83 1 0 0 (.ref 106) (.ref 107) .none (.ref 108) (.ref 109) (.ref 110) 316 83 317),
  (112,hO "part_count" "_Accumulator.part_count" (tM 9 8) [(qS "__class__",39)] .none "cpy313.email.header" 230 111 (.ref 105)),
  (113,tO [.str (qS "_initial_size") 319]),
  (114,⟨.type "dict",.none,.dict ⟨[eD P "__module__" 241 (.str (qS "cpy313.email.header") 230),eD P "__firstlineno__" 245 (.int 54 244),eD P "__init__" 255 (.ref 52),eD P "push" 264 (.ref 59),eD P "pop_from" 273 (.ref 67),eD P "pop" 281 (.ref 75),eD P "__len__" 288 (.ref 82),eD P "__str__" 295 (.ref 89),eD P "reset" 303 (.ref 97),eD P "is_onlyws" 310 (.ref 104),eD P "part_count" 318 (.ref 112),eD P "__static_attributes__" 320 (.ref 113),eD P "__dict__" 323 (.ref 116),eD P "__weakref__" 325 (.ref 117),eD P "__doc__" 326 .none]⟩ 5,⟨[]⟩⟩),
  (115,⟨.type "type",.none,.cls ⟨qS "_Accumulator",[.type "list"],[.ref 115,.type "list",.type "object"],114,qS "_Accumulator",.true,[],[],.false,.none,.false⟩,⟨[.some (.ref 36),.none,.some (.str (qS "_Accumulator") 234),.some (.str (qS "_Accumulator") 242),.some (.builtin "list.__new__"),.some (.bool .true)]⟩⟩),
  (116,⟨.type "getset_descriptor",.none,.fields ⟨[.str (qS "__dict__") 322,.ref 115,.builtin "function.__dict__",.builtin "function.__dict__#set"]⟩,⟨[]⟩⟩),
  (117,⟨.type "getset_descriptor",.none,.fields ⟨[.str (qS "__weakref__") 324,.ref 115,.builtin "ExceptionGroup.__weakref__",.none]⟩,⟨[]⟩⟩),
  (127,tO []),
  (128,nO),
  (129,tO [.str (qS "self") 346,.str (qS "fp") 347]),
  (130,tO []),
  (131,gO "__init__" "_netrclex.__init__" (tM 11 0)),
  (132,cO "__init__" "_netrclex.__init__" 343 88 2 0 0 (.ref 127) (.ref 128) .none (.ref 129) (.ref 130) (.ref 131) 348 88 349),
  (133,hO "__init__" "_netrclex.__init__" (tM 11 0) [] .none "cpy313.netrc" 329 132 .none),
  (134,tO []),
  (135,nO),
  (136,tO [.str (qS "self") 354,.str (qS "ch") 355]),
  (137,tO []),
  (138,gO "_read_char" "_netrclex._read_char" (tM 11 1)),
  (139,cO "_read_char" "_netrclex._read_char" 351 94 1 0 0 (.ref 134) (.ref 135) .none (.ref 136) (.ref 137) (.ref 138) 356 94 357),
  (140,hO "_read_char" "_netrclex._read_char" (tM 11 1) [] .none "cpy313.netrc" 329 139 .none),
  (141,tO []),
  (142,nO),
  (143,tO [.str (qS "self") 362,.str (qS "token") 363,.str (qS "fiter") 364,.str (qS "ch") 365]),
  (144,tO []),
  (145,gO "get_token" "_netrclex.get_token" (tM 11 2)),
  (146,cO "get_token" "_netrclex.get_token" 359 100 1 0 0 (.ref 141) (.ref 142) .none (.ref 143) (.ref 144) (.ref 145) 366 100 367),
  (147,hO "get_token" "_netrclex.get_token" (tM 11 2) [] .none "cpy313.netrc" 329 146 .none),
  (148,tO []),
  (149,nO),
  (150,tO [.str (qS "self") 372,.str (qS "token") 373]),
  (151,tO []),
  (152,gO "push_token" "_netrclex.push_token" (tM 11 3)),
  (153,cO "push_token" "_netrclex.push_token" 369 127 2 0 0 (.ref 148) (.ref 149) .none (.ref 150) (.ref 151) (.ref 152) 374 127 375),
  (154,hO "push_token" "_netrclex.push_token" (tM 11 3) [] .none "cpy313.netrc" 329 153 .none),
  (155,tO [.str (qS "instream") 377,.str (qS "lineno") 378,.str (qS "pushback") 379,.str (qS "whitespace") 380]),
  (156,⟨.type "dict",.none,.dict ⟨[eD P "__module__" 338 (.str (qS "cpy313.netrc") 329),eD P "__firstlineno__" 342 (.int 86 341),eD P "__init__" 350 (.ref 133),eD P "_read_char" 358 (.ref 140),eD P "get_token" 368 (.ref 147),eD P "push_token" 376 (.ref 154),eD P "__static_attributes__" 381 (.ref 155),eD P "__dict__" 383 (.ref 158),eD P "__weakref__" 385 (.ref 159),eD P "__doc__" 386 .none]⟩ 4,⟨[]⟩⟩),
  (157,⟨.type "type",.none,.cls ⟨qS "_netrclex",[.type "object"],[.ref 157,.type "object"],156,qS "_netrclex",.true,[],[],.false,.none,.false⟩,⟨[.none,.none,.some (.str (qS "_netrclex") 331),.some (.str (qS "_netrclex") 339),.some (.builtin "object.__new__"),.some (.bool .true)]⟩⟩),
  (158,⟨.type "getset_descriptor",.none,.fields ⟨[.str (qS "__dict__") 382,.ref 157,.builtin "function.__dict__",.builtin "function.__dict__#set"]⟩,⟨[]⟩⟩),
  (159,⟨.type "getset_descriptor",.none,.fields ⟨[.str (qS "__weakref__") 384,.ref 157,.builtin "ExceptionGroup.__weakref__",.none]⟩,⟨[]⟩⟩),
  (162,tO []),
  (163,nO),
  (164,tO [.str (qS "script") 394,.str (qS "numbers") 395,.str (qS "place") 396,.str (qS "number") 397]),
  (165,tO []),
  (166,gO "_law_numbers" "_law_numbers" (tS 13)),
  (167,cO "_law_numbers" "_law_numbers" 391 130 1 0 0 (.ref 162) (.ref 163) .none (.ref 164) (.ref 165) (.ref 166) 398 130 399),
  (168,hO "_law_numbers" "_law_numbers" (tS 13) [] .none "law_rl0053_02" 389 167 .none),
  (169,tO []),
  (170,nO),
  (171,tO [.str (qS "letter") 404,.str (qS "n") 405]),
  (172,tO []),
  (173,gO "_law_house" "_law_house" (tS 14)),
  (174,cO "_law_house" "_law_house" 401 135 2 0 0 (.ref 169) (.ref 170) .none (.ref 171) (.ref 172) (.ref 173) 406 135 407),
  (175,hO "_law_house" "_law_house" (tS 14) [] .none "law_rl0053_02" 389 174 .none),
  (176,tO []),
  (177,nO),
  (178,gO "_law_written" "_law_written" (tS 15)),
  (179,cO "_law_written" "_law_written" 409 139 2 0 0 (.ref 176) (.ref 177) .none .none .none (.ref 178) 412 139 413),
  (180,hO "_law_written" "_law_written" (tS 15) [] .none "law_rl0053_02" 389 179 .none),
  (181,tO []),
  (182,nO),
  (183,gO "_law_lexer" "_law_lexer" (tS 16)),
  (184,cO "_law_lexer" "_law_lexer" 415 147 1 0 0 (.ref 181) (.ref 182) .none .none .none (.ref 183) 418 147 419),
  (185,hO "_law_lexer" "_law_lexer" (tS 16) [] .none "law_rl0053_02" 389 184 .none),
  (186,tO []),
  (187,nO),
  (188,tO [.str (qS "words") 424,.str (qS "pile") 425,.str (qS "line") 426,.str (qS "looks") 427,.str (qS "lows") 428,.str (qS "word") 429,.str (qS "white") 430,.str (qS "part") 431]),
  (189,tO []),
  (190,gO "_law_walk" "_law_walk" (tS 17)),
  (191,cO "_law_walk" "_law_walk" 421 152 3 0 0 (.ref 186) (.ref 187) .none (.ref 188) (.ref 189) (.ref 190) 432 152 433),
  (192,hO "_law_walk" "_law_walk" (tS 17) [] .none "law_rl0053_02" 389 191 .none),
  (193,tO []),
  (194,nO),
  (195,gO "_law_seen" "_law_seen" (tS 18)),
  (196,cO "_law_seen" "_law_seen" 435 166 2 0 0 (.ref 193) (.ref 194) .none .none .none (.ref 195) 438 166 439),
  (197,hO "_law_seen" "_law_seen" (tS 18) [] .none "law_rl0053_02" 389 196 .none),
  (198,tO []),
  (199,nO),
  (200,gO "_law_other_size" "_law_other_size" (tS 19)),
  (201,cO "_law_other_size" "_law_other_size" 441 168 1 0 0 (.ref 198) (.ref 199) .none .none .none (.ref 200) 444 168 445),
  (202,hO "_law_other_size" "_law_other_size" (tS 19) [] .none "law_rl0053_02" 389 201 .none),
  (203,tO []),
  (204,nO),
  (205,gO "_law_told_by_the_least" "_law_told_by_the_least" (tS 20)),
  (206,cO "_law_told_by_the_least" "_law_told_by_the_least" 447 170 5 0 0 (.ref 203) (.ref 204) .none .none .none (.ref 205) 450 170 451),
  (207,hO "_law_told_by_the_least" "_law_told_by_the_least" (tS 20) [] .none "law_rl0053_02" 389 206 .none),
  (208,tO []),
  (209,nO),
  (210,gO "law" "law" (tS 21)),
  (211,cO "law" "law" 453 183 1 0 0 (.ref 208) (.ref 209) .none .none .none (.ref 210) 456 183 457),
  (212,hO "law" "law" (tS 21) [] .none "law_rl0053_02" 389 211 .none)]
end Mine
namespace Mine
noncomputable abbrev den2:Code→Sem Fin:=PySem.W.Fast.tw11892475500146522536 PySem.W.Fast.tw14364793385576792824
noncomputable def ktT (P:Params):PySem.W.X.KT:=PySem.W.X.KT.of (K2 P)
noncomputable def kt2 (P:Params) (a:Addr):Option Obj:=match Nat.beq a 182||Nat.beq a 77||Nat.beq a 84 with | true=>none | false=>(ktT P).get a
noncomputable def sup2 (a:Addr):Bool:=Nat.beq a 52||Nat.beq a 75||Nat.beq a 112
noncomputable def gen2 (a:Addr):Bool:=Nat.beq a 82||Nat.beq a 89
noncomputable def cmp2 (a:Addr):Bool:=Nat.beq a 212
noncomputable abbrev V2 (w:World):OV:=⟨den2,kt2 w.params,⟨PySem.Challenge.pw_rl0053_02,w.params⟩,altOf sup2 gen2 cmp2,213⟩
noncomputable def W2 (w:World) (b1 b2:Bool):World:=(w.withFollow "special-get-raises" b1).withFollow "comprehension-iter-twice" b2
theorem V2_den (w:World) (c:Code):(V2 w).den c=(model P2 w).den c:=by
 show PySem.W.Fast.tw11892475500146522536 PySem.W.Fast.tw14364793385576792824 c=denote table c
 rw [table_eq_tree,PySem.W.Fast.te11892475500146522536,PySem.W.Fast.te14364793385576792824]
theorem V2_top (w:World) (s:Shared) (h:∀ a o,(V2 w).kt a=some o→s.heap.get? a=some o):(V2 w).top≤s.heap.objs.size:=by
 have e:((V2 w).kt 212).isSome=true:=by kernel_rfl
 obtain ⟨o,ho⟩:=Option.isSome_iff_exists.mp e
 exact Heap.lt_size (h _ _ ho)
theorem V2_st (w:World):((V2 w).kt cStatics).isSome=true:=by kernel_rfl
noncomputable abbrev Pw (w:World) (b1 b2:Bool):Params:=(W2 w b1 b2).params
noncomputable abbrev Mo (w:World) (b1 b2:Bool):Model:=model P2 (W2 w b1 b2)
noncomputable abbrev Kt (w:World) (b1 b2:Bool):Addr→Option Obj:=kt2 (Pw w b1 b2)
noncomputable abbrev Con.Ok2 (w:World) (b1 b2:Bool) (x:Nat) (C:Con):Prop:=C.Ok (Mo w b1 b2) (Kt w b1 b2) x
noncomputable abbrev Fam.Ok2 (w:World) (b1 b2:Bool) (x:Nat) (F:Fam):Prop:=F.Ok (Mo w b1 b2) (Kt w b1 b2) x
noncomputable abbrev ev2 (w:World) (b1 b2:Bool) (C:Con) (hs:List Nat) (us:List Use) (own past:Option Value) (below:List (Code×Pos)) (p:Pos) (N T:Nat) (sg:Sg):Out :=
 evCode (V2 (W2 w b1 b2)) ⟨C.c,none,own,below,past⟩ p sg ⟨C.need,[],0,N+213,T,hs,0,us,[],[],[],[]⟩
theorem Con.of2 {w:World} {b1 b2:Bool} {x:Nat} {C:Con} (y:Nat) (hs:List Nat) (us:List Use) (sel:List Nat) (pick:Nat→Nat→Sg→Nat→Nat) (huses:AllFam (Mo w b1 b2) (Kt w b1 b2) x y us)
  (E:∀ (own past:Option Value) (below:List (Code×Pos)) (p:Pos) (N T:Nat) (sg:Sg),endIf sel (ev2 w b1 b2 C hs us own past below p N T sg)=dueIf C (pick N T sg) (ev2 w b1 b2 C hs us own past below p N T sg):=by intros; kernel_rfl)
  (hx:42+y≤x:=by decide) (hlen:∀ xs,(C.give xs).length=C.need.length:=by intro _; rfl) (hsel:sel.Nodup:=by decide):C.Ok2 w b1 b2 x :=
 Con.of_ev (V:=V2 (W2 w b1 b2)) (y:=y) hs us sel pick (V2_den _) (altOf_ok rfl) (V2_top _) (fun _ _=>rfl) rfl (V2_st _) hx huses.mem hlen hsel E
theorem Con.of2b {w:World} {b1 b2:Bool} {x:Nat} {C:Con} (y:Nat) (hs:List Nat) (us:List Use) (sel:List Nat) (pick:Nat→Nat→Sg→Nat→Nat) (huses:AllFam (Mo w b1 b2) (Kt w b1 b2) x y us)
  (E:∀ (own past:Option Value) (below:List (Code×Pos)) (p:Pos) (N T:Nat) (sg:Sg),endIf sel (ev2 w b1 b2 C hs us own past below p N T sg)=dueIf C (pick N T sg) (ev2 w b1 b2 C hs us own past below p N T sg):=by intros; cases b1<;>kernel_rfl)
  (hx:42+y≤x:=by decide) (hlen:∀ xs,(C.give xs).length=C.need.length:=by intro _; rfl) (hsel:sel.Nodup:=by decide):C.Ok2 w b1 b2 x :=
 Con.of2 y hs us sel pick huses E hx hlen hsel
end Mine
namespace Mine
noncomputable def lamParts (P:Params):Arguments×Expr×Scope:=match (ktT P).get 185 with
 | some ⟨_,_,.func fd,_⟩=>match fd.body with
  | .stmts (_::_::.Assign _ (.Lambda a b s _) _::_)=>(a,b,s)
  | _=>(default,default,default)
 | _=>(default,default,default)
noncomputable def lamObj (P:Params) (CE CO CT:Addr):Obj:={cls:=.type "function",data:=.func {name:=Str.ofString "<lambda>",qualname:=Str.ofString "_law_lexer.<locals>.<lambda>",params:=(lamParts P).1,body:=.expr (lamParts P).2.1,scope:=(lamParts P).2.2,globals:=3,closure:=[(Str.ofString "signs",CE)],defaults:=.none,kwdefaults:=.none,pyModule:=.str (Str.ofString "law_rl0053_02") 389,code:=.ref CO,closureTuple:=.ref CT,builtins:=0}}
structure LA where
 X:Addr
 XD:Addr
 PB:Addr
 S:Addr
 SD:Addr
 FN:Addr
 CO:Addr
 CE:Addr
 CT:Addr
 SG:Addr
 a0:Value
 q:Str
 tq:Tok
 rf:List Value
 k1:Tok
 k2:Tok
 k3:Tok
 k4:Tok
 kw:Tok
 xe:Nat
 j1:Tok
 jn:Tok
 j2:Tok
 j3:Tok
 jw:Tok
 j4:Tok
 jp:Addr
 j5:Tok
 se:Nat
noncomputable def lamNeed (P:Params) (l:LA) (signs:List Value) (ep:Nat):List (Addr×Obj) :=
 [(l.FN,lamObj P l.CE l.CO l.CT),(l.CO,{cls:=.type "code",data:=.fields ⟨l.a0::.str l.q l.tq::l.rf⟩}),(l.CE,{cls:=.type "cell",data:=.cell (some (.ref l.SG))}),(l.SG,{cls:=.type "list",data:=.seq ⟨signs⟩ ep})]
noncomputable def kRead (P:Params) (l:LA) (x:Str) (tx:Tok) (rest:List Value) (ep:Nat) (t:Tok):Con :=
 ⟨.call (.ref l.FN) ⟨[.int 1 t],[]⟩,lamNeed P l (.str x tx::rest) ep,fun _=>(lamNeed P l rest (ep+1)).map (·.2),fun _=>[],fun _=>.ok (.ret (.str x tx))⟩
theorem kRead_ok (w:World) (b1 b2:Bool) (l:LA) (xs:Str) (tx:Tok) (rest:List Value) (ep:Nat) (t:Tok) (h:rest.length<sizeLine):(kRead (Pw w b1 b2) l xs tx rest ep t).Ok2 w b1 b2 42 :=
 Con.of2 0 (hD 13 0x71c71c71471c50820c1) [uS 1 (fLenL (.str xs tx::rest) (rest.length+1:Nat)) [7],uS 3 (fPop0 (.str xs tx) rest) [7]] [] (fun _ _ _ _=>0) ⟨fLenL_ok rfl h,fPop0_ok h,trivial⟩
noncomputable def fRead (P:Params) (l:LA) (x:Str) (tx:Tok) (rest:List Value) (ep:Nat):Fam:=fam1 fun c _=>kRead P l x tx rest ep (argT c 0)
theorem fRead_ok (w:World) (b1 b2:Bool) (l:LA) (xs:Str) (tx:Tok) (rest:List Value) (ep:Nat) (h:rest.length<sizeLine):(fRead (Pw w b1 b2) l xs tx rest ep).Ok2 w b1 b2 42:=fam1_ok fun _ _=>kRead_ok w b1 b2 l xs tx rest ep _ h
noncomputable def kReadE (P:Params) (l:LA) (ep:Nat) (t:Tok):Con :=
 ⟨.call (.ref l.FN) ⟨[.int 1 t],[]⟩,lamNeed P l [] ep,fun _=>(lamNeed P l [] ep).map (·.2),fun _=>[],fun xs=>.ok (.ret (.str (Str.ofString "") (xs 0)))⟩
end Mine
namespace Mine
noncomputable def ws4:Str:=Str.ofString "\n\t\r "
noncomputable def nl1:Str:=Str.ofString "\n"
noncomputable def lexD (P:Params) (l:LA) (n:Int) (tn:Tok):Obj:={cls:=.type "dict",data:=.dict ⟨[ent P "lineno" l.k1 (.int n tn),ent P "instream" l.k2 (.ref l.S),ent P "whitespace" l.k3 (.str ws4 l.kw),ent P "pushback" l.k4 (.ref l.PB)]⟩ l.xe}
noncomputable def strD (P:Params) (l:LA):Obj:={cls:=.type "dict",data:=.dict ⟨[ent P "lineno" l.j1 (.int 1 l.jn),ent P "instream" l.j2 .none,ent P "whitespace" l.j3 (.str ws4 l.jw),ent P "pushback" l.j4 (.ref l.jp),ent P "read" l.j5 (.ref l.FN)]⟩ l.se}
noncomputable def lexNeed (P:Params) (l:LA) (signs:List Value) (ep:Nat) (n:Int) (tn:Tok) (pb:List Value) (epb:Nat):List (Addr×Obj) :=
 lamNeed P l signs ep++[(l.S,{cls:=.ref 157,dict:=some l.SD}),(l.SD,strD P l),(l.X,{cls:=.ref 157,dict:=some l.XD}),(l.XD,lexD P l n tn),(l.PB,{cls:=.type "list",data:=.seq ⟨pb⟩ epb})]
noncomputable def kRC (P:Params) (l:LA) (x:Str) (tx:Tok) (rest:List Value) (ep:Nat) (n:Int) (tn:Tok) (pb:List Value) (epb:Nat):Con :=
 ⟨.call (.ref 140) ⟨[.ref l.X],[]⟩,lexNeed P l (.str x tx::rest) ep n tn pb epb,fun _=>(lexNeed P l rest (ep+1) n tn pb epb).map (·.2),fun _=>[],fun _=>.ok (.ret (.str x tx))⟩
noncomputable def hsRC:List Nat:=hD 46 0x8208204b00924000024000024000024000024000024f00d340000340000342082000
noncomputable def kRCn (P:Params) (l:LA) (x:Str) (tx:Tok) (rest:List Value) (ep:Nat) (n:Int) (tn:Tok) (pb:List Value) (epb:Nat):Con :=
 ⟨.call (.ref 140) ⟨[.ref l.X],[]⟩,lexNeed P l (.str x tx::rest) ep n tn pb epb,fun xs=>(lexNeed P l rest (ep+1) (n+1) (xs 0) pb epb).map (·.2),fun _=>[],fun _=>.ok (.ret (.str x tx))⟩
noncomputable def hsRCn:List Nat:=hD 76 0x8f3cf00d00000d00d00d00000d3c034d00000d00000d08208204b00924000024000024000024000024000024f00d340000340000342082000
end Mine
namespace Mine
theorem kRC_ok (w:World) (b1 b2:Bool) (l:LA) (x:Str) (tx:Tok) (rest:List Value) (ep:Nat) (n:Int) (tn:Tok) (pb:List Value) (epb:Nat) (h:rest.length<sizeLine) (hx:(x.cps.toList==nl1.cps.toList)=false) :
  (kRC (Pw w b1 b2) l x tx rest ep n tn pb epb).Ok2 w b1 b2 84:=by
 exact Con.of2b 42 hsRC [uS 3 (fRead (Pw w b1 b2) l x tx rest ep) [1,3,5,7],uS 5 (fSS "str.__eq__" x nl1 false) []] [] (fun _ _ _ _=>0) ⟨fRead_ok w b1 b2 l x tx rest ep h,str_eq_ok hx,trivial⟩
end Mine
namespace Mine
theorem kRCn_ok (w:World) (b1 b2:Bool) (l:LA) (x:Str) (tx:Tok) (rest:List Value) (ep:Nat) (n:Int) (tn:Tok) (pb:List Value) (epb:Nat) (h:rest.length<sizeLine) (hx:(x.cps.toList==nl1.cps.toList)=true) :
  (kRCn (Pw w b1 b2) l x tx rest ep n tn pb epb).Ok2 w b1 b2 84:=by
 exact Con.of2b 42 hsRCn [uS 3 (fRead (Pw w b1 b2) l x tx rest ep) [1,3,5,7],uS 5 (fSS "str.__eq__" x nl1 true) []] [] (fun _ _ sg _=>sg 1 1+2) ⟨fRead_ok w b1 b2 l x tx rest ep h,str_eq_ok hx,trivial⟩
end Mine
namespace Mine
theorem kReadE_ok (w:World) (b1 b2:Bool) (l:LA) (ep:Nat) (t:Tok):(kReadE (Pw w b1 b2) l ep t).Ok2 w b1 b2 42 :=
 Con.of2 0 [1,3,2,2,5,7,7] [uS 1 (fLenL [] 0) [7]] [] (fun _ _ sg _=>sg 0 1) ⟨fLenL_ok rfl (Nat.zero_le _),trivial⟩
noncomputable def fReadE (P:Params) (l:LA) (ep:Nat):Fam:=fam1 fun c _=>kReadE P l ep (argT c 0)
theorem fReadE_ok (w:World) (b1 b2:Bool) (l:LA) (ep:Nat):(fReadE (Pw w b1 b2) l ep).Ok2 w b1 b2 42:=fam1_ok fun _ _=>kReadE_ok w b1 b2 l ep _
noncomputable def st0:Str:=Str.ofString ""
noncomputable def kRCe (P:Params) (l:LA) (ep:Nat) (n:Int) (tn:Tok) (pb:List Value) (epb:Nat):Con :=
 ⟨.call (.ref 140) ⟨[.ref l.X],[]⟩,lexNeed P l [] ep n tn pb epb,fun _=>(lexNeed P l [] ep n tn pb epb).map (·.2),fun _=>[],fun xs=>.ok (.ret (.str st0 (xs 0)))⟩
theorem kRCe_ok (w:World) (b1 b2:Bool) (l:LA) (ep:Nat) (n:Int) (tn:Tok) (pb:List Value) (epb:Nat) :
  (kRCe (Pw w b1 b2) l ep n tn pb epb).Ok2 w b1 b2 84:=by
 exact Con.of2b 42 hsRC [uS 3 (fReadE (Pw w b1 b2) l ep) [1,3,5,7],uS 5 (fSS "str.__eq__" st0 nl1 false) []] [] (fun _ _ sg _=>sg 0 2) ⟨fReadE_ok w b1 b2 l ep,str_eq_ok (by decide),trivial⟩
end Mine
namespace Mine
noncomputable def fdOf (P:Params) (a:Addr):FuncData:=match (ktT P).get a with
 | some ⟨_,_,.func fd,_⟩=>fd
 | _=>default
noncomputable def stsOf (P:Params) (a:Addr):List Stmt:=match (fdOf P a).body with
 | .stmts b=>b
 | _=>[]
noncomputable def envAt (P:Params) (a:Addr) (q:String) (L:Addr) (cells:List (Str×Addr)):Env :=
 {scope:=(fdOf P a).scope,locals:=L,globals:=3,cells:=cells,qual:=Str.ofString q,func:=some a,code:=(fdOf P a).code,frame:=some L,builtins:=0}
noncomputable def forCode (s:Stmt) (it:Value) (env:Env):Code:=match s with
 | .For t _ b o _=>.forLoop t it b o env
 | _=>default
noncomputable def ifThen (s:Stmt):List Stmt:=match s with
 | .If _ b _ _=>b
 | _=>[]
noncomputable def ifElse (s:Stmt):List Stmt:=match s with
 | .If _ _ o _=>o
 | _=>[]
noncomputable def forBody (s:Stmt):List Stmt:=match s with
 | .For _ _ b _ _=>b
 | _=>[]
noncomputable def stN (l:List Stmt) (n:Nat):Stmt:=(l[n]?).getD (.Pass default)
structure FA where
 L:Addr
 BM:Addr
 F:Addr
 f1:Tok
 f2:Tok
 f3:Tok
 f4:Tok
 ts:Tok
 fe:Nat
noncomputable def gA (P:Params):Stmt:=stN (stsOf P 147) 3
noncomputable def gB (P:Params):Stmt:=stN (ifThen (stN (forBody (gA P)) 1)) 0
noncomputable def gC (P:Params):Stmt:=stN (ifElse (stN (forBody (gA P)) 1)) 2
noncomputable def gEnv (P:Params) (f:FA):Env:=envAt P 147 "_netrclex.get_token.<locals>." f.L []
noncomputable def gFrm (P:Params) (l:LA) (f:FA) (tok:Str) (tt:Tok) (ch:Str) (tc:Tok):Obj :=
 {cls:=.type "frame",data:=.dict ⟨[ent P "self" f.f1 (.ref l.X),ent P "token" f.f2 (.str tok tt),ent P "fiter" f.f3 (.ref f.F),ent P "ch" f.f4 (.str ch tc)]⟩ f.fe}
noncomputable def gNeed (P:Params) (l:LA) (f:FA) (signs:List Value) (ep:Nat) (n:Int) (tn:Tok) (pb:List Value) (epb:Nat) (tok:Str) (tt:Tok) (ch:Str) (tc:Tok):List (Addr×Obj) :=
 lexNeed P l signs ep n tn pb epb++[(f.L,gFrm P l f tok tt ch tc),(f.BM,{cls:=.type "method",data:=.fields ⟨[.ref 140,.ref l.X]⟩}),(f.F,{cls:=.type "callable_iterator",data:=.fields ⟨[.ref f.BM,.str st0 f.ts,.bool false]⟩})]
noncomputable def kAdd (a b:Str) (t u:Tok):Con:=kVal "str.__add__" [.str a t,.str b u] fun xs=>.str (a++b) (xs 0)
theorem kAdd_ok {prog:Program} {w:World} {kt:Addr→Option Obj} {x:Nat} (a b:Str) (t u:Tok) (h:(a++b).length≤sizeLine):(kAdd a b t u).Ok (model prog w) kt x:=by
 refine kVal_ok (by decide +kernel) F.entry_str_add _ (gives_str_add a b t u) fun Q s hq=>?_
 by_cases h1:(a.length==0)=true
 ·rw [if_pos h1]
  have:a++b=b:=by
   have z:a.cps=#[]:=by
    have:=beq_iff_eq.mp h1
    exact Array.eq_empty_of_size_eq_zero this
   cases a; cases b
   simp only at z
   subst z
   show PySem.Str.mk _=_
   simp
  have q:=hq (fun _=>u) s.toks
  rw [this] at q
  exact q
 ·rw [if_neg h1]
  by_cases h2:(b.length==0)=true
  ·rw [if_pos h2]
   have:a++b=a:=by
    have z:b.cps=#[]:=by
     have:=beq_iff_eq.mp h2
     exact Array.eq_empty_of_size_eq_zero this
    cases a; cases b
    simp only at z
    subst z
    show PySem.Str.mk _=_
    simp
   have q:=hq (fun _=>t) s.toks
   rw [this] at q
   exact q
  ·rw [if_neg h2]
   exact ⟨h,hq (fun _=>s.toks) (s.toks+1)⟩
noncomputable def fAdd (a b:Str):Fam:=fam1 fun c _=>kAdd a b (argT c 0) (argT c 1)
theorem fAdd_ok {prog:Program} {w:World} {kt:Addr→Option Obj} {x:Nat} {a b:Str} (h:(a++b).length≤sizeLine):(fAdd a b).Ok (model prog w) kt x:=fam1_ok fun _ _=>kAdd_ok _ _ _ _ h
theorem str_in_ok {prog:Program} {w:World} {kt:Addr→Option Obj} {x:Nat} {a b:Str} {r:Bool} (h:(!(Builtin.Str.occurrences a b 0 a.length 1).isEmpty)=r):(fSS "str.__contains__" a b r).Ok (model prog w) kt x:=fSS_ok (by decide +kernel) F.entry_str_contains (fun t u=>gives_str_contains a b t u) h
end Mine
namespace Mine
noncomputable def sg1 (c:Nat):Str:=⟨#[c+1]⟩
noncomputable def sv (c:Nat) (t:Tok):Value:=.str (sg1 c) t
noncomputable def bs1:Str:=Str.ofString "\\"
noncomputable def qt1:Str:=Str.ofString "\""
noncomputable def fRC (P:Params) (l:LA) (x:Str) (tx:Tok) (rest:List Value) (n:Int) (pb:List Value):Fam:=fam1 fun _ os=>kRC P l x tx rest (epN os 3) n (tokV (vN os 7 0)) pb (epN os 8)
theorem fRC_ok (w:World) (b1 b2:Bool) (l:LA) (x:Str) (tx:Tok) (rest:List Value) (n:Int) (pb:List Value) (h:rest.length<sizeLine) (hx:(x.cps.toList==nl1.cps.toList)=false):(fRC (Pw w b1 b2) l x tx rest n pb).Ok2 w b1 b2 84:=fam1_ok fun _ _=>kRC_ok w b1 b2 l x tx rest _ n _ pb _ h hx
noncomputable def fRCn (P:Params) (l:LA) (x:Str) (tx:Tok) (rest:List Value) (n:Int) (pb:List Value):Fam:=fam1 fun _ os=>kRCn P l x tx rest (epN os 3) n (tokV (vN os 7 0)) pb (epN os 8)
theorem fRCn_ok (w:World) (b1 b2:Bool) (l:LA) (x:Str) (tx:Tok) (rest:List Value) (n:Int) (pb:List Value) (h:rest.length<sizeLine) (hx:(x.cps.toList==nl1.cps.toList)=true):(fRCn (Pw w b1 b2) l x tx rest n pb).Ok2 w b1 b2 84:=fam1_ok fun _ _=>kRCn_ok w b1 b2 l x tx rest _ n _ pb _ h hx
inductive U where
 | pl (c:Nat) (t:Tok)
 | es (t:Tok) (c:Nat) (t':Tok)
noncomputable def U.vs:List U→List Value→List Value
 | [],l=>l
 | .pl c t::us,l=>sv c t::U.vs us l
 | .es t c t'::us,l=>sv 91 t::sv c t'::U.vs us l
noncomputable def U.ep:List U→Nat→Nat
 | [],e=>e
 | .pl _ _::us,e=>U.ep us (e+1)
 | .es _ _ _::us,e=>U.ep us (e+1+1)
noncomputable def U.gl:List U→Str→Str
 | [],s=>s
 | .pl c _::us,s=>U.gl us (s++sg1 c)
 | .es _ c _::us,s=>U.gl us (s++sg1 c)
noncomputable def pl9:List Nat:=hD 9 0x113cd2c91c50c1
noncomputable def pl12:List Nat:=hD 12 0x5d54d13cd2c91c50c1
noncomputable def kC (P:Params) (l:LA) (f:FA) (us:List U) (wc:Nat) (wt:Tok) (rest:List Value) (ep:Nat) (n n':Int) (tn:Tok) (pb:List Value) (epb:Nat) (tok:Str) (tt:Tok) (ch:Str) (tc:Tok):Con :=
 ⟨forCode (gC P) (.ref f.F) (gEnv P f),gNeed P l f (U.vs us (sv wc wt::rest)) ep n tn pb epb tok tt ch tc,
  fun xs=>(gNeed P l f rest (U.ep us ep+1) n' (xs 1) pb epb (U.gl us tok) (xs 0) (sg1 wc) wt).map (·.2),fun _=>[],fun xs=>.ok (.ret (.str (U.gl us tok) (xs 0)))⟩
noncomputable def hsC1:List Nat:=hD 26 0x4cf00d3400003400003534d34d75d50155d75d7
end Mine
namespace Mine
theorem kC1_ok (w:World) (b1 b2:Bool) (l:LA) (f:FA) (wc:Nat) (wt:Tok) (rest:List Value) (ep:Nat) (n:Int) (tn:Tok) (pb:List Value) (epb:Nat) (tok:Str) (tt:Tok) (ch:Str) (tc:Tok)
  (h:rest.length<sizeLine) (hw:(!(Builtin.Str.occurrences ws4 (sg1 wc) 0 ws4.length 1).isEmpty)=true) (hn:((sg1 wc).cps.toList==nl1.cps.toList)=false) :
  (kC (Pw w b1 b2) l f [] wc wt rest ep n n tn pb epb tok tt ch tc).Ok2 w b1 b2 126:=by
 exact Con.of2b 84 hsC1 [⟨3,fRC (Pw w b1 b2) l (sg1 wc) wt rest n pb,pl9,false⟩,uS 5 (fSS "str.__eq__" st0 (sg1 wc) false) [],uS 8 (fSS "str.__contains__" ws4 (sg1 wc) true) []] [] (fun _ _ _ j=>match j with | 0=>tt | _=>tn)
  ⟨fRC_ok w b1 b2 l _ wt rest n pb h hn,str_eq_ok rfl,str_in_ok hw,trivial⟩
end Mine
namespace Mine
theorem kC1n_ok (w:World) (b1 b2:Bool) (l:LA) (f:FA) (wc:Nat) (wt:Tok) (rest:List Value) (ep:Nat) (n:Int) (tn:Tok) (pb:List Value) (epb:Nat) (tok:Str) (tt:Tok) (ch:Str) (tc:Tok)
  (h:rest.length<sizeLine) (hw:(!(Builtin.Str.occurrences ws4 (sg1 wc) 0 ws4.length 1).isEmpty)=true) (hn:((sg1 wc).cps.toList==nl1.cps.toList)=true) :
  (kC (Pw w b1 b2) l f [] wc wt rest ep n (n+1) tn pb epb tok tt ch tc).Ok2 w b1 b2 126:=by
 exact Con.of2b 84 hsC1 [⟨3,fRCn (Pw w b1 b2) l (sg1 wc) wt rest n pb,pl9,false⟩,uS 5 (fSS "str.__eq__" st0 (sg1 wc) false) [],uS 8 (fSS "str.__contains__" ws4 (sg1 wc) true) []] [] (fun _ _ sg j=>match j with | 0=>tt | _=>sg 0 2)
  ⟨fRCn_ok w b1 b2 l _ wt rest n pb h hn,str_eq_ok rfl,str_in_ok hw,trivial⟩
end Mine
namespace Mine
noncomputable def fC (P:Params) (l:LA) (f:FA) (us:List U) (wc:Nat) (wt:Tok) (rest:List Value) (n n':Int) (pb:List Value) (tok:Str):Fam:=fam1 fun _ os =>
 kC P l f us wc wt rest (epN os 3) n n' (tokV (slotN os 7 0)) pb (epN os 8) tok (tokV (slotN os 9 1)) (strV (slotN os 9 3)) (tokV (slotN os 9 3))
noncomputable def U.ok:U→Prop
 | .pl c _=>(!(Builtin.Str.occurrences ws4 (sg1 c) 0 ws4.length 1).isEmpty)=false∧((sg1 c).cps.toList==bs1.cps.toList)=false∧((sg1 c).cps.toList==nl1.cps.toList)=false
 | .es _ c _=>((sg1 c).cps.toList==nl1.cps.toList)=false
noncomputable def hsC3:List Nat:=hD 30 0x4d34d34cf00d3400003400003534d34d75d50155d75d7
noncomputable def hsC2:List Nat:=hD 49 0x134d34d34c03cd0000003400003400003534cf00d3400003400003534d34d75d50155d75d7
end Mine
namespace Mine
theorem kCpl_ok (w:World) (b1 b2:Bool) (l:LA) (f:FA) (wc:Nat) (wt:Tok) (rest:List Value) (n n':Int) (pb:List Value) (c:Nat) (t:Tok) (us:List U) (ep:Nat) (tn:Tok) (epb:Nat) (tok:Str) (tt:Tok) (ch:Str) (tc:Tok)
  (u:(U.pl c t).ok) (hl:(U.vs us (sv wc wt::rest)).length<sizeLine) (ha:(tok++sg1 c).length≤sizeLine)
  (ih:(fC (Pw w b1 b2) l f us wc wt rest n n' pb (tok++sg1 c)).Ok2 w b1 b2 126) :
  (kC (Pw w b1 b2) l f (.pl c t::us) wc wt rest ep n n' tn pb epb tok tt ch tc).Ok2 w b1 b2 126:=by
 obtain ⟨u1,u2,u3⟩:=u
 exact Con.of2b 84 hsC3 [⟨3,fRC (Pw w b1 b2) l (sg1 c) t (U.vs us (sv wc wt::rest)) n pb,pl9,false⟩,uS 5 (fSS "str.__eq__" st0 (sg1 c) false) [],uS 8 (fSS "str.__contains__" ws4 (sg1 c) false) [],uS 10 (fSS "str.__eq__" (sg1 c) bs1 false) [],
   uS 12 (fAdd tok (sg1 c)) [],⟨13,fC (Pw w b1 b2) l f us wc wt rest n n' pb (tok++sg1 c),pl12,true⟩] [] (fun _ _ sg j=>sg 5 (j+2))
   ⟨fRC_ok w b1 b2 l _ t _ n pb hl u3,str_eq_ok rfl,str_in_ok u1,str_eq_ok u2,fAdd_ok ha,ih,trivial⟩
end Mine
namespace Mine
theorem kCes_ok (w:World) (b1 b2:Bool) (l:LA) (f:FA) (wc:Nat) (wt:Tok) (rest:List Value) (n n':Int) (pb:List Value) (t:Tok) (c:Nat) (t':Tok) (us:List U) (ep:Nat) (tn:Tok) (epb:Nat) (tok:Str) (tt:Tok) (ch:Str) (tc:Tok)
  (u3:(U.es t c t').ok) (hl:(U.vs us (sv wc wt::rest)).length+1<sizeLine) (ha:(tok++sg1 c).length≤sizeLine)
  (ih:(fC (Pw w b1 b2) l f us wc wt rest n n' pb (tok++sg1 c)).Ok2 w b1 b2 126) :
  (kC (Pw w b1 b2) l f (.es t c t'::us) wc wt rest ep n n' tn pb epb tok tt ch tc).Ok2 w b1 b2 126:=by
 exact Con.of2b 84 hsC2 [⟨3,fRC (Pw w b1 b2) l (sg1 91) t (sv c t'::U.vs us (sv wc wt::rest)) n pb,pl9,false⟩,uS 5 (fSS "str.__eq__" st0 (sg1 91) false) [],uS 8 (fSS "str.__contains__" ws4 (sg1 91) false) [],uS 10 (fSS "str.__eq__" (sg1 91) bs1 true) [],
   ⟨11,fRC (Pw w b1 b2) l (sg1 c) t' (U.vs us (sv wc wt::rest)) n pb,pl9,false⟩,uS 13 (fAdd tok (sg1 c)) [],⟨14,fC (Pw w b1 b2) l f us wc wt rest n n' pb (tok++sg1 c),pl12,true⟩] [] (fun _ _ sg j=>sg 6 (j+2))
   ⟨fRC_ok w b1 b2 l _ t _ n pb hl (by decide),str_eq_ok rfl,str_in_ok (by decide +kernel),str_eq_ok (by decide),fRC_ok w b1 b2 l _ t' _ n pb (Nat.lt_of_succ_lt hl) u3,fAdd_ok ha,ih,trivial⟩
end Mine
namespace Mine
theorem glue_len (a:Str) (c k:Nat) (h:a.length+(k+1)≤1000):(a++sg1 c).length+k≤1000:=by
 have:(a++sg1 c).length=a.length+1:=by
  show (a.cps++#[c+1]).size=a.cps.size+1
  simp
 omega
theorem glue_fits (a:Str) (c:Nat) (h:a.length+1≤1000):(a++sg1 c).length≤sizeLine:=by
 have:=glue_len a c 0 (by omega)
 have:sizeLine=2 ^ 24:=rfl
 omega
theorem U.len_pl {c:Nat} {t:Tok} {us:List U} {l:List Value} {K:Nat} (h:(U.vs (.pl c t::us) l).length≤K):(U.vs us l).length<K:=h
theorem U.len_es {c:Nat} {t t':Tok} {us:List U} {l:List Value} {K:Nat} (h:(U.vs (.es t c t'::us) l).length≤K):(U.vs us l).length+1<K:=h
theorem le_of_lt1 {a K:Nat} (h:a+1<K):a≤K:=by omega
theorem len_one {a b:Nat} (h:a+(b+1)≤1000):a+1≤1000:=by omega
end Mine
namespace Mine
theorem kC_ok (w:World) (b1 b2:Bool) (l:LA) (f:FA) (wc:Nat) (wt:Tok) (rest:List Value) (n n':Int) (pb:List Value)
  (hw:(!(Builtin.Str.occurrences ws4 (sg1 wc) 0 ws4.length 1).isEmpty)=true) (hn:(((sg1 wc).cps.toList==nl1.cps.toList)=false∧n'=n)∨(((sg1 wc).cps.toList==nl1.cps.toList)=true∧n'=n+1))
  (us:List U):∀ (tok:Str) (ep:Nat) (tn:Tok) (epb:Nat) (tt:Tok) (ch:Str) (tc:Tok),(∀ u∈us,u.ok)→(U.vs us (sv wc wt::rest)).length≤sizeLine→tok.length+us.length≤1000 →
   (kC (Pw w b1 b2) l f us wc wt rest ep n n' tn pb epb tok tt ch tc).Ok2 w b1 b2 126:=by
 induction us with
 | nil =>
  intro tok ep tn epb tt ch tc _ hl _
  rcases hn with ⟨h1,rfl⟩ | ⟨h1,rfl⟩
  ·exact kC1_ok w b1 b2 l f wc wt rest ep n' tn pb epb tok tt ch tc hl hw h1
  ·exact kC1n_ok w b1 b2 l f wc wt rest ep n tn pb epb tok tt ch tc hl hw h1
 | cons v us ih =>
  intro tok ep tn epb tt ch tc hu hl ht
  have ht':tok.length+(us.length+1)≤1000:=ht
  cases v with
  | pl c t =>
   exact kCpl_ok w b1 b2 l f wc wt rest n n' pb c t us ep tn epb tok tt ch tc (hu _ (.head _)) (U.len_pl hl) (glue_fits tok c (len_one ht'))
    (fam1_ok fun _ os=>ih _ _ _ _ _ _ _ (fun u hu'=>hu u (.tail _ hu')) (Nat.le_of_lt (U.len_pl hl)) (glue_len tok c us.length ht'))
  | es t c t' =>
   exact kCes_ok w b1 b2 l f wc wt rest n n' pb t c t' us ep tn epb tok tt ch tc (hu _ (.head _)) (U.len_es hl) (glue_fits tok c (len_one ht'))
    (fam1_ok fun _ os=>ih _ _ _ _ _ _ _ (fun u hu'=>hu u (.tail _ hu')) (le_of_lt1 (U.len_es hl)) (glue_len tok c us.length ht'))
end Mine
namespace Mine
noncomputable def kB (P:Params) (l:LA) (f:FA) (us:List U) (qt:Tok) (rest:List Value) (ep:Nat) (n:Int) (tn:Tok) (pb:List Value) (epb:Nat) (tok:Str) (tt:Tok) (ch:Str) (tc:Tok):Con :=
 ⟨forCode (gB P) (.ref f.F) (gEnv P f),gNeed P l f (U.vs us (sv 33 qt::rest)) ep n tn pb epb tok tt ch tc,
  fun xs=>(gNeed P l f rest (U.ep us ep+1) n (xs 1) pb epb (U.gl us tok) (xs 0) (sg1 33) qt).map (·.2),fun _=>[],fun xs=>.ok (.ret (.str (U.gl us tok) (xs 0)))⟩
noncomputable def hsB1:List Nat:=hD 13 0x134d34d75d50155d75d7
noncomputable def hsB3:List Nat:=hD 17 0x134d34d34d34d75d50155d75d7
noncomputable def U.okB:U→Prop
 | .pl c _=>((sg1 c).cps.toList==qt1.cps.toList)=false∧((sg1 c).cps.toList==bs1.cps.toList)=false∧((sg1 c).cps.toList==nl1.cps.toList)=false
 | .es _ _ _=>False
noncomputable def fB (P:Params) (l:LA) (f:FA) (us:List U) (qt:Tok) (rest:List Value) (n:Int) (pb:List Value) (tok:Str):Fam:=fam1 fun _ os =>
 kB P l f us qt rest (epN os 3) n (tokV (slotN os 7 0)) pb (epN os 8) tok (tokV (slotN os 9 1)) (strV (slotN os 9 3)) (tokV (slotN os 9 3))
theorem kB1_ok (w:World) (b1 b2:Bool) (l:LA) (f:FA) (qt:Tok) (rest:List Value) (ep:Nat) (n:Int) (tn:Tok) (pb:List Value) (epb:Nat) (tok:Str) (tt:Tok) (ch:Str) (tc:Tok) (h:rest.length<sizeLine) :
  (kB (Pw w b1 b2) l f [] qt rest ep n tn pb epb tok tt ch tc).Ok2 w b1 b2 126:=by
 exact Con.of2b 84 hsB1 [⟨3,fRC (Pw w b1 b2) l (sg1 33) qt rest n pb,pl9,false⟩,uS 5 (fSS "str.__eq__" st0 (sg1 33) false) [],uS 7 (fSS "str.__eq__" (sg1 33) qt1 true) []] [] (fun _ _ _ j=>match j with | 0=>tt | _=>tn)
  ⟨fRC_ok w b1 b2 l _ qt rest n pb h (by decide),str_eq_ok rfl,str_eq_ok (by decide),trivial⟩
theorem kBpl_ok (w:World) (b1 b2:Bool) (l:LA) (f:FA) (qt:Tok) (rest:List Value) (n:Int) (pb:List Value) (c:Nat) (t:Tok) (us:List U) (ep:Nat) (tn:Tok) (epb:Nat) (tok:Str) (tt:Tok) (ch:Str) (tc:Tok)
  (u:(U.pl c t).okB) (hl:(U.vs us (sv 33 qt::rest)).length<sizeLine) (ha:(tok++sg1 c).length≤sizeLine)
  (ih:(fB (Pw w b1 b2) l f us qt rest n pb (tok++sg1 c)).Ok2 w b1 b2 126) :
  (kB (Pw w b1 b2) l f (.pl c t::us) qt rest ep n tn pb epb tok tt ch tc).Ok2 w b1 b2 126:=by
 obtain ⟨u1,u2,u3⟩:=u
 exact Con.of2b 84 hsB3 [⟨3,fRC (Pw w b1 b2) l (sg1 c) t (U.vs us (sv 33 qt::rest)) n pb,pl9,false⟩,uS 5 (fSS "str.__eq__" st0 (sg1 c) false) [],uS 7 (fSS "str.__eq__" (sg1 c) qt1 false) [],uS 9 (fSS "str.__eq__" (sg1 c) bs1 false) [],
   uS 11 (fAdd tok (sg1 c)) [],⟨12,fB (Pw w b1 b2) l f us qt rest n pb (tok++sg1 c),pl12,true⟩] [] (fun _ _ sg j=>sg 5 (j+2))
   ⟨fRC_ok w b1 b2 l _ t _ n pb hl u3,str_eq_ok rfl,str_eq_ok u1,str_eq_ok u2,fAdd_ok ha,ih,trivial⟩
theorem kB_ok (w:World) (b1 b2:Bool) (l:LA) (f:FA) (qt:Tok) (rest:List Value) (n:Int) (pb:List Value)
  (us:List U):∀ (tok:Str) (ep:Nat) (tn:Tok) (epb:Nat) (tt:Tok) (ch:Str) (tc:Tok),(∀ u∈us,u.okB)→(U.vs us (sv 33 qt::rest)).length≤sizeLine→tok.length+us.length≤1000 →
   (kB (Pw w b1 b2) l f us qt rest ep n tn pb epb tok tt ch tc).Ok2 w b1 b2 126:=by
 induction us with
 | nil =>
  intro tok ep tn epb tt ch tc _ hl _
  exact kB1_ok w b1 b2 l f qt rest ep n tn pb epb tok tt ch tc hl
 | cons v us ih =>
  intro tok ep tn epb tt ch tc hu hl ht
  have ht':tok.length+(us.length+1)≤1000:=ht
  cases v with
  | pl c t =>
   exact kBpl_ok w b1 b2 l f qt rest n pb c t us ep tn epb tok tt ch tc (hu _ (.head _)) (U.len_pl hl) (glue_fits tok c (len_one ht'))
    (fam1_ok fun _ os=>ih _ _ _ _ _ _ _ (fun u hu'=>hu u (.tail _ hu')) (Nat.le_of_lt (U.len_pl hl)) (glue_len tok c us.length ht'))
  | es t c t'=>exact (hu _ (.head _)).elim
noncomputable def kRCx (P:Params) (l:LA) (x:Str) (tx:Tok) (rest:List Value) (ep:Nat) (n n':Int) (tn:Tok) (pb:List Value) (epb:Nat):Con :=
 ⟨.call (.ref 140) ⟨[.ref l.X],[]⟩,lexNeed P l (.str x tx::rest) ep n tn pb epb,fun xs=>(lexNeed P l rest (ep+1) n' (xs 0) pb epb).map (·.2),fun _=>[],fun _=>.ok (.ret (.str x tx))⟩
theorem kRCx_ok (w:World) (b1 b2:Bool) (l:LA) (x:Str) (tx:Tok) (rest:List Value) (ep:Nat) (n n':Int) (tn:Tok) (pb:List Value) (epb:Nat) (h:rest.length<sizeLine)
  (hn:((x.cps.toList==nl1.cps.toList)=false∧n'=n)∨((x.cps.toList==nl1.cps.toList)=true∧n'=n+1)):(kRCx (Pw w b1 b2) l x tx rest ep n n' tn pb epb).Ok2 w b1 b2 84:=by
 rcases hn with ⟨hx,rfl⟩ | ⟨hx,rfl⟩
 ·exact Con.of2b 42 hsRC [uS 3 (fRead (Pw w b1 b2) l x tx rest ep) [1,3,5,7],uS 5 (fSS "str.__eq__" x nl1 false) []] [] (fun _ _ _ _=>tn) ⟨fRead_ok w b1 b2 l x tx rest ep h,str_eq_ok hx,trivial⟩
 ·exact kRCn_ok w b1 b2 l x tx rest ep n tn pb epb h hx
noncomputable def fRCx (P:Params) (l:LA) (x:Str) (tx:Tok) (rest:List Value) (n n':Int) (pb:List Value):Fam:=fam1 fun _ os=>kRCx P l x tx rest (epN os 3) n n' (tokV (slotN os 7 0)) pb (epN os 8)
end Mine
namespace Mine
noncomputable def faOf (os:List (Addr×Obj)):FA:=⟨adN os 9,adN os 10,adN os 11,tokV (keyN os 9 0),tokV (keyN os 9 1),tokV (keyN os 9 2),tokV (keyN os 9 3),tokV (valN os 11 1),epN os 9⟩
noncomputable def fCg (P:Params) (l:LA) (us:List U) (wc:Nat) (wt:Tok) (rest:List Value) (n n':Int) (pb:List Value) (tok:Str):Fam:=fam1 fun _ os =>
 kC P l (faOf os) us wc wt rest (epN os 3) n n' (tokV (slotN os 7 0)) pb (epN os 8) tok (tokV (slotN os 9 1)) (strV (slotN os 9 3)) (tokV (slotN os 9 3))
noncomputable def fBg (P:Params) (l:LA) (us:List U) (qt:Tok) (rest:List Value) (n:Int) (pb:List Value) (tok:Str):Fam:=fam1 fun _ os =>
 kB P l (faOf os) us qt rest (epN os 3) n (tokV (slotN os 7 0)) pb (epN os 8) tok (tokV (slotN os 9 1)) (strV (slotN os 9 3)) (tokV (slotN os 9 3))
noncomputable def kGT (P:Params) (l:LA) (ss:List Value) (ep:Nat) (n:Int) (tn:Tok) (epb:Nat) (ss':List Value) (ep':Nat) (n':Int) (txt:Str):Con :=
 ⟨.call (.ref 147) ⟨[.ref l.X],[]⟩,lexNeed P l ss ep n tn [] epb,fun xs=>(lexNeed P l ss' ep' n' (xs 1) [] epb).map (·.2),fun _=>[],fun xs=>.ok (.ret (.str txt (xs 0)))⟩
noncomputable def hsGh:List Nat:=hD 76 0x3c034d00000d00000d08208218610010618618618618208210000000f00d34000000000d00000d08000209144f00d340000340000342082000
noncomputable def hsGb:List Nat:=hD 25 0xf00d340000340000342082086184004186186
noncomputable def hsGp:List Nat:=hD 11 0x6186182082082082
noncomputable def hsGe:List Nat:=hD 30 0x1861860820820820803cd000000340000340000342082
noncomputable def hsGq:List Nat:=[2,2,6,6,6,6]
noncomputable def pl12g:List Nat:=hD 12 0x1840913cd2c91c50c1
end Mine
namespace Mine
theorem le84:(84:Nat)≤126:=by decide
theorem lt_s1 {a K:Nat} (h:a+1<K):a<K:=Nat.lt_of_succ_lt h
theorem lt_s2 {a K:Nat} (h:a+2<K):a+1<K:=Nat.lt_of_succ_lt h
theorem kGTpl_ok (w:World) (b1 b2:Bool) (l:LA) (c:Nat) (t:Tok) (us:List U) (wc:Nat) (wt:Tok) (rest:List Value) (ep:Nat) (n n':Int) (tn:Tok) (epb:Nat)
  (u:(U.pl c t).ok) (u':(U.pl c t).okB) (hl:(U.vs us (sv wc wt::rest)).length+0<sizeLine) (ha:(st0++sg1 c).length≤sizeLine) (hC:∀ b1,(fCg (Pw w b1 b2) l us wc wt rest n n' [] (st0++sg1 c)).Ok2 w b1 b2 126) :
  (kGT (Pw w b1 b2) l (sv c t::U.vs us (sv wc wt::rest)) ep n tn epb rest (U.ep us (ep+1)+1) n' (U.gl us (st0++sg1 c))).Ok2 w b1 b2 168:=by
 obtain ⟨u1,u2,u3⟩:=u
 obtain ⟨u4,_,_⟩:=u'
 cases b1
 ·exact Con.of2 126 (hsGh++hsGp) [uS 2 (fLenL [] 0) [17],⟨14,fRC (Pw w false b2) l (sg1 c) t (U.vs us (sv wc wt::rest)) n [],pl9,false⟩,uS 16 (fSS "str.__eq__" st0 (sg1 c) false) [],uS 19 (fSS "str.__contains__" ws4 (sg1 c) false) [],uS 21 (fSS "str.__eq__" (sg1 c) qt1 false) [],uS 23 (fSS "str.__eq__" (sg1 c) bs1 false) [],uS 25 (fAdd st0 (sg1 c)) [],⟨28,fCg (Pw w false b2) l us wc wt rest n n' [] (st0++sg1 c),pl12g,false⟩] [] (fun _ _ sg j=>sg 7 (j+2))
    ⟨fLenL_ok rfl (Nat.zero_le _),(fRC_ok w false b2 l _ t (U.vs us (sv wc wt::rest)) n [] hl u3).mono le84,str_eq_ok rfl,str_in_ok u1,str_eq_ok u4,str_eq_ok u2,fAdd_ok ha,hC false,trivial⟩
 ·exact Con.of2 126 (hsGh++hsGp) [uS 2 (fLenL [] 0) [17],⟨14,fRC (Pw w true b2) l (sg1 c) t (U.vs us (sv wc wt::rest)) n [],pl9,false⟩,uS 16 (fSS "str.__eq__" st0 (sg1 c) false) [],uS 19 (fSS "str.__contains__" ws4 (sg1 c) false) [],uS 21 (fSS "str.__eq__" (sg1 c) qt1 false) [],uS 23 (fSS "str.__eq__" (sg1 c) bs1 false) [],uS 25 (fAdd st0 (sg1 c)) [],⟨28,fCg (Pw w true b2) l us wc wt rest n n' [] (st0++sg1 c),pl12g,false⟩] [] (fun _ _ sg j=>sg 7 (j+2))
    ⟨fLenL_ok rfl (Nat.zero_le _),(fRC_ok w true b2 l _ t (U.vs us (sv wc wt::rest)) n [] hl u3).mono le84,str_eq_ok rfl,str_in_ok u1,str_eq_ok u4,str_eq_ok u2,fAdd_ok ha,hC true,trivial⟩
theorem kGTes_ok (w:World) (b1 b2:Bool) (l:LA) (t:Tok) (c:Nat) (t2:Tok) (us:List U) (wc:Nat) (wt:Tok) (rest:List Value) (ep:Nat) (n n':Int) (tn:Tok) (epb:Nat)
  (u:(U.es t c t2).ok) (hl:(U.vs us (sv wc wt::rest)).length+1<sizeLine) (ha:(st0++sg1 c).length≤sizeLine) (hC:∀ b1,(fCg (Pw w b1 b2) l us wc wt rest n n' [] (st0++sg1 c)).Ok2 w b1 b2 126) :
  (kGT (Pw w b1 b2) l (sv 91 t::sv c t2::U.vs us (sv wc wt::rest)) ep n tn epb rest (U.ep us ((ep+1)+1)+1) n' (U.gl us (st0++sg1 c))).Ok2 w b1 b2 168:=by
 cases b1
 ·exact Con.of2 126 (hsGh++hsGe) [uS 2 (fLenL [] 0) [17],⟨14,fRC (Pw w false b2) l (sg1 91) t (sv c t2::U.vs us (sv wc wt::rest)) n [],pl9,false⟩,uS 16 (fSS "str.__eq__" st0 (sg1 91) false) [],uS 19 (fSS "str.__contains__" ws4 (sg1 91) false) [],uS 21 (fSS "str.__eq__" (sg1 91) qt1 false) [],uS 23 (fSS "str.__eq__" (sg1 91) bs1 true) [],⟨24,fRC (Pw w false b2) l (sg1 c) t2 (U.vs us (sv wc wt::rest)) n [],pl9,false⟩,uS 26 (fAdd st0 (sg1 c)) [],⟨29,fCg (Pw w false b2) l us wc wt rest n n' [] (st0++sg1 c),pl12g,false⟩] [] (fun _ _ sg j=>sg 8 (j+2))
    ⟨fLenL_ok rfl (Nat.zero_le _),(fRC_ok w false b2 l _ t (sv c t2::U.vs us (sv wc wt::rest)) n [] hl (by decide)).mono le84,str_eq_ok rfl,str_in_ok (by decide +kernel),str_eq_ok (by decide),str_eq_ok (by decide),(fRC_ok w false b2 l _ t2 (U.vs us (sv wc wt::rest)) n [] (lt_s1 hl) u).mono le84,fAdd_ok ha,hC false,trivial⟩
 ·exact Con.of2 126 (hsGh++hsGe) [uS 2 (fLenL [] 0) [17],⟨14,fRC (Pw w true b2) l (sg1 91) t (sv c t2::U.vs us (sv wc wt::rest)) n [],pl9,false⟩,uS 16 (fSS "str.__eq__" st0 (sg1 91) false) [],uS 19 (fSS "str.__contains__" ws4 (sg1 91) false) [],uS 21 (fSS "str.__eq__" (sg1 91) qt1 false) [],uS 23 (fSS "str.__eq__" (sg1 91) bs1 true) [],⟨24,fRC (Pw w true b2) l (sg1 c) t2 (U.vs us (sv wc wt::rest)) n [],pl9,false⟩,uS 26 (fAdd st0 (sg1 c)) [],⟨29,fCg (Pw w true b2) l us wc wt rest n n' [] (st0++sg1 c),pl12g,false⟩] [] (fun _ _ sg j=>sg 8 (j+2))
    ⟨fLenL_ok rfl (Nat.zero_le _),(fRC_ok w true b2 l _ t (sv c t2::U.vs us (sv wc wt::rest)) n [] hl (by decide)).mono le84,str_eq_ok rfl,str_in_ok (by decide +kernel),str_eq_ok (by decide),str_eq_ok (by decide),(fRC_ok w true b2 l _ t2 (U.vs us (sv wc wt::rest)) n [] (lt_s1 hl) u).mono le84,fAdd_ok ha,hC true,trivial⟩
theorem kGTq_ok (w:World) (b1 b2:Bool) (l:LA) (t:Tok) (us:List U) (qt:Tok) (rest:List Value) (ep:Nat) (n:Int) (tn:Tok) (epb:Nat)
  (hl:(U.vs us (sv 33 qt::rest)).length+0<sizeLine) (hC:∀ b1,(fBg (Pw w b1 b2) l us qt rest n [] st0).Ok2 w b1 b2 126) :
  (kGT (Pw w b1 b2) l (sv 33 t::U.vs us (sv 33 qt::rest)) ep n tn epb rest (U.ep us (ep+1)+1) n (U.gl us st0)).Ok2 w b1 b2 168:=by
 cases b1
 ·exact Con.of2 126 (hsGh++hsGq) [uS 2 (fLenL [] 0) [17],⟨14,fRC (Pw w false b2) l (sg1 33) t (U.vs us (sv 33 qt::rest)) n [],pl9,false⟩,uS 16 (fSS "str.__eq__" st0 (sg1 33) false) [],uS 19 (fSS "str.__contains__" ws4 (sg1 33) false) [],uS 21 (fSS "str.__eq__" (sg1 33) qt1 true) [],⟨24,fBg (Pw w false b2) l us qt rest n [] st0,pl12g,false⟩] [] (fun _ _ sg j=>sg 5 (j+2))
    ⟨fLenL_ok rfl (Nat.zero_le _),(fRC_ok w false b2 l _ t (U.vs us (sv 33 qt::rest)) n [] hl (by decide)).mono le84,str_eq_ok rfl,str_in_ok (by decide +kernel),str_eq_ok (by decide),hC false,trivial⟩
 ·exact Con.of2 126 (hsGh++hsGq) [uS 2 (fLenL [] 0) [17],⟨14,fRC (Pw w true b2) l (sg1 33) t (U.vs us (sv 33 qt::rest)) n [],pl9,false⟩,uS 16 (fSS "str.__eq__" st0 (sg1 33) false) [],uS 19 (fSS "str.__contains__" ws4 (sg1 33) false) [],uS 21 (fSS "str.__eq__" (sg1 33) qt1 true) [],⟨24,fBg (Pw w true b2) l us qt rest n [] st0,pl12g,false⟩] [] (fun _ _ sg j=>sg 5 (j+2))
    ⟨fLenL_ok rfl (Nat.zero_le _),(fRC_ok w true b2 l _ t (U.vs us (sv 33 qt::rest)) n [] hl (by decide)).mono le84,str_eq_ok rfl,str_in_ok (by decide +kernel),str_eq_ok (by decide),hC true,trivial⟩
theorem kGTbpl_ok (w:World) (b1 b2:Bool) (l:LA) (bc:Nat) (bt:Tok) (c:Nat) (t:Tok) (us:List U) (wc:Nat) (wt:Tok) (rest:List Value) (ep:Nat) (n n1 n':Int) (tn:Tok) (epb:Nat)
  (hb:(!(Builtin.Str.occurrences ws4 (sg1 bc) 0 ws4.length 1).isEmpty)=true) (hbn:((sg1 bc).cps.toList==nl1.cps.toList)=false∧n1=n∨((sg1 bc).cps.toList==nl1.cps.toList)=true∧n1=n+1) (u:(U.pl c t).ok) (u':(U.pl c t).okB) (hl:(U.vs us (sv wc wt::rest)).length+1<sizeLine) (ha:(st0++sg1 c).length≤sizeLine) (hC:∀ b1,(fCg (Pw w b1 b2) l us wc wt rest n1 n' [] (st0++sg1 c)).Ok2 w b1 b2 126) :
  (kGT (Pw w b1 b2) l (sv bc bt::sv c t::U.vs us (sv wc wt::rest)) ep n tn epb rest (U.ep us ((ep+1)+1)+1) n' (U.gl us (st0++sg1 c))).Ok2 w b1 b2 168:=by
 obtain ⟨u1,u2,u3⟩:=u
 obtain ⟨u4,_,_⟩:=u'
 cases b1
 ·exact Con.of2 126 (hsGh++hsGb++hsGp) [uS 2 (fLenL [] 0) [17],⟨14,fRCx (Pw w false b2) l (sg1 bc) bt (sv c t::U.vs us (sv wc wt::rest)) n n1 [],pl9,false⟩,uS 16 (fSS "str.__eq__" st0 (sg1 bc) false) [],uS 19 (fSS "str.__contains__" ws4 (sg1 bc) true) [],⟨24,fRC (Pw w false b2) l (sg1 c) t (U.vs us (sv wc wt::rest)) n1 [],pl9,false⟩,uS 26 (fSS "str.__eq__" st0 (sg1 c) false) [],uS 29 (fSS "str.__contains__" ws4 (sg1 c) false) [],uS 31 (fSS "str.__eq__" (sg1 c) qt1 false) [],uS 33 (fSS "str.__eq__" (sg1 c) bs1 false) [],uS 35 (fAdd st0 (sg1 c)) [],⟨38,fCg (Pw w false b2) l us wc wt rest n1 n' [] (st0++sg1 c),pl12g,false⟩] [] (fun _ _ sg j=>sg 10 (j+2))
    ⟨fLenL_ok rfl (Nat.zero_le _),(fam1_ok fun _ os=>kRCx_ok w false b2 l _ bt (sv c t::U.vs us (sv wc wt::rest)) _ n n1 _ [] _ hl hbn).mono le84,str_eq_ok rfl,str_in_ok hb,(fRC_ok w false b2 l _ t (U.vs us (sv wc wt::rest)) n1 [] (lt_s1 hl) u3).mono le84,str_eq_ok rfl,str_in_ok u1,str_eq_ok u4,str_eq_ok u2,fAdd_ok ha,hC false,trivial⟩
 ·exact Con.of2 126 (hsGh++hsGb++hsGp) [uS 2 (fLenL [] 0) [17],⟨14,fRCx (Pw w true b2) l (sg1 bc) bt (sv c t::U.vs us (sv wc wt::rest)) n n1 [],pl9,false⟩,uS 16 (fSS "str.__eq__" st0 (sg1 bc) false) [],uS 19 (fSS "str.__contains__" ws4 (sg1 bc) true) [],⟨24,fRC (Pw w true b2) l (sg1 c) t (U.vs us (sv wc wt::rest)) n1 [],pl9,false⟩,uS 26 (fSS "str.__eq__" st0 (sg1 c) false) [],uS 29 (fSS "str.__contains__" ws4 (sg1 c) false) [],uS 31 (fSS "str.__eq__" (sg1 c) qt1 false) [],uS 33 (fSS "str.__eq__" (sg1 c) bs1 false) [],uS 35 (fAdd st0 (sg1 c)) [],⟨38,fCg (Pw w true b2) l us wc wt rest n1 n' [] (st0++sg1 c),pl12g,false⟩] [] (fun _ _ sg j=>sg 10 (j+2))
    ⟨fLenL_ok rfl (Nat.zero_le _),(fam1_ok fun _ os=>kRCx_ok w true b2 l _ bt (sv c t::U.vs us (sv wc wt::rest)) _ n n1 _ [] _ hl hbn).mono le84,str_eq_ok rfl,str_in_ok hb,(fRC_ok w true b2 l _ t (U.vs us (sv wc wt::rest)) n1 [] (lt_s1 hl) u3).mono le84,str_eq_ok rfl,str_in_ok u1,str_eq_ok u4,str_eq_ok u2,fAdd_ok ha,hC true,trivial⟩
theorem kGTbes_ok (w:World) (b1 b2:Bool) (l:LA) (bc:Nat) (bt:Tok) (t:Tok) (c:Nat) (t2:Tok) (us:List U) (wc:Nat) (wt:Tok) (rest:List Value) (ep:Nat) (n n1 n':Int) (tn:Tok) (epb:Nat)
  (hb:(!(Builtin.Str.occurrences ws4 (sg1 bc) 0 ws4.length 1).isEmpty)=true) (hbn:((sg1 bc).cps.toList==nl1.cps.toList)=false∧n1=n∨((sg1 bc).cps.toList==nl1.cps.toList)=true∧n1=n+1) (u:(U.es t c t2).ok) (hl:(U.vs us (sv wc wt::rest)).length+2<sizeLine) (ha:(st0++sg1 c).length≤sizeLine) (hC:∀ b1,(fCg (Pw w b1 b2) l us wc wt rest n1 n' [] (st0++sg1 c)).Ok2 w b1 b2 126) :
  (kGT (Pw w b1 b2) l (sv bc bt::sv 91 t::sv c t2::U.vs us (sv wc wt::rest)) ep n tn epb rest (U.ep us (((ep+1)+1)+1)+1) n' (U.gl us (st0++sg1 c))).Ok2 w b1 b2 168:=by
 cases b1
 ·exact Con.of2 126 (hsGh++hsGb++hsGe) [uS 2 (fLenL [] 0) [17],⟨14,fRCx (Pw w false b2) l (sg1 bc) bt (sv 91 t::sv c t2::U.vs us (sv wc wt::rest)) n n1 [],pl9,false⟩,uS 16 (fSS "str.__eq__" st0 (sg1 bc) false) [],uS 19 (fSS "str.__contains__" ws4 (sg1 bc) true) [],⟨24,fRC (Pw w false b2) l (sg1 91) t (sv c t2::U.vs us (sv wc wt::rest)) n1 [],pl9,false⟩,uS 26 (fSS "str.__eq__" st0 (sg1 91) false) [],uS 29 (fSS "str.__contains__" ws4 (sg1 91) false) [],uS 31 (fSS "str.__eq__" (sg1 91) qt1 false) [],uS 33 (fSS "str.__eq__" (sg1 91) bs1 true) [],⟨34,fRC (Pw w false b2) l (sg1 c) t2 (U.vs us (sv wc wt::rest)) n1 [],pl9,false⟩,uS 36 (fAdd st0 (sg1 c)) [],⟨39,fCg (Pw w false b2) l us wc wt rest n1 n' [] (st0++sg1 c),pl12g,false⟩] [] (fun _ _ sg j=>sg 11 (j+2))
    ⟨fLenL_ok rfl (Nat.zero_le _),(fam1_ok fun _ os=>kRCx_ok w false b2 l _ bt (sv 91 t::sv c t2::U.vs us (sv wc wt::rest)) _ n n1 _ [] _ hl hbn).mono le84,str_eq_ok rfl,str_in_ok hb,(fRC_ok w false b2 l _ t (sv c t2::U.vs us (sv wc wt::rest)) n1 [] (lt_s2 hl) (by decide)).mono le84,str_eq_ok rfl,str_in_ok (by decide +kernel),str_eq_ok (by decide),str_eq_ok (by decide),(fRC_ok w false b2 l _ t2 (U.vs us (sv wc wt::rest)) n1 [] (lt_s1 (lt_s2 hl)) u).mono le84,fAdd_ok ha,hC false,trivial⟩
 ·exact Con.of2 126 (hsGh++hsGb++hsGe) [uS 2 (fLenL [] 0) [17],⟨14,fRCx (Pw w true b2) l (sg1 bc) bt (sv 91 t::sv c t2::U.vs us (sv wc wt::rest)) n n1 [],pl9,false⟩,uS 16 (fSS "str.__eq__" st0 (sg1 bc) false) [],uS 19 (fSS "str.__contains__" ws4 (sg1 bc) true) [],⟨24,fRC (Pw w true b2) l (sg1 91) t (sv c t2::U.vs us (sv wc wt::rest)) n1 [],pl9,false⟩,uS 26 (fSS "str.__eq__" st0 (sg1 91) false) [],uS 29 (fSS "str.__contains__" ws4 (sg1 91) false) [],uS 31 (fSS "str.__eq__" (sg1 91) qt1 false) [],uS 33 (fSS "str.__eq__" (sg1 91) bs1 true) [],⟨34,fRC (Pw w true b2) l (sg1 c) t2 (U.vs us (sv wc wt::rest)) n1 [],pl9,false⟩,uS 36 (fAdd st0 (sg1 c)) [],⟨39,fCg (Pw w true b2) l us wc wt rest n1 n' [] (st0++sg1 c),pl12g,false⟩] [] (fun _ _ sg j=>sg 11 (j+2))
    ⟨fLenL_ok rfl (Nat.zero_le _),(fam1_ok fun _ os=>kRCx_ok w true b2 l _ bt (sv 91 t::sv c t2::U.vs us (sv wc wt::rest)) _ n n1 _ [] _ hl hbn).mono le84,str_eq_ok rfl,str_in_ok hb,(fRC_ok w true b2 l _ t (sv c t2::U.vs us (sv wc wt::rest)) n1 [] (lt_s2 hl) (by decide)).mono le84,str_eq_ok rfl,str_in_ok (by decide +kernel),str_eq_ok (by decide),str_eq_ok (by decide),(fRC_ok w true b2 l _ t2 (U.vs us (sv wc wt::rest)) n1 [] (lt_s1 (lt_s2 hl)) u).mono le84,fAdd_ok ha,hC true,trivial⟩
theorem kGTbq_ok (w:World) (b1 b2:Bool) (l:LA) (bc:Nat) (bt:Tok) (t:Tok) (us:List U) (qt:Tok) (rest:List Value) (ep:Nat) (n n1:Int) (tn:Tok) (epb:Nat)
  (hb:(!(Builtin.Str.occurrences ws4 (sg1 bc) 0 ws4.length 1).isEmpty)=true) (hbn:((sg1 bc).cps.toList==nl1.cps.toList)=false∧n1=n∨((sg1 bc).cps.toList==nl1.cps.toList)=true∧n1=n+1) (hl:(U.vs us (sv 33 qt::rest)).length+1<sizeLine) (hC:∀ b1,(fBg (Pw w b1 b2) l us qt rest n1 [] st0).Ok2 w b1 b2 126) :
  (kGT (Pw w b1 b2) l (sv bc bt::sv 33 t::U.vs us (sv 33 qt::rest)) ep n tn epb rest (U.ep us ((ep+1)+1)+1) n1 (U.gl us st0)).Ok2 w b1 b2 168:=by
 cases b1
 ·exact Con.of2 126 (hsGh++hsGb++hsGq) [uS 2 (fLenL [] 0) [17],⟨14,fRCx (Pw w false b2) l (sg1 bc) bt (sv 33 t::U.vs us (sv 33 qt::rest)) n n1 [],pl9,false⟩,uS 16 (fSS "str.__eq__" st0 (sg1 bc) false) [],uS 19 (fSS "str.__contains__" ws4 (sg1 bc) true) [],⟨24,fRC (Pw w false b2) l (sg1 33) t (U.vs us (sv 33 qt::rest)) n1 [],pl9,false⟩,uS 26 (fSS "str.__eq__" st0 (sg1 33) false) [],uS 29 (fSS "str.__contains__" ws4 (sg1 33) false) [],uS 31 (fSS "str.__eq__" (sg1 33) qt1 true) [],⟨34,fBg (Pw w false b2) l us qt rest n1 [] st0,pl12g,false⟩] [] (fun _ _ sg j=>sg 8 (j+2))
    ⟨fLenL_ok rfl (Nat.zero_le _),(fam1_ok fun _ os=>kRCx_ok w false b2 l _ bt (sv 33 t::U.vs us (sv 33 qt::rest)) _ n n1 _ [] _ hl hbn).mono le84,str_eq_ok rfl,str_in_ok hb,(fRC_ok w false b2 l _ t (U.vs us (sv 33 qt::rest)) n1 [] (lt_s1 hl) (by decide)).mono le84,str_eq_ok rfl,str_in_ok (by decide +kernel),str_eq_ok (by decide),hC false,trivial⟩
 ·exact Con.of2 126 (hsGh++hsGb++hsGq) [uS 2 (fLenL [] 0) [17],⟨14,fRCx (Pw w true b2) l (sg1 bc) bt (sv 33 t::U.vs us (sv 33 qt::rest)) n n1 [],pl9,false⟩,uS 16 (fSS "str.__eq__" st0 (sg1 bc) false) [],uS 19 (fSS "str.__contains__" ws4 (sg1 bc) true) [],⟨24,fRC (Pw w true b2) l (sg1 33) t (U.vs us (sv 33 qt::rest)) n1 [],pl9,false⟩,uS 26 (fSS "str.__eq__" st0 (sg1 33) false) [],uS 29 (fSS "str.__contains__" ws4 (sg1 33) false) [],uS 31 (fSS "str.__eq__" (sg1 33) qt1 true) [],⟨34,fBg (Pw w true b2) l us qt rest n1 [] st0,pl12g,false⟩] [] (fun _ _ sg j=>sg 8 (j+2))
    ⟨fLenL_ok rfl (Nat.zero_le _),(fam1_ok fun _ os=>kRCx_ok w true b2 l _ bt (sv 33 t::U.vs us (sv 33 qt::rest)) _ n n1 _ [] _ hl hbn).mono le84,str_eq_ok rfl,str_in_ok hb,(fRC_ok w true b2 l _ t (U.vs us (sv 33 qt::rest)) n1 [] (lt_s1 hl) (by decide)).mono le84,str_eq_ok rfl,str_in_ok (by decide +kernel),str_eq_ok (by decide),hC true,trivial⟩
end Mine
namespace Mine
noncomputable def kGP (P:Params) (l:LA) (ss:List Value) (ep:Nat) (n:Int) (tn:Tok) (x:Str) (tx:Tok) (pb:List Value) (epb:Nat):Con :=
 ⟨.call (.ref 147) ⟨[.ref l.X],[]⟩,lexNeed P l ss ep n tn (.str x tx::pb) epb,fun _=>(lexNeed P l ss ep n tn pb (epb+1)).map (·.2),fun _=>[],fun _=>.ok (.ret (.str x tx))⟩
noncomputable def hsGP:List Nat:=hD 37 0x114514513c034d00000d00000d09144f00d340000340000342082000
theorem kGP_ok (w:World) (b1 b2:Bool) (l:LA) (ss:List Value) (ep:Nat) (n:Int) (tn:Tok) (x:Str) (tx:Tok) (pb:List Value) (epb:Nat) (h:pb.length<sizeLine) :
  (kGP (Pw w b1 b2) l ss ep n tn x tx pb epb).Ok2 w b1 b2 42:=by
 exact Con.of2b 0 hsGP [uS 2 (fLenL (.str x tx::pb) (pb.length+1:Nat)) [17],uS 5 (fPop0 (.str x tx) pb) [17]] [] (fun _ _ _ _=>0) ⟨fLenL_ok rfl h,fPop0_ok h,trivial⟩
noncomputable def kPT (P:Params) (l:LA) (ss:List Value) (ep:Nat) (n:Int) (tn:Tok) (x:Str) (tx:Tok) (pb:List Value) (epb:Nat):Con :=
 ⟨.call (.ref 154) ⟨[.ref l.X,.str x tx],[]⟩,lexNeed P l ss ep n tn pb epb,fun _=>(lexNeed P l ss ep n tn (pb.concat (.str x tx)) (epb+1)).map (·.2),fun _=>[],fun _=>.ok (.ret .none)⟩
noncomputable def hsPT:List Nat:=hD 25 0x1109145144f00d340000340000342082082000
theorem kPT_ok (w:World) (b1 b2:Bool) (l:LA) (ss:List Value) (ep:Nat) (n:Int) (tn:Tok) (x:Str) (tx:Tok) (pb:List Value) (epb:Nat) (h:pb.length≤sizeLine) :
  (kPT (Pw w b1 b2) l ss ep n tn x tx pb epb).Ok2 w b1 b2 42:=by
 exact Con.of2b 0 hsPT [uS 3 (fAppend ⟨pb⟩) [17]] [] (fun _ _ _ _=>0) ⟨fAppend_ok h,trivial⟩
end Mine
namespace Mine
theorem codeAny_of_con {M:Model} {kt:Addr→Option Obj} {x:Nat} {C:Con} (h:C.Ok M kt x) {A:Around} {s:Shared} {R:Result→Shared→Prop} (hh:A.handled=none) (hd:A.depth+2*x<recursionLimit) (hu:A.units+4*x<cLine)
  (hlim:s.heap.NoLimit) (hkt:∀ a o,kt a=some o→s.heap.get? a=some o) (hneed:∀ q∈C.need,s.heap.get? q.1=some q.2) (hkn:∀ q∈C.need,kt q.1=none) (hnd:(C.need.map (·.1)).Nodup)
  (hR:∀ xs s',After C s xs s'→R (C.res xs) s'):codeAny M A C.c R s:=by
 intro Γ p hc hb
 refine h Γ p s R hc ⟨hb.1.trans hh,?_,?_⟩ hlim hkt hneed hkn hnd hR
 ·have:=hb.2.1; omega
 ·have:=hb.2.2.2.2; omega
noncomputable def itNeed (P:Params) (l:LA) (BM F:Addr) (ts:Tok) (ep:Nat) (n:Int) (tn:Tok) (pb:List Value) (epb:Nat):List (Addr×Obj) :=
 lexNeed P l [] ep n tn pb epb++[(BM,{cls:=.type "method",data:=.fields ⟨[.ref 140,.ref l.X]⟩}),(F,{cls:=.type "callable_iterator",data:=.fields ⟨[.ref BM,.str st0 ts,.bool false]⟩})]
noncomputable def kMe (P:Params) (l:LA) (BM F:Addr) (ts:Tok) (ep:Nat) (n:Int) (tn:Tok) (pb:List Value) (epb:Nat):Con :=
 ⟨.call (.ref BM) ⟨[],[]⟩,itNeed P l BM F ts ep n tn pb epb,fun _=>(itNeed P l BM F ts ep n tn pb epb).map (·.2),fun _=>[],fun xs=>.ok (.ret (.str st0 (xs 0)))⟩
noncomputable def fRCe (P:Params) (l:LA) (n:Int) (pb:List Value):Fam:=fam1 fun _ os=>kRCe P l (epN os 3) n (tokV (slotN os 7 0)) pb (epN os 8)
theorem kMe_ok (w:World) (b1 b2:Bool) (l:LA) (BM F:Addr) (ts:Tok) (ep:Nat) (n:Int) (tn:Tok) (pb:List Value) (epb:Nat) :
  (kMe (Pw w b1 b2) l BM F ts ep n tn pb epb).Ok2 w b1 b2 126:=by
 exact Con.of2b 84 [19] [⟨0,fRCe (Pw w b1 b2) l n pb,pl9,false⟩] [] (fun _ _ sg _=>sg 0 2) ⟨fam1_ok fun _ os=>kRCe_ok w b1 b2 l _ n _ pb _,trivial⟩
theorem kt140 (w:World) (b1 b2:Bool):Kt w b1 b2 140=some {cls:=.type "function",data:=.func (fdOf (Pw w b1 b2) 140)}:=by kernel_rfl
end Mine
namespace Mine
open PySem.Sem (wp)
theorem wpAny_callNode {α:Type} {M:Model} {A:Around} {E:Value→Shared→Prop} {s:Shared} {c:Code} {own:Bool} {l:List Value} {k:Result→Sem α} {Q:α→Shared→Prop}
  (hc:codeAny M A c (fun r s'=>wpAny M A (k r) Q E s') s):wpAny M A (Sem.call c none own l k) Q E s:=fun Γ p hΓ=>by
 show wpCode M (Γ.enter c none p) (fun r s'=>wp M Γ (k r) _ _ p s') p s
 exact wpCode_mono (fun r s' h=>h Γ p hΓ) (hc _ p rfl (hΓ.enter c none p (by intro x; cases x)))
theorem entry_ci_next:entryFor table "callable_iterator.__next__"=some Builtin.«callable_iterator.__next__»:=entryFor_of_tree (by kernel_rfl)
noncomputable def itNeedE (P:Params) (l:LA) (BM I:Addr) (ep:Nat) (n:Int) (tn:Tok) (pb:List Value) (epb:Nat):List (Addr×Obj) :=
 lexNeed P l [] ep n tn pb epb++[(BM,{cls:=.type "method",data:=.fields ⟨[.ref 140,.ref l.X]⟩}),(I,{cls:=.type "callable_iterator",data:=.fields ⟨[.none,.none,.bool true]⟩})]
noncomputable def kNE (P:Params) (l:LA) (BM I:Addr) (ts:Tok) (ep:Nat) (n:Int) (tn:Tok) (pb:List Value) (epb:Nat):Con :=
 ⟨.builtin "callable_iterator.__next__" ⟨[.ref I],[]⟩,itNeed P l BM I ts ep n tn pb epb,fun _=>(itNeedE P l BM I ep n tn pb epb).map (·.2),
  fun xs=>[(xs 1,{cls:=.type "StopIteration",data:=.fields ⟨[.ref (xs 0),.none,.none,.none,.bool false,.none]⟩}),(xs 0,{cls:=.type "tuple",data:=.seq ⟨[]⟩ 0})],fun xs=>.error (.ref (xs 1))⟩
end Mine
namespace Mine
theorem After.then_one {C C':Con} {s s' s'':Shared} {xs ys:Nat→Nat} {L:List (Addr×Obj)} {I:Addr} {oI oI':Obj} (hC:C.need=L++[(I,oI)]) (hC':C'.need=L++[(I,oI)]) (hg:C.give xs=(L++[(I,oI)]).map (·.2)) (hg':C'.give ys=(L++[(I,oI')]).map (·.2))
  (ha:After C s xs s') (hnd:(C'.need.map (·.1)).Nodup) (ho:∀ b o,b≠I→s'.heap.get? b=some o→s''.heap.get? b=some o) (hI:s''.heap.get? I=some oI') (hn:∀ q∈C'.new ys,s''.heap.get? q.1=some q.2∧s'.heap.objs.size≤q.1) (hnn:((C'.new ys).map (·.1)).Nodup)
  (g:s''.gens=s'.gens) (d:s''.drawn=s'.drawn) (os:s''.os=s'.os) (hz:s'.heap.objs.size≤s''.heap.objs.size):After C' s ys s'':=by
 rw [hC'] at hnd
 have hne:∀ q∈L,q.1≠I:=by
  intro q hq e
  rw [List.map_append,List.nodup_append] at hnd
  exact hnd.2.2 q.1 (List.mem_map.mpr ⟨q,hq,rfl⟩) I (.head _) e
 constructor
 ·intro b o e m
  refine ho b o (fun q=>m ?_) (ha.keep b o e (by rw [hC]; rw [hC'] at m; exact m))
  rw [hC',q]; simp
 ·rw [hg',hC']; simp
 ·intro q hq
  rw [hg',hC'] at hq
  have e1:(L++[(I,oI)]).map (·.1)=(L++[(I,oI')]).map (·.1):=by simp
  rw [e1] at hq
  rcases List.mem_append.mp (mem_zip_map hq) with m | m
  ·refine ho _ _ (hne q m) (ha.give q ?_)
   rw [hg,hC]
   have:∀ {l:List (Addr×Obj)},q∈l→q∈(l.map (·.1)).zip (l.map (·.2)):=by
    intro l hl
    induction l with
    | nil=>cases hl
    | cons a l ih =>
     rcases List.mem_cons.mp hl with rfl | h
     ·exact .head _
     ·exact .tail _ (ih h)
   exact this (List.mem_append_left _ m)
  ·have:=List.mem_singleton.mp m
   subst this
   exact hI
 ·intro q hq; obtain ⟨a,b⟩:=hn q hq; exact ⟨a,Nat.le_trans ha.size b⟩
 ·exact hnn
 ·rw [g]; exact ha.gens
 ·exact d.trans ha.drawn
 ·exact os.trans ha.os
 ·exact Nat.le_trans ha.size hz
end Mine
namespace Mine
theorem kNE_ok (w:World) (b1 b2:Bool) (l:LA) (BM I:Addr) (ts:Tok) (ep:Nat) (n:Int) (tn:Tok) (pb:List Value) (epb:Nat) :
  (kNE (Pw w b1 b2) l BM I ts ep n tn pb epb).Ok2 w b1 b2 127:=by
 refine Con.of_any fun A s R hh hd hu hlim hkt hneed hkn hnd hR=>?_
 have hBM:s.heap.get? BM=some {cls:=.type "method",data:=.fields ⟨[.ref 140,.ref l.X]⟩}:=hneed (BM,_) (by simp [kNE,itNeed])
 have hI:s.heap.get? I=some {cls:=.type "callable_iterator",data:=.fields ⟨[.ref BM,.str st0 ts,.bool false]⟩}:=hneed (I,_) (by simp [kNE,itNeed])
 have h140:=hkt 140 _ (kt140 w b1 b2)
 refine codeAny_builtin entry_ci_next ?_
 rw [Around.under_plainId (by decide +kernel)]
 unfold Builtin.«callable_iterator.__next__»
 have ht (R':Result→Shared→Prop) (h':∀ xs s'',After (kMe (Pw w b1 b2) l BM I ts ep n tn pb epb) s xs s''→R' (.ok (.ret (.str st0 (xs 0)))) s''):codeAny (Mo w b1 b2) A.in1 (.call (.ref BM) ⟨[],[]⟩) R' s :=
  codeAny_of_con (kMe_ok w b1 b2 l BM I ts ep n tn pb epb) hh (by show A.depth+2*126<recursionLimit; omega) (by show A.units+1+4*126<cLine; omega) hlim hkt hneed hkn hnd h'
 obtain ⟨hp,g,dd,tk,os⟩:=s
 wp_walk
 refine wpAny_callNode ?_
 refine ht _ ?_
 intro xs s' ha
 have hBM':s'.heap.get? BM=some {cls:=.type "method",data:=.fields ⟨[.ref 140,.ref l.X]⟩}:=ha.give (BM,_) (by simp [kMe,itNeed,lexNeed,lamNeed])
 have hI':s'.heap.get? I=some {cls:=.type "callable_iterator",data:=.fields ⟨[.ref BM,.str st0 ts,.bool false]⟩}:=ha.give (I,_) (by simp [kMe,itNeed,lexNeed,lamNeed])
 have h140':s'.heap.get? 140=_:=ha.keep 140 _ h140 (fun m=>by obtain ⟨q,hq,e⟩:=List.mem_map.mp m; have h1:=hkn q hq; rw [e,kt140] at h1; cases h1)
 obtain ⟨hp',g',dd',tk',os'⟩:=s'
 wp_walk
 show wpAny _ _ (eqBool (.str st0 ts) (.str st0 (xs 0))) _ _ _
 refine wpAny_eqBool_str ?_
 rw [decide_eq_true rfl]
 show wpAny _ _ (do
  rule "callable_iterator.__next__.sentinel"
  (do
    slotLetsGo "callable_iterator.__next__" (← field (.ref I) 0) fun | .builtin "callable_iterator.__next__" x=>x.pos.head?==some (.ref I) | _=>false
    setField (.ref I) 0 .none; setField (.ref I) 1 .none; setField (.ref I) 2 (.bool true))
  (Builtin.SmallTypes.stopIteration:Sem PySem.Fin)) _ _ _
 unfold Builtin.SmallTypes.stopIteration
 wp_walk
 refine wpAny_raiseNew_none hh ?_
 generalize hH:((hp'.update I (Obj.mapFields fun x=>x.setIfInBounds 0 Value.none)).update I (Obj.mapFields fun x=>x.setIfInBounds 1 Value.none)).update I (Obj.mapFields fun x=>x.setIfInBounds 2 (Value.bool true))=H
 have hHI:H.get? I=some {cls:=.type "callable_iterator",data:=.fields ⟨[.none,.none,.bool true]⟩}:=by
  subst hH
  exact Heap.get?_update_self _ (Heap.get?_update_self _ (Heap.get?_update_self _ hI' rfl) rfl) rfl
 have hHs:H.objs.size=hp'.objs.size:=by
  subst hH
  rw [(Heap.SameBut.update ..).1,(Heap.SameBut.update ..).1,(Heap.SameBut.update ..).1]
 have hHo:∀ b o,b≠I→hp'.get? b=some o→H.get? b=some o:=by
  subst hH
  intro b o hb e
  rw [(Heap.SameBut.update ..).2 b hb,(Heap.SameBut.update ..).2 b hb,(Heap.SameBut.update ..).2 b hb]; exact e
 refine hR (fun j=>match j with | 0=>H.objs.size | _=>(H.push {cls:=Value.type "tuple",data:=Data.seq #[]}).objs.size) _ ?_
 refine After.then_one (C:=kMe (Pw w b1 b2) l BM I ts ep n tn pb epb) (L:=lexNeed (Pw w b1 b2) l [] ep n tn pb epb++[(BM,{cls:=.type "method",data:=.fields ⟨[.ref 140,.ref l.X]⟩})]) (I:=I) rfl rfl rfl rfl ha hnd ?_ ?_ ?_ ?_ rfl rfl rfl ?_
 ·intro b o hb e
  exact Heap.get?_push_of_some _ (Heap.get?_push_of_some _ (hHo b o hb e))
 ·exact Heap.get?_push_of_some _ (Heap.get?_push_of_some _ hHI)
 ·intro q hq
  rcases List.mem_cons.mp hq with rfl | hq
  ·refine ⟨Heap.get?_push_size _ rfl,?_⟩
   show hp'.objs.size≤_
   simp [← hHs]
  ·have:=List.mem_singleton.mp hq
   subst this
   refine ⟨Heap.get?_push_of_some _ (Heap.get?_push_size _ rfl),?_⟩
   show hp'.objs.size≤H.objs.size
   rw [hHs]; exact Nat.le_refl _
 ·show [_,_].Nodup
  simp
 ·show hp'.objs.size≤_
  simp [← hHs]
  omega
end Mine
namespace Mine
noncomputable def fNE (P:Params) (l:LA) (n:Int) (pb:List Value):Fam:=fam1 fun _ os=>kNE P l (adN os 9) (adN os 10) (tokV (valN os 10 1)) (epN os 3) n (tokV (slotN os 7 0)) pb (epN os 8)
noncomputable def pl11g:List Nat:=hD 11 0x61113cd2c91c50c1
noncomputable def hsG0:List Nat:=hD 53 0x618618618208210000000f00d34000000000d00000d08000209144f00d340000340000342082000
theorem kGT0_ok (w:World) (b1 b2:Bool) (l:LA) (ep:Nat) (n:Int) (tn:Tok) (epb:Nat) :
  (kGT (Pw w b1 b2) l [] ep n tn epb [] ep n st0).Ok2 w b1 b2 169:=by
 exact Con.of2b 127 (hsG0++[10,2]) [uS 2 (fLenL [] 0) [17],⟨12,fNE (Pw w b1 b2) l n [],pl11g,false⟩] [] (fun _ _ sg j=>match j with | 0=>sg 0 1 | _=>tn)
  ⟨fLenL_ok rfl (Nat.zero_le _),fam1_ok fun _ os=>kNE_ok w b1 b2 l _ _ _ _ n _ [] _,trivial⟩
theorem kGT1_ok (w:World) (b1 b2:Bool) (l:LA) (bc:Nat) (bt:Tok) (ep:Nat) (n n1:Int) (tn:Tok) (epb:Nat)
  (hb:(!(Builtin.Str.occurrences ws4 (sg1 bc) 0 ws4.length 1).isEmpty)=true) (hbn:((sg1 bc).cps.toList==nl1.cps.toList)=false∧n1=n∨((sg1 bc).cps.toList==nl1.cps.toList)=true∧n1=n+1) :
  (kGT (Pw w b1 b2) l [sv bc bt] ep n tn epb [] (ep+1) n1 st0).Ok2 w b1 b2 169:=by
 exact Con.of2b 127 (hsGh++[6,6,10,2]) [uS 2 (fLenL [] 0) [17],⟨14,fRCx (Pw w b1 b2) l (sg1 bc) bt [] n n1 [],pl9,false⟩,uS 16 (fSS "str.__eq__" st0 (sg1 bc) false) [],uS 19 (fSS "str.__contains__" ws4 (sg1 bc) true) [],⟨22,fNE (Pw w b1 b2) l n1 [],pl11g,false⟩] [] (fun _ _ sg j=>match j with | 0=>sg 0 1 | _=>sg 1 2)
  ⟨fLenL_ok rfl (Nat.zero_le _),(fam1_ok fun _ os=>kRCx_ok w b1 b2 l _ bt [] _ n n1 _ [] _ (Nat.zero_lt_of_lt (by decide:1<2 ^ 24)) hbn).mono (by show 84≤127; decide),str_eq_ok rfl,str_in_ok hb,fam1_ok fun _ os=>kNE_ok w b1 b2 l _ _ _ _ n1 _ [] _,trivial⟩
end Mine
namespace Mine
noncomputable def pileD (P:Params) (ti t0:Tok) (ed:Nat):Obj:={cls:=.type "dict",data:=.dict ⟨[ent P "_initial_size" ti (.int 0 t0)]⟩ ed}
noncomputable def pileNeed (P:Params) (A D:Addr) (ti t0:Tok) (ed:Nat) (items:List Value) (ep:Nat):List (Addr×Obj) :=
 [(A+213,{cls:=.ref 115,dict:=some D,data:=.seq ⟨items⟩ ep}),(D,pileD P ti t0 ed)]
noncomputable def kPush (P:Params) (A D:Addr) (ti t0:Tok) (ed:Nat) (items:List Value) (ep:Nat) (x:Str) (tx:Tok) (y:Str) (ty:Tok):Con :=
 ⟨.call (.ref 59) ⟨[.ref (A+213),.str x tx,.str y ty],[]⟩,pileNeed P A D ti t0 ed items ep,fun xs=>(pileNeed P A D ti t0 ed (items.concat (.ref (xs 0))) (ep+1)).map (·.2),
  fun xs=>[(xs 0,{cls:=.type "tuple",data:=.seq ⟨[.str x tx,.str y ty]⟩ 0})],fun _=>.ok (.ret .none)⟩
noncomputable def hsPush:List Nat:=hD 27 0x42083040000040000040000042082082082000
theorem kPush_ok (w:World) (b1 b2:Bool) (A D:Addr) (ti t0:Tok) (ed:Nat) (items:List Value) (ep:Nat) (x:Str) (tx:Tok) (y:Str) (ty:Tok) (h:items.length≤sizeLine) :
  (kPush (Pw w b1 b2) A D ti t0 ed items ep x tx y ty).Ok2 w b1 b2 42:=by
 exact Con.of2b 0 hsPush [uS 2 (fAppend ⟨items⟩) [1]] [0] (fun N _ _ _=>N+213+1) ⟨fAppend_ok h,trivial⟩
end Mine
namespace Mine
noncomputable def kPop (P:Params) (A D:Addr) (ti t0:Tok) (ed:Nat) (items:List Value) (v:Addr) (ep:Nat):Con :=
 ⟨.call (.ref 75) ⟨[.ref (A+213)],[]⟩,pileNeed P A D ti t0 ed (items.concat (.ref v)) ep,fun _=>(pileNeed P A D ti t0 ed items (ep+1)).map (·.2),fun _=>[],fun _=>.ok (.ret (.ref v))⟩
noncomputable def hsPop:List Nat:=hD 58 0x2080010001861861861861861860010401861800040000000041000000c1000000040000040000042082000
noncomputable def hsPop2:List Nat:=hD 39 0x104004c30004000a28a28a28a28a28a28004100a28a000080000000
theorem kPop_ok (w:World) (b1 b2:Bool) (A D:Addr) (ti t0:Tok) (ed:Nat) (items:List Value) (v:Addr) (ep:Nat) (h:items.length<sizeLine) :
  (kPop (Pw w b1 b2) A D ti t0 ed items v ep).Ok2 w b1 b2 42:=by
 cases b1
 all_goals exact Con.of2 0 (hsPop++hsPop2) [uS 14 (fLLen ⟨items.concat (.ref v)⟩ (items.length+1:Nat)) [1],uS 28 (fPopL ⟨items⟩ (.ref v)) [1]] [] (fun _ _ _ _=>0) ⟨fLLen_ok (by simp),fPopL_ok h,trivial⟩
noncomputable def kPop0e (P:Params) (A D:Addr) (ti t0:Tok) (ed:Nat) (ep:Nat):Con :=
 ⟨.call (.ref 75) ⟨[.ref (A+213)],[]⟩,pileNeed P A D ti t0 ed [] ep,fun _=>(pileNeed P A D ti t0 ed [] ep).map (·.2),fun xs=>[(xs 0,tpO [.str st0 (xs 1),.str st0 (xs 2)])],fun xs=>.ok (.ret (.ref (xs 0)))⟩
theorem kPop0e_ok (w:World) (b1 b2:Bool) (A D:Addr) (ti t0:Tok) (ed:Nat) (ep:Nat) :
  (kPop0e (Pw w b1 b2) A D ti t0 ed ep).Ok2 w b1 b2 42:=by
 cases b1
 all_goals exact Con.of2 0 hsPop [uS 14 (fLLen ⟨[]⟩ 0) [1]] [0] (fun _ _ sg j=>match j with | 0=>sg 0 0+213 | 1=>sg 0 1+1 | _=>sg 0 1+2) ⟨fLLen_ok rfl,trivial⟩
end Mine
namespace Mine
noncomputable def rep (L c:Nat):List Nat:=match L with
 | 0=>[]
 | L+1=>(c+1)::rep L c
noncomputable def wd (L c:Nat):Str:=⟨⟨rep L c⟩⟩
structure Pc where
 a:Addr
 t0:Tok
 t:Tok
 L:Nat
 c:Nat
noncomputable def Pc.obj (p:Pc):Obj:=tpO [.str st0 p.t0,.str (wd p.L p.c) p.t]
noncomputable def pcV:List Pc→List Value
 | []=>[]
 | p::l=>.ref p.a::pcV l
noncomputable def pcN:List Pc→List (Addr×Obj)
 | []=>[]
 | p::l=>(p.a,p.obj)::pcN l
noncomputable def pcLen:List Pc→Nat
 | []=>0
 | p::l=>p.L+pcLen l
noncomputable def pcStr:List Pc→List Nat
 | []=>[]
 | p::l=>rep p.L p.c++pcStr l
noncomputable def tabO (a b:Int) (g:Addr):Obj:={cls:=.none,data:=.fields ⟨[.int a 0,.int b 0,.ref g]⟩}
noncomputable def tabE:Obj:={cls:=.none,data:=.fields ⟨[]⟩}
noncomputable def genO (q:String) (t0 t1:Tok) (rest:List Value):Obj:={cls:=.type "code",data:=.fields ⟨.str (Str.ofString "<genexpr>") t0::.str (Str.ofString q) t1::rest⟩}
noncomputable def qLen:String:="_Accumulator.__len__.<locals>.<genexpr>"
noncomputable def qStr:String:="_Accumulator.__str__.<locals>.<genexpr>"
structure Gc where
 g:Addr
 t0:Tok
 t1:Tok
 rest:List Value
noncomputable def lenNeed (P:Params) (A D:Addr) (ti t0:Tok) (ed ep:Nat) (G:Gc) (ps:List Pc):List (Addr×Obj) :=
 pileNeed P A D ti t0 ed (pcV ps) ep++(77,tabO 72 19 G.g)::(G.g,genO qLen G.t0 G.t1 G.rest)::pcN ps
noncomputable def kLen (P:Params) (A D:Addr) (ti t0:Tok) (ed ep:Nat) (G:Gc) (ps:List Pc):Con :=
 ⟨.call (.ref 82) ⟨[.ref (A+213)],[]⟩,lenNeed P A D ti t0 ed ep G ps,fun _=>(lenNeed P A D ti t0 ed ep G ps).map (·.2),fun _=>[],fun xs=>.ok (.ret (.int (pcLen ps:Nat) (xs 0)))⟩
noncomputable def strNeed (P:Params) (A D:Addr) (ti t0:Tok) (ed ep:Nat) (G:Gc) (ps:List Pc):List (Addr×Obj) :=
 pileNeed P A D ti t0 ed (pcV ps) ep++(84,tabO 75 32 G.g)::(G.g,genO qStr G.t0 G.t1 G.rest)::pcN ps
noncomputable def kStr (P:Params) (A D:Addr) (ti t0:Tok) (ed ep:Nat) (G:Gc) (ps:List Pc):Con :=
 ⟨.call (.ref 89) ⟨[.ref (A+213)],[]⟩,strNeed P A D ti t0 ed ep G ps,fun _=>(strNeed P A D ti t0 ed ep G ps).map (·.2),fun _=>[],fun xs=>.ok (.ret (.str ⟨⟨pcStr ps⟩⟩ (xs 0)))⟩
noncomputable def hsLen0f:List Nat:=hD 67 0x12384101104104104104000008208288208203001040000040040000000001086180005000100040000040000042000082000
noncomputable def hsLen0t:List Nat:=hD 63 0x12384101104104000008208288208203001040000040040000000001086180005000100040000040000042000082000
noncomputable def hsLen1f:List Nat:=hD 122 0x61410404410410000020820a28a28600018000618619030c24c30c30c30930c30c30c24c30c30c249249104101104104104104000008208288208203001040000040040000000001086180005000100040000040000042000082000
noncomputable def hsStr1f:List Nat:=hD 117 0xa69610404410410000020820a28a49218600618619030c24c30c30c30930c30c30c24c30c30c24924910410110410410410400000820828a28a28a208208208208288208208186000140004001000001000001080082000
noncomputable def hsLen1t:List Nat:=hD 118 0x61410404410410000020820a28a28600018000618619030c24c30c30c30930c30c30c24c30c30c249249104101104104000008208288208203001040000040040000000001086180005000100040000040000042000082000
noncomputable def hsStr1t:List Nat:=hD 113 0xa69610404410410000020820a28a49218600618619030c24c30c30c30930c30c30c24c30c30c24924910410110410400000820828a28a28a208208208208288208208186000140004001000001000001080082000
noncomputable def hsLen2f:List Nat:=hD 177 0x1e68410110410400000820828a28a18000600018618659248b4924924922d249249248b49249248b2cb2c410404410410000020820a28a28600018000618619030c24c30c30c30930c30c30c24c30c30c249249104101104104104104000008208288208203001040000040040000000001086180005000100040000040000042000082000
noncomputable def hsStr2f:List Nat:=hD 170 0x2a278410110410400000820828a29a68618018618661450b5145145142d451451450b51451450b2cb2c410404410410000020820a28a49218600618619030c24c30c30c30930c30c30c24c30c30c24924910410110410410410400000820828a28a28a208208208208288208208186000140004001000001000001080082000
noncomputable def hsLen2t:List Nat:=hD 173 0x1e68410110410400000820828a28a18000600018618659248b4924924922d249249248b49249248b2cb2c410404410410000020820a28a28600018000618619030c24c30c30c30930c30c30c24c30c30c249249104101104104000008208288208203001040000040040000000001086180005000100040000040000042000082000
noncomputable def hsStr2t:List Nat:=hD 166 0x2a278410110410400000820828a29a68618018618661450b5145145142d451451450b51451450b2cb2c410404410410000020820a28a49218600618619030c24c30c30c30930c30c30c24c30c30c24924910410110410400000820828a28a28a208208208208288208208186000140004001000001000001080082000
noncomputable def hsStr3f:List Nat:=hD 223 0xaaa610404410410000020820a28a8a21860061861a071c35c71c71c70d71c71c71c35c71c71c34d34d10410110410400000820828a29a68618018618661450b5145145142d451451450b51451450b2cb2c410404410410000020820a28a49218600618619030c24c30c30c30930c30c30c24c30c30c24924910410110410410410400000820828a28a28a208208208208288208208186000140004001000001000001080082000
noncomputable def hsStr3t:List Nat:=hD 219 0xaaa610404410410000020820a28a8a21860061861a071c35c71c71c70d71c71c71c35c71c71c34d34d10410110410400000820828a29a68618018618661450b5145145142d451451450b51451450b2cb2c410404410410000020820a28a49218600618619030c24c30c30c30930c30c30c24c30c30c24924910410110410400000820828a28a28a208208208208288208208186000140004001000001000001080082000
noncomputable def hsLenIf:List Nat:=hD 70 0x61410404410410410410000038e39038e38e0c004100000100100000000004230c000145145000100040000040000042000082000
noncomputable def hsStrIf:List Nat:=hD 120 0x42070410110410400000e38e41041860c30030c30c5924874924924921d24924924874924924871c71c410404410410410410000038e39041041040e38e38e38e39038e38e38c300005145140004001000001000001080082000
noncomputable def hsLenIt:List Nat:=hD 66 0x61410404410410000038e39038e38e0c004100000100100000000004230c000145145000100040000040000042000082000
noncomputable def hsStrIt:List Nat:=hD 116 0x42070410110410400000e38e41041860c30030c30c5924874924924921d24924924874924924871c71c410404410410000038e39041041040e38e38e38e39038e38e38c300005145140004001000001000001080082000
end Mine
namespace Mine
theorem kLen0_ok (w:World) (b1 b2:Bool) (A D:Addr) (ti tt:Tok) (ed ep:Nat) (G:Gc) :
  (kLen (Pw w b1 b2) A D ti tt ed ep G []).Ok2 w b1 b2 42:=by
 cases b1<;>cases b2
 ·exact Con.of2 0 hsLen0f [] [] (fun N T sg _=>T+5) trivial
 ·exact Con.of2 0 hsLen0t [] [] (fun N T sg _=>T+5) trivial
 ·exact Con.of2 0 hsLen0f [] [] (fun N T sg _=>T+5) trivial
 ·exact Con.of2 0 hsLen0t [] [] (fun N T sg _=>T+5) trivial
end Mine
namespace Mine
end Mine
namespace Mine
theorem kStr1_ok (w:World) (b1 b2:Bool) (A D:Addr) (ti tt:Tok) (ed ep:Nat) (G:Gc) (a0:Addr) (z0 t0:Tok) (c0:Nat) :
  (kStr (Pw w b1 b2) A D ti tt ed ep G [⟨a0,z0,t0,1,c0⟩]).Ok2 w b1 b2 42:=by
 cases b1<;>cases b2
 ·exact Con.of2 0 hsStr1f [] [] (fun N T sg _=>T+6) trivial
 ·exact Con.of2 0 hsStr1t [] [] (fun N T sg _=>T+6) trivial
 ·exact Con.of2 0 hsStr1f [] [] (fun N T sg _=>T+6) trivial
 ·exact Con.of2 0 hsStr1t [] [] (fun N T sg _=>T+6) trivial
end Mine
namespace Mine
theorem kLen2_ok (w:World) (b1 b2:Bool) (A D:Addr) (ti tt:Tok) (ed ep:Nat) (G:Gc) (a0:Addr) (z0 t0:Tok) (c0:Nat) :
  (kLen (Pw w b1 b2) A D ti tt ed ep G [⟨a0,z0,t0,2,c0⟩]).Ok2 w b1 b2 42:=by
 cases b1<;>cases b2
 ·exact Con.of2 0 hsLen1f [] [] (fun N T sg _=>T+13) trivial
 ·exact Con.of2 0 hsLen1t [] [] (fun N T sg _=>T+13) trivial
 ·exact Con.of2 0 hsLen1f [] [] (fun N T sg _=>T+13) trivial
 ·exact Con.of2 0 hsLen1t [] [] (fun N T sg _=>T+13) trivial
end Mine
namespace Mine
theorem kStr2_ok (w:World) (b1 b2:Bool) (A D:Addr) (ti tt:Tok) (ed ep:Nat) (G:Gc) (a0:Addr) (z0 t0:Tok) (c0:Nat) :
  (kStr (Pw w b1 b2) A D ti tt ed ep G [⟨a0,z0,t0,2,c0⟩]).Ok2 w b1 b2 42:=by
 cases b1<;>cases b2
 ·exact Con.of2 0 hsStr1f [] [] (fun N T sg _=>T+6) trivial
 ·exact Con.of2 0 hsStr1t [] [] (fun N T sg _=>T+6) trivial
 ·exact Con.of2 0 hsStr1f [] [] (fun N T sg _=>T+6) trivial
 ·exact Con.of2 0 hsStr1t [] [] (fun N T sg _=>T+6) trivial
end Mine
namespace Mine
theorem kLen3_ok (w:World) (b1 b2:Bool) (A D:Addr) (ti tt:Tok) (ed ep:Nat) (G:Gc) (a0:Addr) (z0 t0:Tok) (c0:Nat) :
  (kLen (Pw w b1 b2) A D ti tt ed ep G [⟨a0,z0,t0,3,c0⟩]).Ok2 w b1 b2 42:=by
 cases b1<;>cases b2
 ·exact Con.of2 0 hsLen1f [] [] (fun N T sg _=>T+13) trivial
 ·exact Con.of2 0 hsLen1t [] [] (fun N T sg _=>T+13) trivial
 ·exact Con.of2 0 hsLen1f [] [] (fun N T sg _=>T+13) trivial
 ·exact Con.of2 0 hsLen1t [] [] (fun N T sg _=>T+13) trivial
end Mine
namespace Mine
theorem kStr3_ok (w:World) (b1 b2:Bool) (A D:Addr) (ti tt:Tok) (ed ep:Nat) (G:Gc) (a0:Addr) (z0 t0:Tok) (c0:Nat) :
  (kStr (Pw w b1 b2) A D ti tt ed ep G [⟨a0,z0,t0,3,c0⟩]).Ok2 w b1 b2 42:=by
 cases b1<;>cases b2
 ·exact Con.of2 0 hsStr1f [] [] (fun N T sg _=>T+6) trivial
 ·exact Con.of2 0 hsStr1t [] [] (fun N T sg _=>T+6) trivial
 ·exact Con.of2 0 hsStr1f [] [] (fun N T sg _=>T+6) trivial
 ·exact Con.of2 0 hsStr1t [] [] (fun N T sg _=>T+6) trivial
end Mine
namespace Mine
end Mine
namespace Mine
theorem kStr21_ok (w:World) (b1 b2:Bool) (A D:Addr) (ti tt:Tok) (ed ep:Nat) (G:Gc) (a0:Addr) (z0 t0:Tok) (c0:Nat) (a1:Addr) (z1 t1:Tok) (c1:Nat) :
  (kStr (Pw w b1 b2) A D ti tt ed ep G [⟨a0,z0,t0,2,c0⟩,⟨a1,z1,t1,1,c1⟩]).Ok2 w b1 b2 42:=by
 cases b1<;>cases b2
 ·exact Con.of2 0 hsStr2f [] [] (fun N T sg _=>T+10) trivial
 ·exact Con.of2 0 hsStr2t [] [] (fun N T sg _=>T+10) trivial
 ·exact Con.of2 0 hsStr2f [] [] (fun N T sg _=>T+10) trivial
 ·exact Con.of2 0 hsStr2t [] [] (fun N T sg _=>T+10) trivial
end Mine
namespace Mine
end Mine
namespace Mine
theorem kStr31_ok (w:World) (b1 b2:Bool) (A D:Addr) (ti tt:Tok) (ed ep:Nat) (G:Gc) (a0:Addr) (z0 t0:Tok) (c0:Nat) (a1:Addr) (z1 t1:Tok) (c1:Nat) :
  (kStr (Pw w b1 b2) A D ti tt ed ep G [⟨a0,z0,t0,3,c0⟩,⟨a1,z1,t1,1,c1⟩]).Ok2 w b1 b2 42:=by
 cases b1<;>cases b2
 ·exact Con.of2 0 hsStr2f [] [] (fun N T sg _=>T+10) trivial
 ·exact Con.of2 0 hsStr2t [] [] (fun N T sg _=>T+10) trivial
 ·exact Con.of2 0 hsStr2f [] [] (fun N T sg _=>T+10) trivial
 ·exact Con.of2 0 hsStr2t [] [] (fun N T sg _=>T+10) trivial
end Mine
namespace Mine
theorem kLen32_ok (w:World) (b1 b2:Bool) (A D:Addr) (ti tt:Tok) (ed ep:Nat) (G:Gc) (a0:Addr) (z0 t0:Tok) (c0:Nat) (a1:Addr) (z1 t1:Tok) (c1:Nat) :
  (kLen (Pw w b1 b2) A D ti tt ed ep G [⟨a0,z0,t0,3,c0⟩,⟨a1,z1,t1,2,c1⟩]).Ok2 w b1 b2 42:=by
 cases b1<;>cases b2
 ·exact Con.of2 0 hsLen2f [] [] (fun N T sg _=>T+21) trivial
 ·exact Con.of2 0 hsLen2t [] [] (fun N T sg _=>T+21) trivial
 ·exact Con.of2 0 hsLen2f [] [] (fun N T sg _=>T+21) trivial
 ·exact Con.of2 0 hsLen2t [] [] (fun N T sg _=>T+21) trivial
end Mine
namespace Mine
theorem kStr32_ok (w:World) (b1 b2:Bool) (A D:Addr) (ti tt:Tok) (ed ep:Nat) (G:Gc) (a0:Addr) (z0 t0:Tok) (c0:Nat) (a1:Addr) (z1 t1:Tok) (c1:Nat) :
  (kStr (Pw w b1 b2) A D ti tt ed ep G [⟨a0,z0,t0,3,c0⟩,⟨a1,z1,t1,2,c1⟩]).Ok2 w b1 b2 42:=by
 cases b1<;>cases b2
 ·exact Con.of2 0 hsStr2f [] [] (fun N T sg _=>T+10) trivial
 ·exact Con.of2 0 hsStr2t [] [] (fun N T sg _=>T+10) trivial
 ·exact Con.of2 0 hsStr2f [] [] (fun N T sg _=>T+10) trivial
 ·exact Con.of2 0 hsStr2t [] [] (fun N T sg _=>T+10) trivial
end Mine
namespace Mine
end Mine
namespace Mine
theorem kStr321_ok (w:World) (b1 b2:Bool) (A D:Addr) (ti tt:Tok) (ed ep:Nat) (G:Gc) (a0:Addr) (z0 t0:Tok) (c0:Nat) (a1:Addr) (z1 t1:Tok) (c1:Nat) (a2:Addr) (z2 t2:Tok) (c2:Nat) :
  (kStr (Pw w b1 b2) A D ti tt ed ep G [⟨a0,z0,t0,3,c0⟩,⟨a1,z1,t1,2,c1⟩,⟨a2,z2,t2,1,c2⟩]).Ok2 w b1 b2 42:=by
 cases b1<;>cases b2
 ·exact Con.of2 0 hsStr3f [] [] (fun N T sg _=>T+13) trivial
 ·exact Con.of2 0 hsStr3t [] [] (fun N T sg _=>T+13) trivial
 ·exact Con.of2 0 hsStr3f [] [] (fun N T sg _=>T+13) trivial
 ·exact Con.of2 0 hsStr3t [] [] (fun N T sg _=>T+13) trivial
end Mine
namespace Mine
noncomputable def genRest (a b:Int) (xs:Nat→Nat):List Value :=
 [.str (Str.ofString "/claim/cut.py") (xs 3),.int a 0,.int 1 0,.int 0 0,.int 0 0,.int 51 0,.ref (xs 4),.bool true,.int 181 0,.ref (xs 5),.none,.none,.none,.none,.int (xs 6:Nat) 0,.int b 0,.str (Str.ofString "/claim/cut.py") (xs 7)]
noncomputable def kLenI (P:Params) (A D:Addr) (ti t0:Tok) (ed ep:Nat):Con :=
 ⟨.call (.ref 82) ⟨[.ref (A+213)],[]⟩,pileNeed P A D ti t0 ed [] ep++[(77,tabE)],fun xs=>(pileNeed P A D ti t0 ed [] ep).map (·.2)++[tabO 72 19 (xs 0)],
  fun xs=>[(xs 0,genO qLen (xs 1) (xs 2) (genRest 72 72 xs))],fun xs=>.ok (.ret (.int 0 (xs 8)))⟩
theorem kLenI_ok (w:World) (b1 b2:Bool) (A D:Addr) (ti t0:Tok) (ed ep:Nat):(kLenI (Pw w b1 b2) A D ti t0 ed ep).Ok2 w b1 b2 42:=by
 cases b1<;>cases b2
 ·exact Con.of2 0 hsLenIf [] [7] (fun N T sg j=>match j with | 0=>N+213+4 | 1=>T+1 | 2=>T+2 | 3=>T+3 | 4=>N+213+2 | 5=>N+213+3 | 6=>T+4 | 7=>T+5 | _=>T+10) trivial
 ·exact Con.of2 0 hsLenIt [] [7] (fun N T sg j=>match j with | 0=>N+213+4 | 1=>T+1 | 2=>T+2 | 3=>T+3 | 4=>N+213+2 | 5=>N+213+3 | 6=>T+4 | 7=>T+5 | _=>T+10) trivial
 ·exact Con.of2 0 hsLenIf [] [7] (fun N T sg j=>match j with | 0=>N+213+4 | 1=>T+1 | 2=>T+2 | 3=>T+3 | 4=>N+213+2 | 5=>N+213+3 | 6=>T+4 | 7=>T+5 | _=>T+10) trivial
 ·exact Con.of2 0 hsLenIt [] [7] (fun N T sg j=>match j with | 0=>N+213+4 | 1=>T+1 | 2=>T+2 | 3=>T+3 | 4=>N+213+2 | 5=>N+213+3 | 6=>T+4 | 7=>T+5 | _=>T+10) trivial
noncomputable def kStrI (P:Params) (A D:Addr) (ti t0:Tok) (ed ep:Nat) (q:Pc):Con :=
 ⟨.call (.ref 89) ⟨[.ref (A+213)],[]⟩,pileNeed P A D ti t0 ed [.ref q.a] ep++[(84,tabE),(q.a,q.obj)],fun xs=>(pileNeed P A D ti t0 ed [.ref q.a] ep).map (·.2)++[tabO 75 32 (xs 0),q.obj],
  fun xs=>[(xs 0,genO qStr (xs 1) (xs 2) (genRest 75 75 xs))],fun xs=>.ok (.ret (.str (wd q.L q.c) (xs 8)))⟩
noncomputable def pkI (N T:Nat) (j:Nat):Nat:=match j with | 0=>N+213+4 | 1=>T+1 | 2=>T+2 | 3=>T+3 | 4=>N+213+2 | 5=>N+213+3 | 6=>T+4 | 7=>T+5 | _=>T+11
theorem kStrI_ok1 (w:World) (b1 b2:Bool) (A D:Addr) (ti t0:Tok) (ed ep:Nat) (a:Addr) (z t:Tok) (c:Nat):(kStrI (Pw w b1 b2) A D ti t0 ed ep ⟨a,z,t,1,c⟩).Ok2 w b1 b2 42:=by
 cases b1<;>cases b2
 ·exact Con.of2 0 hsStrIf [] [11] (fun N T sg=>pkI N T) trivial
 ·exact Con.of2 0 hsStrIt [] [11] (fun N T sg=>pkI N T) trivial
 ·exact Con.of2 0 hsStrIf [] [11] (fun N T sg=>pkI N T) trivial
 ·exact Con.of2 0 hsStrIt [] [11] (fun N T sg=>pkI N T) trivial
theorem kStrI_ok2 (w:World) (b1 b2:Bool) (A D:Addr) (ti t0:Tok) (ed ep:Nat) (a:Addr) (z t:Tok) (c:Nat):(kStrI (Pw w b1 b2) A D ti t0 ed ep ⟨a,z,t,2,c⟩).Ok2 w b1 b2 42:=by
 cases b1<;>cases b2
 ·exact Con.of2 0 hsStrIf [] [11] (fun N T sg=>pkI N T) trivial
 ·exact Con.of2 0 hsStrIt [] [11] (fun N T sg=>pkI N T) trivial
 ·exact Con.of2 0 hsStrIf [] [11] (fun N T sg=>pkI N T) trivial
 ·exact Con.of2 0 hsStrIt [] [11] (fun N T sg=>pkI N T) trivial
theorem kStrI_ok3 (w:World) (b1 b2:Bool) (A D:Addr) (ti t0:Tok) (ed ep:Nat) (a:Addr) (z t:Tok) (c:Nat):(kStrI (Pw w b1 b2) A D ti t0 ed ep ⟨a,z,t,3,c⟩).Ok2 w b1 b2 42:=by
 cases b1<;>cases b2
 ·exact Con.of2 0 hsStrIf [] [11] (fun N T sg=>pkI N T) trivial
 ·exact Con.of2 0 hsStrIt [] [11] (fun N T sg=>pkI N T) trivial
 ·exact Con.of2 0 hsStrIf [] [11] (fun N T sg=>pkI N T) trivial
 ·exact Con.of2 0 hsStrIt [] [11] (fun N T sg=>pkI N T) trivial
end Mine
namespace Mine
open PySem.SeqAt PySem.Builtin PySem.Builtin.Str in
noncomputable def upS (a:Str):Str:=⟨placed a fun _ c=>PySem.Unicode.upperOf c⟩
section
variable {prog:Program} {w:World} {kt:Addr→Option Obj} {x:Nat}
theorem int_fdiv_ok {a b r:Int} (h:(b==0)=false) (hp:Builtin.divisionGoesByPylong a b=false) (e:a.fdiv b=r):(fIIi "int.__floordiv__" a b r).Ok (model prog w) kt x:=by
 subst e
 exact fIIi_ok (by decide +kernel) F.entry_int_floordiv (fun t u=>AutoIntG4.int___floordiv___int_int_1 a t b u (by simp [h]) (by simp [hp]))
end
noncomputable def kHouse (c:Nat) (tl:Tok) (n:Int) (tn:Tok) (r:Str):Con :=
 ⟨.call (.ref 175) ⟨[.str (sg1 c) tl,.int n tn],[]⟩,[],fun _=>[],fun _=>[],fun xs=>.ok (.ret (.str r (xs 0)))⟩
noncomputable def hsHo:List Nat:=hD 9 0x2082082082000
theorem kHouse_ok (w:World) (b1 b2:Bool) (c C:Nat) (tl:Tok) (n:Int) (tn:Tok) (r:Str) (hp:Builtin.divisionGoesByPylong n 3=false)
  (hC:sg1 C=upS (sg1 c)) (h:((n.fdiv 3).fmod 2=1∧(n.fmod 3=0∧r=wd 1 C∨n.fmod 3=1∧r=wd 2 C∨n.fmod 3=2∧r=wd 3 C))∨((n.fdiv 3).fmod 2=0∧(n.fmod 3=0∧r=wd 1 c∨n.fmod 3=1∧r=wd 2 c∨n.fmod 3=2∧r=wd 3 c))) :
  (kHouse c tl n tn r).Ok2 w b1 b2 42:=by
 cases b1<;>rcases h with ⟨h1,⟨h2,rfl⟩ | ⟨h2,rfl⟩ | ⟨h2,rfl⟩⟩ | ⟨h1,⟨h2,rfl⟩ | ⟨h2,rfl⟩ | ⟨h2,rfl⟩⟩
 ·exact Con.of2 0 hsHo [uS 2 (fIIi "int.__floordiv__" n 3 (n.fdiv 3)) [],uS 4 (fIIi "int.__mod__" (n.fdiv 3) 2 1) [],uS 8 (fCase "str.upper" (sg1 c) (sg1 C)) [],uS 10 (fIIi "int.__mod__" n 3 0) []] [] (fun _ _ sg _=>sg 2 2)
   ⟨int_fdiv_ok rfl hp rfl,int_mod_ok rfl h1,fUp_ok hC (by show 1≤sizeLine; rw [sizeLine_eq]; decide),int_mod_ok rfl h2,trivial⟩
 ·exact Con.of2 0 hsHo [uS 2 (fIIi "int.__floordiv__" n 3 (n.fdiv 3)) [],uS 4 (fIIi "int.__mod__" (n.fdiv 3) 2 1) [],uS 8 (fCase "str.upper" (sg1 c) (sg1 C)) [],uS 10 (fIIi "int.__mod__" n 3 1) []] [] (fun _ _ sg _=>sg 3 1+1)
   ⟨int_fdiv_ok rfl hp rfl,int_mod_ok rfl h1,fUp_ok hC (by show 1≤sizeLine; rw [sizeLine_eq]; decide),int_mod_ok rfl h2,trivial⟩
 ·exact Con.of2 0 hsHo [uS 2 (fIIi "int.__floordiv__" n 3 (n.fdiv 3)) [],uS 4 (fIIi "int.__mod__" (n.fdiv 3) 2 1) [],uS 8 (fCase "str.upper" (sg1 c) (sg1 C)) [],uS 10 (fIIi "int.__mod__" n 3 2) []] [] (fun _ _ sg _=>sg 3 1+1)
   ⟨int_fdiv_ok rfl hp rfl,int_mod_ok rfl h1,fUp_ok hC (by show 1≤sizeLine; rw [sizeLine_eq]; decide),int_mod_ok rfl h2,trivial⟩
 ·exact Con.of2 0 hsHo [uS 2 (fIIi "int.__floordiv__" n 3 (n.fdiv 3)) [],uS 4 (fIIi "int.__mod__" (n.fdiv 3) 2 0) [],uS 8 (fIIi "int.__mod__" n 3 0) []] [] (fun _ _ sg _=>tl)
   ⟨int_fdiv_ok rfl hp rfl,int_mod_ok rfl h1,int_mod_ok rfl h2,trivial⟩
 ·exact Con.of2 0 hsHo [uS 2 (fIIi "int.__floordiv__" n 3 (n.fdiv 3)) [],uS 4 (fIIi "int.__mod__" (n.fdiv 3) 2 0) [],uS 8 (fIIi "int.__mod__" n 3 1) []] [] (fun _ _ sg _=>sg 2 1+1)
   ⟨int_fdiv_ok rfl hp rfl,int_mod_ok rfl h1,int_mod_ok rfl h2,trivial⟩
 ·exact Con.of2 0 hsHo [uS 2 (fIIi "int.__floordiv__" n 3 (n.fdiv 3)) [],uS 4 (fIIi "int.__mod__" (n.fdiv 3) 2 0) [],uS 8 (fIIi "int.__mod__" n 3 2) []] [] (fun _ _ sg _=>sg 2 1+1)
   ⟨int_fdiv_ok rfl hp rfl,int_mod_ok rfl h1,int_mod_ok rfl h2,trivial⟩
 ·exact Con.of2 0 hsHo [uS 2 (fIIi "int.__floordiv__" n 3 (n.fdiv 3)) [],uS 4 (fIIi "int.__mod__" (n.fdiv 3) 2 1) [],uS 8 (fCase "str.upper" (sg1 c) (sg1 C)) [],uS 10 (fIIi "int.__mod__" n 3 0) []] [] (fun _ _ sg _=>sg 2 2)
   ⟨int_fdiv_ok rfl hp rfl,int_mod_ok rfl h1,fUp_ok hC (by show 1≤sizeLine; rw [sizeLine_eq]; decide),int_mod_ok rfl h2,trivial⟩
 ·exact Con.of2 0 hsHo [uS 2 (fIIi "int.__floordiv__" n 3 (n.fdiv 3)) [],uS 4 (fIIi "int.__mod__" (n.fdiv 3) 2 1) [],uS 8 (fCase "str.upper" (sg1 c) (sg1 C)) [],uS 10 (fIIi "int.__mod__" n 3 1) []] [] (fun _ _ sg _=>sg 3 1+1)
   ⟨int_fdiv_ok rfl hp rfl,int_mod_ok rfl h1,fUp_ok hC (by show 1≤sizeLine; rw [sizeLine_eq]; decide),int_mod_ok rfl h2,trivial⟩
 ·exact Con.of2 0 hsHo [uS 2 (fIIi "int.__floordiv__" n 3 (n.fdiv 3)) [],uS 4 (fIIi "int.__mod__" (n.fdiv 3) 2 1) [],uS 8 (fCase "str.upper" (sg1 c) (sg1 C)) [],uS 10 (fIIi "int.__mod__" n 3 2) []] [] (fun _ _ sg _=>sg 3 1+1)
   ⟨int_fdiv_ok rfl hp rfl,int_mod_ok rfl h1,fUp_ok hC (by show 1≤sizeLine; rw [sizeLine_eq]; decide),int_mod_ok rfl h2,trivial⟩
 ·exact Con.of2 0 hsHo [uS 2 (fIIi "int.__floordiv__" n 3 (n.fdiv 3)) [],uS 4 (fIIi "int.__mod__" (n.fdiv 3) 2 0) [],uS 8 (fIIi "int.__mod__" n 3 0) []] [] (fun _ _ sg _=>tl)
   ⟨int_fdiv_ok rfl hp rfl,int_mod_ok rfl h1,int_mod_ok rfl h2,trivial⟩
 ·exact Con.of2 0 hsHo [uS 2 (fIIi "int.__floordiv__" n 3 (n.fdiv 3)) [],uS 4 (fIIi "int.__mod__" (n.fdiv 3) 2 0) [],uS 8 (fIIi "int.__mod__" n 3 1) []] [] (fun _ _ sg _=>sg 2 1+1)
   ⟨int_fdiv_ok rfl hp rfl,int_mod_ok rfl h1,int_mod_ok rfl h2,trivial⟩
 ·exact Con.of2 0 hsHo [uS 2 (fIIi "int.__floordiv__" n 3 (n.fdiv 3)) [],uS 4 (fIIi "int.__mod__" (n.fdiv 3) 2 0) [],uS 8 (fIIi "int.__mod__" n 3 2) []] [] (fun _ _ sg _=>sg 2 1+1)
   ⟨int_fdiv_ok rfl hp rfl,int_mod_ok rfl h1,int_mod_ok rfl h2,trivial⟩
end Mine
namespace Mine
open PySem.Sem (wp)
section
variable {prog:Program} {w:World} {kt:Addr→Option Obj} {x:Nat}
noncomputable def kStrIter (y:Str) (t:Tok):Con:=⟨.builtin "str.__iter__" ⟨[.str y t],[]⟩,[],fun _=>[],fun xs=>[(xs 0,strIt y t 0 0)],fun xs=>.ok (.ret (.ref (xs 0)))⟩
theorem kStrIter_ok (y:Str) (t:Tok) (h:y.cps.all (·<128)=true):(kStrIter y t).Ok (model prog w) kt x:=by
 refine Con.of_any fun A s R hh _ _ _ _ hneed _ _ hR=>?_
 refine codeAny_builtin F.entry_str_iter ?_
 rw [Around.under_plainId (by decide +kernel)]
 unfold Builtin.«str.__iter__»
 have fin:=hR (fun _=>s.heap.objs.size) _ (After.push (tk:=s.toks) (o:=strIt y t 0 0) hneed rfl rfl rfl)
 obtain ⟨hp,g,dd,tk,os⟩:=s
 wp_walk
 simp only [h,Bool.and_true]
 exact fin
noncomputable def fStrIter (y:Str):Fam:=fam1 fun c _=>kStrIter y (argT c 0)
theorem fStrIter_ok {y:Str} (h:y.cps.all (·<128)=true):(fStrIter y).Ok (model prog w) kt x:=fam1_ok fun _ _=>kStrIter_ok _ _ h
end
end Mine
namespace Mine
noncomputable def esc (L c:Nat):List Nat:=match L with
 | 0=>[]
 | L+1=>92::(c+1)::esc L c
noncomputable def wr (f L c bl:Nat):List Nat:=match f with
 | 0=>rep L c++[bl]
 | 1=>34::(rep L c++[34,bl])
 | _=>esc L c++[bl]
noncomputable def blanks:Str:=Str.ofString " \t\r\n"
noncomputable def kWr (f L c bl:Nat) (tl:Tok) (n:Int) (tn:Tok):Con :=
 ⟨.call (.ref 180) ⟨[.str (wd L c) tl,.int n tn],[]⟩,[],fun _=>[],fun _=>[],fun xs=>.ok (.ret (.str ⟨⟨wr f L c bl⟩⟩ (xs 0)))⟩
noncomputable def hsW01f:List Nat:=hD 12 0x82082082082082000
noncomputable def hsW02f:List Nat:=hD 12 0x82082082082082000
noncomputable def hsW03f:List Nat:=hD 12 0x82082082082082000
noncomputable def hsW11f:List Nat:=hD 13 0x2082082082082082000
noncomputable def hsW12f:List Nat:=hD 13 0x2082082082082082000
noncomputable def hsW13f:List Nat:=hD 13 0x2082082082082082000
noncomputable def hsW21f:List Nat:=hD 43 0x2082086188208304104104106186188208104104104104104102082082082000
noncomputable def hsW21t:List Nat:=hD 39 0x2082086188208304104104106186188208104104104102082082082000
noncomputable def hsW22f:List Nat:=hD 56 0x8208218620820c104104104186186208204104104106186188208104104104104104102082082082000
noncomputable def hsW22t:List Nat:=hD 52 0x8208218620820c104104104186186208204104104106186188208104104104102082082082000
noncomputable def hsW23f:List Nat:=hD 69 0x2082086188208304104104106186188208104104104186186208204104104106186188208104104104104104102082082082000
noncomputable def hsW23t:List Nat:=hD 65 0x2082086188208304104104106186188208104104104186186208204104104106186188208104104104102082082082000
end Mine
namespace Mine
theorem kWr01_ok (w:World) (b1 b2:Bool) (c bl:Nat) (tl:Tok) (n:Int) (tn:Tok) (r:Int) (hp6:Builtin.divisionGoesByPylong n 6=false) (hp18:Builtin.divisionGoesByPylong n 18=false) (hf:(n.fdiv 6).fmod 3=0) (hr:(n.fdiv 18).fmod 4=r) (h0:-(2 ^ 62)≤r) (h1:r<2 ^ 62) (hb:(seqIndex? r blanks.length).bind (blanks.cps[·]?)=some bl) (hs:(wd 1 c).cps.all (·<128)=true) :
  (kWr 0 1 c bl tl n tn).Ok2 w b1 b2 42:=by
 cases b1<;>cases b2
 ·exact Con.of2 0 hsW01f [uS 2 (fIIi "int.__floordiv__" n 6 (n.fdiv 6)) [],uS 4 (fIIi "int.__mod__" (n.fdiv 6) 3 0) [],uS 8 (fIIi "int.__floordiv__" n 18 (n.fdiv 18)) [],uS 10 (fIIi "int.__mod__" (n.fdiv 18) 4 r) [],uS 12 (fStrAt blanks r bl) []] [] (fun _ _ sg _=>sg 4 1) ⟨int_fdiv_ok rfl hp6 rfl,int_mod_ok rfl hf,int_fdiv_ok rfl hp18 rfl,int_mod_ok rfl hr,fStrAt_ok h0 h1 hb,trivial⟩
 ·exact Con.of2 0 hsW01f [uS 2 (fIIi "int.__floordiv__" n 6 (n.fdiv 6)) [],uS 4 (fIIi "int.__mod__" (n.fdiv 6) 3 0) [],uS 8 (fIIi "int.__floordiv__" n 18 (n.fdiv 18)) [],uS 10 (fIIi "int.__mod__" (n.fdiv 18) 4 r) [],uS 12 (fStrAt blanks r bl) []] [] (fun _ _ sg _=>sg 4 1) ⟨int_fdiv_ok rfl hp6 rfl,int_mod_ok rfl hf,int_fdiv_ok rfl hp18 rfl,int_mod_ok rfl hr,fStrAt_ok h0 h1 hb,trivial⟩
 ·exact Con.of2 0 hsW01f [uS 2 (fIIi "int.__floordiv__" n 6 (n.fdiv 6)) [],uS 4 (fIIi "int.__mod__" (n.fdiv 6) 3 0) [],uS 8 (fIIi "int.__floordiv__" n 18 (n.fdiv 18)) [],uS 10 (fIIi "int.__mod__" (n.fdiv 18) 4 r) [],uS 12 (fStrAt blanks r bl) []] [] (fun _ _ sg _=>sg 4 1) ⟨int_fdiv_ok rfl hp6 rfl,int_mod_ok rfl hf,int_fdiv_ok rfl hp18 rfl,int_mod_ok rfl hr,fStrAt_ok h0 h1 hb,trivial⟩
 ·exact Con.of2 0 hsW01f [uS 2 (fIIi "int.__floordiv__" n 6 (n.fdiv 6)) [],uS 4 (fIIi "int.__mod__" (n.fdiv 6) 3 0) [],uS 8 (fIIi "int.__floordiv__" n 18 (n.fdiv 18)) [],uS 10 (fIIi "int.__mod__" (n.fdiv 18) 4 r) [],uS 12 (fStrAt blanks r bl) []] [] (fun _ _ sg _=>sg 4 1) ⟨int_fdiv_ok rfl hp6 rfl,int_mod_ok rfl hf,int_fdiv_ok rfl hp18 rfl,int_mod_ok rfl hr,fStrAt_ok h0 h1 hb,trivial⟩
end Mine
namespace Mine
theorem kWr02_ok (w:World) (b1 b2:Bool) (c bl:Nat) (tl:Tok) (n:Int) (tn:Tok) (r:Int) (hp6:Builtin.divisionGoesByPylong n 6=false) (hp18:Builtin.divisionGoesByPylong n 18=false) (hf:(n.fdiv 6).fmod 3=0) (hr:(n.fdiv 18).fmod 4=r) (h0:-(2 ^ 62)≤r) (h1:r<2 ^ 62) (hb:(seqIndex? r blanks.length).bind (blanks.cps[·]?)=some bl) (hs:(wd 2 c).cps.all (·<128)=true) :
  (kWr 0 2 c bl tl n tn).Ok2 w b1 b2 42:=by
 cases b1<;>cases b2
 ·exact Con.of2 0 hsW02f [uS 2 (fIIi "int.__floordiv__" n 6 (n.fdiv 6)) [],uS 4 (fIIi "int.__mod__" (n.fdiv 6) 3 0) [],uS 8 (fIIi "int.__floordiv__" n 18 (n.fdiv 18)) [],uS 10 (fIIi "int.__mod__" (n.fdiv 18) 4 r) [],uS 12 (fStrAt blanks r bl) []] [] (fun _ _ sg _=>sg 4 1) ⟨int_fdiv_ok rfl hp6 rfl,int_mod_ok rfl hf,int_fdiv_ok rfl hp18 rfl,int_mod_ok rfl hr,fStrAt_ok h0 h1 hb,trivial⟩
 ·exact Con.of2 0 hsW02f [uS 2 (fIIi "int.__floordiv__" n 6 (n.fdiv 6)) [],uS 4 (fIIi "int.__mod__" (n.fdiv 6) 3 0) [],uS 8 (fIIi "int.__floordiv__" n 18 (n.fdiv 18)) [],uS 10 (fIIi "int.__mod__" (n.fdiv 18) 4 r) [],uS 12 (fStrAt blanks r bl) []] [] (fun _ _ sg _=>sg 4 1) ⟨int_fdiv_ok rfl hp6 rfl,int_mod_ok rfl hf,int_fdiv_ok rfl hp18 rfl,int_mod_ok rfl hr,fStrAt_ok h0 h1 hb,trivial⟩
 ·exact Con.of2 0 hsW02f [uS 2 (fIIi "int.__floordiv__" n 6 (n.fdiv 6)) [],uS 4 (fIIi "int.__mod__" (n.fdiv 6) 3 0) [],uS 8 (fIIi "int.__floordiv__" n 18 (n.fdiv 18)) [],uS 10 (fIIi "int.__mod__" (n.fdiv 18) 4 r) [],uS 12 (fStrAt blanks r bl) []] [] (fun _ _ sg _=>sg 4 1) ⟨int_fdiv_ok rfl hp6 rfl,int_mod_ok rfl hf,int_fdiv_ok rfl hp18 rfl,int_mod_ok rfl hr,fStrAt_ok h0 h1 hb,trivial⟩
 ·exact Con.of2 0 hsW02f [uS 2 (fIIi "int.__floordiv__" n 6 (n.fdiv 6)) [],uS 4 (fIIi "int.__mod__" (n.fdiv 6) 3 0) [],uS 8 (fIIi "int.__floordiv__" n 18 (n.fdiv 18)) [],uS 10 (fIIi "int.__mod__" (n.fdiv 18) 4 r) [],uS 12 (fStrAt blanks r bl) []] [] (fun _ _ sg _=>sg 4 1) ⟨int_fdiv_ok rfl hp6 rfl,int_mod_ok rfl hf,int_fdiv_ok rfl hp18 rfl,int_mod_ok rfl hr,fStrAt_ok h0 h1 hb,trivial⟩
end Mine
namespace Mine
theorem kWr03_ok (w:World) (b1 b2:Bool) (c bl:Nat) (tl:Tok) (n:Int) (tn:Tok) (r:Int) (hp6:Builtin.divisionGoesByPylong n 6=false) (hp18:Builtin.divisionGoesByPylong n 18=false) (hf:(n.fdiv 6).fmod 3=0) (hr:(n.fdiv 18).fmod 4=r) (h0:-(2 ^ 62)≤r) (h1:r<2 ^ 62) (hb:(seqIndex? r blanks.length).bind (blanks.cps[·]?)=some bl) (hs:(wd 3 c).cps.all (·<128)=true) :
  (kWr 0 3 c bl tl n tn).Ok2 w b1 b2 42:=by
 cases b1<;>cases b2
 ·exact Con.of2 0 hsW03f [uS 2 (fIIi "int.__floordiv__" n 6 (n.fdiv 6)) [],uS 4 (fIIi "int.__mod__" (n.fdiv 6) 3 0) [],uS 8 (fIIi "int.__floordiv__" n 18 (n.fdiv 18)) [],uS 10 (fIIi "int.__mod__" (n.fdiv 18) 4 r) [],uS 12 (fStrAt blanks r bl) []] [] (fun _ _ sg _=>sg 4 1) ⟨int_fdiv_ok rfl hp6 rfl,int_mod_ok rfl hf,int_fdiv_ok rfl hp18 rfl,int_mod_ok rfl hr,fStrAt_ok h0 h1 hb,trivial⟩
 ·exact Con.of2 0 hsW03f [uS 2 (fIIi "int.__floordiv__" n 6 (n.fdiv 6)) [],uS 4 (fIIi "int.__mod__" (n.fdiv 6) 3 0) [],uS 8 (fIIi "int.__floordiv__" n 18 (n.fdiv 18)) [],uS 10 (fIIi "int.__mod__" (n.fdiv 18) 4 r) [],uS 12 (fStrAt blanks r bl) []] [] (fun _ _ sg _=>sg 4 1) ⟨int_fdiv_ok rfl hp6 rfl,int_mod_ok rfl hf,int_fdiv_ok rfl hp18 rfl,int_mod_ok rfl hr,fStrAt_ok h0 h1 hb,trivial⟩
 ·exact Con.of2 0 hsW03f [uS 2 (fIIi "int.__floordiv__" n 6 (n.fdiv 6)) [],uS 4 (fIIi "int.__mod__" (n.fdiv 6) 3 0) [],uS 8 (fIIi "int.__floordiv__" n 18 (n.fdiv 18)) [],uS 10 (fIIi "int.__mod__" (n.fdiv 18) 4 r) [],uS 12 (fStrAt blanks r bl) []] [] (fun _ _ sg _=>sg 4 1) ⟨int_fdiv_ok rfl hp6 rfl,int_mod_ok rfl hf,int_fdiv_ok rfl hp18 rfl,int_mod_ok rfl hr,fStrAt_ok h0 h1 hb,trivial⟩
 ·exact Con.of2 0 hsW03f [uS 2 (fIIi "int.__floordiv__" n 6 (n.fdiv 6)) [],uS 4 (fIIi "int.__mod__" (n.fdiv 6) 3 0) [],uS 8 (fIIi "int.__floordiv__" n 18 (n.fdiv 18)) [],uS 10 (fIIi "int.__mod__" (n.fdiv 18) 4 r) [],uS 12 (fStrAt blanks r bl) []] [] (fun _ _ sg _=>sg 4 1) ⟨int_fdiv_ok rfl hp6 rfl,int_mod_ok rfl hf,int_fdiv_ok rfl hp18 rfl,int_mod_ok rfl hr,fStrAt_ok h0 h1 hb,trivial⟩
end Mine
namespace Mine
theorem kWr11_ok (w:World) (b1 b2:Bool) (c bl:Nat) (tl:Tok) (n:Int) (tn:Tok) (r:Int) (hp6:Builtin.divisionGoesByPylong n 6=false) (hp18:Builtin.divisionGoesByPylong n 18=false) (hf:(n.fdiv 6).fmod 3=1) (hr:(n.fdiv 18).fmod 4=r) (h0:-(2 ^ 62)≤r) (h1:r<2 ^ 62) (hb:(seqIndex? r blanks.length).bind (blanks.cps[·]?)=some bl) (hs:(wd 1 c).cps.all (·<128)=true) :
  (kWr 1 1 c bl tl n tn).Ok2 w b1 b2 42:=by
 cases b1<;>cases b2
 ·exact Con.of2 0 hsW11f [uS 2 (fIIi "int.__floordiv__" n 6 (n.fdiv 6)) [],uS 4 (fIIi "int.__mod__" (n.fdiv 6) 3 1) [],uS 8 (fIIi "int.__floordiv__" n 6 (n.fdiv 6)) [],uS 10 (fIIi "int.__mod__" (n.fdiv 6) 3 1) [],uS 18 (fIIi "int.__floordiv__" n 18 (n.fdiv 18)) [],uS 20 (fIIi "int.__mod__" (n.fdiv 18) 4 r) [],uS 22 (fStrAt blanks r bl) []] [] (fun _ _ sg _=>sg 6 1) ⟨int_fdiv_ok rfl hp6 rfl,int_mod_ok rfl hf,int_fdiv_ok rfl hp6 rfl,int_mod_ok rfl hf,int_fdiv_ok rfl hp18 rfl,int_mod_ok rfl hr,fStrAt_ok h0 h1 hb,trivial⟩
 ·exact Con.of2 0 hsW11f [uS 2 (fIIi "int.__floordiv__" n 6 (n.fdiv 6)) [],uS 4 (fIIi "int.__mod__" (n.fdiv 6) 3 1) [],uS 8 (fIIi "int.__floordiv__" n 6 (n.fdiv 6)) [],uS 10 (fIIi "int.__mod__" (n.fdiv 6) 3 1) [],uS 18 (fIIi "int.__floordiv__" n 18 (n.fdiv 18)) [],uS 20 (fIIi "int.__mod__" (n.fdiv 18) 4 r) [],uS 22 (fStrAt blanks r bl) []] [] (fun _ _ sg _=>sg 6 1) ⟨int_fdiv_ok rfl hp6 rfl,int_mod_ok rfl hf,int_fdiv_ok rfl hp6 rfl,int_mod_ok rfl hf,int_fdiv_ok rfl hp18 rfl,int_mod_ok rfl hr,fStrAt_ok h0 h1 hb,trivial⟩
 ·exact Con.of2 0 hsW11f [uS 2 (fIIi "int.__floordiv__" n 6 (n.fdiv 6)) [],uS 4 (fIIi "int.__mod__" (n.fdiv 6) 3 1) [],uS 8 (fIIi "int.__floordiv__" n 6 (n.fdiv 6)) [],uS 10 (fIIi "int.__mod__" (n.fdiv 6) 3 1) [],uS 18 (fIIi "int.__floordiv__" n 18 (n.fdiv 18)) [],uS 20 (fIIi "int.__mod__" (n.fdiv 18) 4 r) [],uS 22 (fStrAt blanks r bl) []] [] (fun _ _ sg _=>sg 6 1) ⟨int_fdiv_ok rfl hp6 rfl,int_mod_ok rfl hf,int_fdiv_ok rfl hp6 rfl,int_mod_ok rfl hf,int_fdiv_ok rfl hp18 rfl,int_mod_ok rfl hr,fStrAt_ok h0 h1 hb,trivial⟩
 ·exact Con.of2 0 hsW11f [uS 2 (fIIi "int.__floordiv__" n 6 (n.fdiv 6)) [],uS 4 (fIIi "int.__mod__" (n.fdiv 6) 3 1) [],uS 8 (fIIi "int.__floordiv__" n 6 (n.fdiv 6)) [],uS 10 (fIIi "int.__mod__" (n.fdiv 6) 3 1) [],uS 18 (fIIi "int.__floordiv__" n 18 (n.fdiv 18)) [],uS 20 (fIIi "int.__mod__" (n.fdiv 18) 4 r) [],uS 22 (fStrAt blanks r bl) []] [] (fun _ _ sg _=>sg 6 1) ⟨int_fdiv_ok rfl hp6 rfl,int_mod_ok rfl hf,int_fdiv_ok rfl hp6 rfl,int_mod_ok rfl hf,int_fdiv_ok rfl hp18 rfl,int_mod_ok rfl hr,fStrAt_ok h0 h1 hb,trivial⟩
end Mine
namespace Mine
theorem kWr12_ok (w:World) (b1 b2:Bool) (c bl:Nat) (tl:Tok) (n:Int) (tn:Tok) (r:Int) (hp6:Builtin.divisionGoesByPylong n 6=false) (hp18:Builtin.divisionGoesByPylong n 18=false) (hf:(n.fdiv 6).fmod 3=1) (hr:(n.fdiv 18).fmod 4=r) (h0:-(2 ^ 62)≤r) (h1:r<2 ^ 62) (hb:(seqIndex? r blanks.length).bind (blanks.cps[·]?)=some bl) (hs:(wd 2 c).cps.all (·<128)=true) :
  (kWr 1 2 c bl tl n tn).Ok2 w b1 b2 42:=by
 cases b1<;>cases b2
 ·exact Con.of2 0 hsW12f [uS 2 (fIIi "int.__floordiv__" n 6 (n.fdiv 6)) [],uS 4 (fIIi "int.__mod__" (n.fdiv 6) 3 1) [],uS 8 (fIIi "int.__floordiv__" n 6 (n.fdiv 6)) [],uS 10 (fIIi "int.__mod__" (n.fdiv 6) 3 1) [],uS 18 (fIIi "int.__floordiv__" n 18 (n.fdiv 18)) [],uS 20 (fIIi "int.__mod__" (n.fdiv 18) 4 r) [],uS 22 (fStrAt blanks r bl) []] [] (fun _ _ sg _=>sg 6 1) ⟨int_fdiv_ok rfl hp6 rfl,int_mod_ok rfl hf,int_fdiv_ok rfl hp6 rfl,int_mod_ok rfl hf,int_fdiv_ok rfl hp18 rfl,int_mod_ok rfl hr,fStrAt_ok h0 h1 hb,trivial⟩
 ·exact Con.of2 0 hsW12f [uS 2 (fIIi "int.__floordiv__" n 6 (n.fdiv 6)) [],uS 4 (fIIi "int.__mod__" (n.fdiv 6) 3 1) [],uS 8 (fIIi "int.__floordiv__" n 6 (n.fdiv 6)) [],uS 10 (fIIi "int.__mod__" (n.fdiv 6) 3 1) [],uS 18 (fIIi "int.__floordiv__" n 18 (n.fdiv 18)) [],uS 20 (fIIi "int.__mod__" (n.fdiv 18) 4 r) [],uS 22 (fStrAt blanks r bl) []] [] (fun _ _ sg _=>sg 6 1) ⟨int_fdiv_ok rfl hp6 rfl,int_mod_ok rfl hf,int_fdiv_ok rfl hp6 rfl,int_mod_ok rfl hf,int_fdiv_ok rfl hp18 rfl,int_mod_ok rfl hr,fStrAt_ok h0 h1 hb,trivial⟩
 ·exact Con.of2 0 hsW12f [uS 2 (fIIi "int.__floordiv__" n 6 (n.fdiv 6)) [],uS 4 (fIIi "int.__mod__" (n.fdiv 6) 3 1) [],uS 8 (fIIi "int.__floordiv__" n 6 (n.fdiv 6)) [],uS 10 (fIIi "int.__mod__" (n.fdiv 6) 3 1) [],uS 18 (fIIi "int.__floordiv__" n 18 (n.fdiv 18)) [],uS 20 (fIIi "int.__mod__" (n.fdiv 18) 4 r) [],uS 22 (fStrAt blanks r bl) []] [] (fun _ _ sg _=>sg 6 1) ⟨int_fdiv_ok rfl hp6 rfl,int_mod_ok rfl hf,int_fdiv_ok rfl hp6 rfl,int_mod_ok rfl hf,int_fdiv_ok rfl hp18 rfl,int_mod_ok rfl hr,fStrAt_ok h0 h1 hb,trivial⟩
 ·exact Con.of2 0 hsW12f [uS 2 (fIIi "int.__floordiv__" n 6 (n.fdiv 6)) [],uS 4 (fIIi "int.__mod__" (n.fdiv 6) 3 1) [],uS 8 (fIIi "int.__floordiv__" n 6 (n.fdiv 6)) [],uS 10 (fIIi "int.__mod__" (n.fdiv 6) 3 1) [],uS 18 (fIIi "int.__floordiv__" n 18 (n.fdiv 18)) [],uS 20 (fIIi "int.__mod__" (n.fdiv 18) 4 r) [],uS 22 (fStrAt blanks r bl) []] [] (fun _ _ sg _=>sg 6 1) ⟨int_fdiv_ok rfl hp6 rfl,int_mod_ok rfl hf,int_fdiv_ok rfl hp6 rfl,int_mod_ok rfl hf,int_fdiv_ok rfl hp18 rfl,int_mod_ok rfl hr,fStrAt_ok h0 h1 hb,trivial⟩
end Mine
namespace Mine
theorem kWr13_ok (w:World) (b1 b2:Bool) (c bl:Nat) (tl:Tok) (n:Int) (tn:Tok) (r:Int) (hp6:Builtin.divisionGoesByPylong n 6=false) (hp18:Builtin.divisionGoesByPylong n 18=false) (hf:(n.fdiv 6).fmod 3=1) (hr:(n.fdiv 18).fmod 4=r) (h0:-(2 ^ 62)≤r) (h1:r<2 ^ 62) (hb:(seqIndex? r blanks.length).bind (blanks.cps[·]?)=some bl) (hs:(wd 3 c).cps.all (·<128)=true) :
  (kWr 1 3 c bl tl n tn).Ok2 w b1 b2 42:=by
 cases b1<;>cases b2
 ·exact Con.of2 0 hsW13f [uS 2 (fIIi "int.__floordiv__" n 6 (n.fdiv 6)) [],uS 4 (fIIi "int.__mod__" (n.fdiv 6) 3 1) [],uS 8 (fIIi "int.__floordiv__" n 6 (n.fdiv 6)) [],uS 10 (fIIi "int.__mod__" (n.fdiv 6) 3 1) [],uS 18 (fIIi "int.__floordiv__" n 18 (n.fdiv 18)) [],uS 20 (fIIi "int.__mod__" (n.fdiv 18) 4 r) [],uS 22 (fStrAt blanks r bl) []] [] (fun _ _ sg _=>sg 6 1) ⟨int_fdiv_ok rfl hp6 rfl,int_mod_ok rfl hf,int_fdiv_ok rfl hp6 rfl,int_mod_ok rfl hf,int_fdiv_ok rfl hp18 rfl,int_mod_ok rfl hr,fStrAt_ok h0 h1 hb,trivial⟩
 ·exact Con.of2 0 hsW13f [uS 2 (fIIi "int.__floordiv__" n 6 (n.fdiv 6)) [],uS 4 (fIIi "int.__mod__" (n.fdiv 6) 3 1) [],uS 8 (fIIi "int.__floordiv__" n 6 (n.fdiv 6)) [],uS 10 (fIIi "int.__mod__" (n.fdiv 6) 3 1) [],uS 18 (fIIi "int.__floordiv__" n 18 (n.fdiv 18)) [],uS 20 (fIIi "int.__mod__" (n.fdiv 18) 4 r) [],uS 22 (fStrAt blanks r bl) []] [] (fun _ _ sg _=>sg 6 1) ⟨int_fdiv_ok rfl hp6 rfl,int_mod_ok rfl hf,int_fdiv_ok rfl hp6 rfl,int_mod_ok rfl hf,int_fdiv_ok rfl hp18 rfl,int_mod_ok rfl hr,fStrAt_ok h0 h1 hb,trivial⟩
 ·exact Con.of2 0 hsW13f [uS 2 (fIIi "int.__floordiv__" n 6 (n.fdiv 6)) [],uS 4 (fIIi "int.__mod__" (n.fdiv 6) 3 1) [],uS 8 (fIIi "int.__floordiv__" n 6 (n.fdiv 6)) [],uS 10 (fIIi "int.__mod__" (n.fdiv 6) 3 1) [],uS 18 (fIIi "int.__floordiv__" n 18 (n.fdiv 18)) [],uS 20 (fIIi "int.__mod__" (n.fdiv 18) 4 r) [],uS 22 (fStrAt blanks r bl) []] [] (fun _ _ sg _=>sg 6 1) ⟨int_fdiv_ok rfl hp6 rfl,int_mod_ok rfl hf,int_fdiv_ok rfl hp6 rfl,int_mod_ok rfl hf,int_fdiv_ok rfl hp18 rfl,int_mod_ok rfl hr,fStrAt_ok h0 h1 hb,trivial⟩
 ·exact Con.of2 0 hsW13f [uS 2 (fIIi "int.__floordiv__" n 6 (n.fdiv 6)) [],uS 4 (fIIi "int.__mod__" (n.fdiv 6) 3 1) [],uS 8 (fIIi "int.__floordiv__" n 6 (n.fdiv 6)) [],uS 10 (fIIi "int.__mod__" (n.fdiv 6) 3 1) [],uS 18 (fIIi "int.__floordiv__" n 18 (n.fdiv 18)) [],uS 20 (fIIi "int.__mod__" (n.fdiv 18) 4 r) [],uS 22 (fStrAt blanks r bl) []] [] (fun _ _ sg _=>sg 6 1) ⟨int_fdiv_ok rfl hp6 rfl,int_mod_ok rfl hf,int_fdiv_ok rfl hp6 rfl,int_mod_ok rfl hf,int_fdiv_ok rfl hp18 rfl,int_mod_ok rfl hr,fStrAt_ok h0 h1 hb,trivial⟩
end Mine
namespace Mine
theorem kWr21_ok (w:World) (b1 b2:Bool) (c bl:Nat) (tl:Tok) (n:Int) (tn:Tok) (r:Int) (hp6:Builtin.divisionGoesByPylong n 6=false) (hp18:Builtin.divisionGoesByPylong n 18=false) (hf:(n.fdiv 6).fmod 3=2) (hr:(n.fdiv 18).fmod 4=r) (h0:-(2 ^ 62)≤r) (h1:r<2 ^ 62) (hb:(seqIndex? r blanks.length).bind (blanks.cps[·]?)=some bl) (hs:(wd 1 c).cps.all (·<128)=true) :
  (kWr 2 1 c bl tl n tn).Ok2 w b1 b2 42:=by
 cases b1<;>cases b2
 ·exact Con.of2 0 hsW21f [uS 2 (fIIi "int.__floordiv__" n 6 (n.fdiv 6)) [],uS 4 (fIIi "int.__mod__" (n.fdiv 6) 3 2) [],uS 8 (fIIi "int.__floordiv__" n 6 (n.fdiv 6)) [],uS 10 (fIIi "int.__mod__" (n.fdiv 6) 3 2) [],uS 14 (fStrIter (wd 1 c)) [],uS 31 (fIIi "int.__floordiv__" n 18 (n.fdiv 18)) [],uS 33 (fIIi "int.__mod__" (n.fdiv 18) 4 r) [],uS 35 (fStrAt blanks r bl) []] [] (fun _ _ sg _=>sg 7 1) ⟨int_fdiv_ok rfl hp6 rfl,int_mod_ok rfl hf,int_fdiv_ok rfl hp6 rfl,int_mod_ok rfl hf,fStrIter_ok hs,int_fdiv_ok rfl hp18 rfl,int_mod_ok rfl hr,fStrAt_ok h0 h1 hb,trivial⟩
 ·exact Con.of2 0 hsW21t [uS 2 (fIIi "int.__floordiv__" n 6 (n.fdiv 6)) [],uS 4 (fIIi "int.__mod__" (n.fdiv 6) 3 2) [],uS 8 (fIIi "int.__floordiv__" n 6 (n.fdiv 6)) [],uS 10 (fIIi "int.__mod__" (n.fdiv 6) 3 2) [],uS 14 (fStrIter (wd 1 c)) [],uS 29 (fIIi "int.__floordiv__" n 18 (n.fdiv 18)) [],uS 31 (fIIi "int.__mod__" (n.fdiv 18) 4 r) [],uS 33 (fStrAt blanks r bl) []] [] (fun _ _ sg _=>sg 7 1) ⟨int_fdiv_ok rfl hp6 rfl,int_mod_ok rfl hf,int_fdiv_ok rfl hp6 rfl,int_mod_ok rfl hf,fStrIter_ok hs,int_fdiv_ok rfl hp18 rfl,int_mod_ok rfl hr,fStrAt_ok h0 h1 hb,trivial⟩
 ·exact Con.of2 0 hsW21f [uS 2 (fIIi "int.__floordiv__" n 6 (n.fdiv 6)) [],uS 4 (fIIi "int.__mod__" (n.fdiv 6) 3 2) [],uS 8 (fIIi "int.__floordiv__" n 6 (n.fdiv 6)) [],uS 10 (fIIi "int.__mod__" (n.fdiv 6) 3 2) [],uS 14 (fStrIter (wd 1 c)) [],uS 31 (fIIi "int.__floordiv__" n 18 (n.fdiv 18)) [],uS 33 (fIIi "int.__mod__" (n.fdiv 18) 4 r) [],uS 35 (fStrAt blanks r bl) []] [] (fun _ _ sg _=>sg 7 1) ⟨int_fdiv_ok rfl hp6 rfl,int_mod_ok rfl hf,int_fdiv_ok rfl hp6 rfl,int_mod_ok rfl hf,fStrIter_ok hs,int_fdiv_ok rfl hp18 rfl,int_mod_ok rfl hr,fStrAt_ok h0 h1 hb,trivial⟩
 ·exact Con.of2 0 hsW21t [uS 2 (fIIi "int.__floordiv__" n 6 (n.fdiv 6)) [],uS 4 (fIIi "int.__mod__" (n.fdiv 6) 3 2) [],uS 8 (fIIi "int.__floordiv__" n 6 (n.fdiv 6)) [],uS 10 (fIIi "int.__mod__" (n.fdiv 6) 3 2) [],uS 14 (fStrIter (wd 1 c)) [],uS 29 (fIIi "int.__floordiv__" n 18 (n.fdiv 18)) [],uS 31 (fIIi "int.__mod__" (n.fdiv 18) 4 r) [],uS 33 (fStrAt blanks r bl) []] [] (fun _ _ sg _=>sg 7 1) ⟨int_fdiv_ok rfl hp6 rfl,int_mod_ok rfl hf,int_fdiv_ok rfl hp6 rfl,int_mod_ok rfl hf,fStrIter_ok hs,int_fdiv_ok rfl hp18 rfl,int_mod_ok rfl hr,fStrAt_ok h0 h1 hb,trivial⟩
end Mine
namespace Mine
theorem kWr22_ok (w:World) (b1 b2:Bool) (c bl:Nat) (tl:Tok) (n:Int) (tn:Tok) (r:Int) (hp6:Builtin.divisionGoesByPylong n 6=false) (hp18:Builtin.divisionGoesByPylong n 18=false) (hf:(n.fdiv 6).fmod 3=2) (hr:(n.fdiv 18).fmod 4=r) (h0:-(2 ^ 62)≤r) (h1:r<2 ^ 62) (hb:(seqIndex? r blanks.length).bind (blanks.cps[·]?)=some bl) (hs:(wd 2 c).cps.all (·<128)=true) :
  (kWr 2 2 c bl tl n tn).Ok2 w b1 b2 42:=by
 cases b1<;>cases b2
 ·exact Con.of2 0 hsW22f [uS 2 (fIIi "int.__floordiv__" n 6 (n.fdiv 6)) [],uS 4 (fIIi "int.__mod__" (n.fdiv 6) 3 2) [],uS 8 (fIIi "int.__floordiv__" n 6 (n.fdiv 6)) [],uS 10 (fIIi "int.__mod__" (n.fdiv 6) 3 2) [],uS 14 (fStrIter (wd 2 c)) [],uS 38 (fIIi "int.__floordiv__" n 18 (n.fdiv 18)) [],uS 40 (fIIi "int.__mod__" (n.fdiv 18) 4 r) [],uS 42 (fStrAt blanks r bl) []] [] (fun _ _ sg _=>sg 7 1) ⟨int_fdiv_ok rfl hp6 rfl,int_mod_ok rfl hf,int_fdiv_ok rfl hp6 rfl,int_mod_ok rfl hf,fStrIter_ok hs,int_fdiv_ok rfl hp18 rfl,int_mod_ok rfl hr,fStrAt_ok h0 h1 hb,trivial⟩
 ·exact Con.of2 0 hsW22t [uS 2 (fIIi "int.__floordiv__" n 6 (n.fdiv 6)) [],uS 4 (fIIi "int.__mod__" (n.fdiv 6) 3 2) [],uS 8 (fIIi "int.__floordiv__" n 6 (n.fdiv 6)) [],uS 10 (fIIi "int.__mod__" (n.fdiv 6) 3 2) [],uS 14 (fStrIter (wd 2 c)) [],uS 36 (fIIi "int.__floordiv__" n 18 (n.fdiv 18)) [],uS 38 (fIIi "int.__mod__" (n.fdiv 18) 4 r) [],uS 40 (fStrAt blanks r bl) []] [] (fun _ _ sg _=>sg 7 1) ⟨int_fdiv_ok rfl hp6 rfl,int_mod_ok rfl hf,int_fdiv_ok rfl hp6 rfl,int_mod_ok rfl hf,fStrIter_ok hs,int_fdiv_ok rfl hp18 rfl,int_mod_ok rfl hr,fStrAt_ok h0 h1 hb,trivial⟩
 ·exact Con.of2 0 hsW22f [uS 2 (fIIi "int.__floordiv__" n 6 (n.fdiv 6)) [],uS 4 (fIIi "int.__mod__" (n.fdiv 6) 3 2) [],uS 8 (fIIi "int.__floordiv__" n 6 (n.fdiv 6)) [],uS 10 (fIIi "int.__mod__" (n.fdiv 6) 3 2) [],uS 14 (fStrIter (wd 2 c)) [],uS 38 (fIIi "int.__floordiv__" n 18 (n.fdiv 18)) [],uS 40 (fIIi "int.__mod__" (n.fdiv 18) 4 r) [],uS 42 (fStrAt blanks r bl) []] [] (fun _ _ sg _=>sg 7 1) ⟨int_fdiv_ok rfl hp6 rfl,int_mod_ok rfl hf,int_fdiv_ok rfl hp6 rfl,int_mod_ok rfl hf,fStrIter_ok hs,int_fdiv_ok rfl hp18 rfl,int_mod_ok rfl hr,fStrAt_ok h0 h1 hb,trivial⟩
 ·exact Con.of2 0 hsW22t [uS 2 (fIIi "int.__floordiv__" n 6 (n.fdiv 6)) [],uS 4 (fIIi "int.__mod__" (n.fdiv 6) 3 2) [],uS 8 (fIIi "int.__floordiv__" n 6 (n.fdiv 6)) [],uS 10 (fIIi "int.__mod__" (n.fdiv 6) 3 2) [],uS 14 (fStrIter (wd 2 c)) [],uS 36 (fIIi "int.__floordiv__" n 18 (n.fdiv 18)) [],uS 38 (fIIi "int.__mod__" (n.fdiv 18) 4 r) [],uS 40 (fStrAt blanks r bl) []] [] (fun _ _ sg _=>sg 7 1) ⟨int_fdiv_ok rfl hp6 rfl,int_mod_ok rfl hf,int_fdiv_ok rfl hp6 rfl,int_mod_ok rfl hf,fStrIter_ok hs,int_fdiv_ok rfl hp18 rfl,int_mod_ok rfl hr,fStrAt_ok h0 h1 hb,trivial⟩
end Mine
namespace Mine
theorem kWr23_ok (w:World) (b1 b2:Bool) (c bl:Nat) (tl:Tok) (n:Int) (tn:Tok) (r:Int) (hp6:Builtin.divisionGoesByPylong n 6=false) (hp18:Builtin.divisionGoesByPylong n 18=false) (hf:(n.fdiv 6).fmod 3=2) (hr:(n.fdiv 18).fmod 4=r) (h0:-(2 ^ 62)≤r) (h1:r<2 ^ 62) (hb:(seqIndex? r blanks.length).bind (blanks.cps[·]?)=some bl) (hs:(wd 3 c).cps.all (·<128)=true) :
  (kWr 2 3 c bl tl n tn).Ok2 w b1 b2 42:=by
 cases b1<;>cases b2
 ·exact Con.of2 0 hsW23f [uS 2 (fIIi "int.__floordiv__" n 6 (n.fdiv 6)) [],uS 4 (fIIi "int.__mod__" (n.fdiv 6) 3 2) [],uS 8 (fIIi "int.__floordiv__" n 6 (n.fdiv 6)) [],uS 10 (fIIi "int.__mod__" (n.fdiv 6) 3 2) [],uS 14 (fStrIter (wd 3 c)) [],uS 45 (fIIi "int.__floordiv__" n 18 (n.fdiv 18)) [],uS 47 (fIIi "int.__mod__" (n.fdiv 18) 4 r) [],uS 49 (fStrAt blanks r bl) []] [] (fun _ _ sg _=>sg 7 1) ⟨int_fdiv_ok rfl hp6 rfl,int_mod_ok rfl hf,int_fdiv_ok rfl hp6 rfl,int_mod_ok rfl hf,fStrIter_ok hs,int_fdiv_ok rfl hp18 rfl,int_mod_ok rfl hr,fStrAt_ok h0 h1 hb,trivial⟩
 ·exact Con.of2 0 hsW23t [uS 2 (fIIi "int.__floordiv__" n 6 (n.fdiv 6)) [],uS 4 (fIIi "int.__mod__" (n.fdiv 6) 3 2) [],uS 8 (fIIi "int.__floordiv__" n 6 (n.fdiv 6)) [],uS 10 (fIIi "int.__mod__" (n.fdiv 6) 3 2) [],uS 14 (fStrIter (wd 3 c)) [],uS 43 (fIIi "int.__floordiv__" n 18 (n.fdiv 18)) [],uS 45 (fIIi "int.__mod__" (n.fdiv 18) 4 r) [],uS 47 (fStrAt blanks r bl) []] [] (fun _ _ sg _=>sg 7 1) ⟨int_fdiv_ok rfl hp6 rfl,int_mod_ok rfl hf,int_fdiv_ok rfl hp6 rfl,int_mod_ok rfl hf,fStrIter_ok hs,int_fdiv_ok rfl hp18 rfl,int_mod_ok rfl hr,fStrAt_ok h0 h1 hb,trivial⟩
 ·exact Con.of2 0 hsW23f [uS 2 (fIIi "int.__floordiv__" n 6 (n.fdiv 6)) [],uS 4 (fIIi "int.__mod__" (n.fdiv 6) 3 2) [],uS 8 (fIIi "int.__floordiv__" n 6 (n.fdiv 6)) [],uS 10 (fIIi "int.__mod__" (n.fdiv 6) 3 2) [],uS 14 (fStrIter (wd 3 c)) [],uS 45 (fIIi "int.__floordiv__" n 18 (n.fdiv 18)) [],uS 47 (fIIi "int.__mod__" (n.fdiv 18) 4 r) [],uS 49 (fStrAt blanks r bl) []] [] (fun _ _ sg _=>sg 7 1) ⟨int_fdiv_ok rfl hp6 rfl,int_mod_ok rfl hf,int_fdiv_ok rfl hp6 rfl,int_mod_ok rfl hf,fStrIter_ok hs,int_fdiv_ok rfl hp18 rfl,int_mod_ok rfl hr,fStrAt_ok h0 h1 hb,trivial⟩
 ·exact Con.of2 0 hsW23t [uS 2 (fIIi "int.__floordiv__" n 6 (n.fdiv 6)) [],uS 4 (fIIi "int.__mod__" (n.fdiv 6) 3 2) [],uS 8 (fIIi "int.__floordiv__" n 6 (n.fdiv 6)) [],uS 10 (fIIi "int.__mod__" (n.fdiv 6) 3 2) [],uS 14 (fStrIter (wd 3 c)) [],uS 43 (fIIi "int.__floordiv__" n 18 (n.fdiv 18)) [],uS 45 (fIIi "int.__mod__" (n.fdiv 18) 4 r) [],uS 47 (fStrAt blanks r bl) []] [] (fun _ _ sg _=>sg 7 1) ⟨int_fdiv_ok rfl hp6 rfl,int_mod_ok rfl hf,int_fdiv_ok rfl hp6 rfl,int_mod_ok rfl hf,fStrIter_ok hs,int_fdiv_ok rfl hp18 rfl,int_mod_ok rfl hr,fStrAt_ok h0 h1 hb,trivial⟩
end Mine
namespace Mine
noncomputable def retE (s:Stmt):PySem.Expr:=match s with
 | .Return (some e) _=>e
 | .Assign _ e _=>e
 | .Expr e _=>e
 | _=>default
noncomputable def callA (e:PySem.Expr) (i:Nat):PySem.Expr:=match e with
 | .Call _ as _ _=>(as[i]?).getD default
 | _=>default
noncomputable def lcScope (e:PySem.Expr):Scope:=match e with
 | .ListComp _ _ s _=>s
 | _=>default
noncomputable def cEnv (P:Params) (a:Addr) (e:PySem.Expr) (q:String) (L D:Addr) (cells:List (Str×Addr)):Env :=
 {scope:=lcScope e,locals:=D,globals:=3,cells:=cells,qual:=Str.ofString q,func:=none,code:=(fdOf P a).code,frame:=some L,builtins:=0}
noncomputable def dcO (P:Params) (k:Nat→Tok) (l:List (String×Value)) (ep:Nat):Obj:={cls:=.type "dict",data:=.dict ⟨dE P k 0 l⟩ ep}
noncomputable def glV (its:List Value) (rs:List Str) (f:Nat→Tok):List Value:=match rs with
 | []=>its
 | r::rs=>glV (its.concat (.str r (f 0))) rs (fun j=>f (j+1))
noncomputable def epL {α:Type} (l:List α) (ep:Nat):Nat:=match l with
 | []=>ep
 | _::l=>epL l (ep+1)
noncomputable def kL {α:Type} (l:List α) (k:Int):Int:=match l with
 | []=>k
 | _::l=>kL l (k+1)
noncomputable def lastL (l:List Nat) (c:Nat):Nat:=match l with
 | []=>c
 | d::l=>lastL l d
noncomputable def lowS (a:Str):Str:=⟨PySem.placed a fun i _=>PySem.Unicode.lowerAt a.cps i⟩
noncomputable def sw (c:Nat):Nat:=match Nat.ble 90 c with
 | true=>c-32
 | false=>c+32
noncomputable def isLet (c:Nat):Prop:=(96≤c∧c≤100)∨(64≤c∧c≤68)
theorem let_small {c:Nat} (h:96≤c∧c≤100):lowS (sg1 c)=sg1 c∧upS (sg1 c)=sg1 (sw c):=by
 have:c=96∨c=97∨c=98∨c=99∨c=100:=by omega
 rcases this with rfl | rfl | rfl | rfl | rfl<;>exact ⟨by decide +kernel,by decide +kernel⟩
theorem let_great {c:Nat} (h:64≤c∧c≤68):lowS (sg1 c)=sg1 (sw c)∧((sg1 c).cps.toList==(sg1 (sw c)).cps.toList)=false:=by
 have:c=64∨c=65∨c=66∨c=67∨c=68:=by omega
 rcases this with rfl | rfl | rfl | rfl | rfl<;>exact ⟨by decide +kernel,by decide +kernel⟩
noncomputable def osE (P:Params):PySem.Expr:=callA (retE (stN (stsOf P 202) 0)) 0
noncomputable def kOS (P:Params) (I A D L:Addr) (y:Str) (t:Tok) (k k':Int) (its:List Value) (ep ep':Nat) (kt:Nat→Tok) (c c':Nat) (tc:Tok) (de:Nat) (rem:List Nat):Con :=
 ⟨.compLoop (osE P) 0 (.ref I) (.ref A) (cEnv P 202 (osE P) "_law_other_size.<locals>." L D []),[(I,strIt y t k 0),(A,lsO its ep),(D,dcO P kt [("sign",sv c tc)] de)],
  fun xs=>[strItE k' 0,lsO (glV its (rem.map fun c=>sg1 (sw c)) fun j=>xs (j+1)) ep',dcO P kt [("sign",sv c' (xs 0))] de],fun _=>[],fun _=>.ok .next⟩
noncomputable def fOS (P:Params) (D L:Addr) (y:Str) (k k':Int) (its:Nat→List Value) (ep ep':Nat) (c c':Nat) (rem:List Nat):Fam:=fam2 fun _ os px =>
 kOS P (adN os 0) (adN os 1) (adN os 2) L y (tokV (vN os 0 0)) k k' (its (pxN px 1 0)) ep ep' (fun j=>tokV (keyN os 2 j)) c c' (tokV (vN os 2 0)) (epN os 2) rem
theorem kOS0_ok (w:World) (b1 b2:Bool) (I A D L:Addr) (y:Str) (t:Tok) (k:Int) (its:List Value) (ep:Nat) (kt:Nat→Tok) (c:Nat) (tc:Tok) (de:Nat) (h:y.cps[k.toNat]?=none) :
  (kOS (Pw w b1 b2) I A D L y t k k its ep ep kt c c tc de []).Ok2 w b1 b2 84 :=
 Con.of2 42 [1,1,4] [uS 1 (fNextSE y k) [1]] [] (fun _ _ _ _=>tc) ⟨fNextSE_ok h,trivial⟩
noncomputable def hsOS:List Nat:=hD 8 0xc5145145041
theorem kOSs_ok (w:World) (b1 b2:Bool) (I A D L:Addr) (y:Str) (t:Tok) (k k':Int) (its:List Value) (ep ep':Nat) (kt:Nat→Tok) (c c':Nat) (tc:Tok) (de:Nat) (d:Nat) (rem:List Nat) (h:y.cps[k.toNat]?=some (d+1)) (hi:its.length≤1000) (hd:isLet d)
  (ih:(fOS (Pw w b1 b2) D L y (k+1) k' (fun t=>its.concat (.str (sg1 (sw d)) t)) (ep+1) ep' d c' rem).Ok2 w b1 b2 84) :
  (kOS (Pw w b1 b2) I A D L y t k k' its ep ep' kt c c' tc de (d::rem)).Ok2 w b1 b2 84:=by
 have hz:its.length≤sizeLine:=by rw [sizeLine_eq]; omega
 rcases hd with hd | hd
 ·obtain ⟨e1,e2⟩:=let_small hd
  exact Con.of2b 42 hsOS [uS 1 (fNextS y k (d+1)) [1],uS 3 (fCase "str.lower" (sg1 d) (sg1 d)) [],uS 5 (fSS "str.__eq__" (sg1 d) (sg1 d) true) [],uS 7 (fCase "str.upper" (sg1 d) (sg1 (sw d))) [],uS 9 (fAppend ⟨its⟩) [3],⟨10,fOS (Pw w b1 b2) D L y (k+1) k' (fun t=>its.concat (.str (sg1 (sw d)) t)) (ep+1) ep' d c' rem,[1,3,5],true⟩] []
   (fun _ _ sg j=>match j with | 0=>sg 5 2 | 1=>sg 3 2 | j+2=>sg 5 (j+3)) ⟨fNextS_ok h,fLow_ok e1.symm (by show 1≤sizeLine; rw [sizeLine_eq]; decide),str_eq_ok (by simp),fUp_ok e2.symm (by show 1≤sizeLine; rw [sizeLine_eq]; decide),fAppend_ok hz,ih,trivial⟩
 ·obtain ⟨e1,e2⟩:=let_great hd
  exact Con.of2b 42 hsOS [uS 1 (fNextS y k (d+1)) [1],uS 3 (fCase "str.lower" (sg1 d) (sg1 (sw d))) [],uS 5 (fSS "str.__eq__" (sg1 d) (sg1 (sw d)) false) [],uS 7 (fCase "str.lower" (sg1 d) (sg1 (sw d))) [],uS 9 (fAppend ⟨its⟩) [3],⟨10,fOS (Pw w b1 b2) D L y (k+1) k' (fun t=>its.concat (.str (sg1 (sw d)) t)) (ep+1) ep' d c' rem,[1,3,5],true⟩] []
   (fun _ _ sg j=>match j with | 0=>sg 5 2 | 1=>sg 3 2 | j+2=>sg 5 (j+3)) ⟨fNextS_ok h,fLow_ok e1.symm (by show 1≤sizeLine; rw [sizeLine_eq]; decide),str_eq_ok e2,fLow_ok e1.symm (by show 1≤sizeLine; rw [sizeLine_eq]; decide),fAppend_ok hz,ih,trivial⟩
end Mine
namespace Mine
open PySem.SeqAt PySem.Builtin PySem.Builtin.Str
theorem kOS_ok (w:World) (b1 b2:Bool) (L:Addr) (y:Str):∀ (rem:List Nat) (I A D:Addr) (t:Tok) (k:Int) (its:List Value) (ep:Nat) (kt:Nat→Tok) (c:Nat) (tc:Tok) (de:Nat),
  0≤k→y.cps.toList.drop k.toNat=rem.map (·+1)→(∀ d∈rem,isLet d)→its.length+rem.length≤1000 →
  (kOS (Pw w b1 b2) I A D L y t k (kL rem k) its ep (epL rem ep) kt c (lastL rem c) tc de rem).Ok2 w b1 b2 84
 | [],I,A,D,t,k,its,ep,kt,c,tc,de,h0,h,_,_=>by
  refine kOS0_ok w b1 b2 I A D L y t k its ep kt c tc de ?_
  have h:y.cps.toList.drop k.toNat=[]:=h
  rw [List.drop_eq_nil_iff] at h
  exact Array.getElem?_eq_none (by simpa using h)
 | d::rem,I,A,D,t,k,its,ep,kt,c,tc,de,h0,h,hl,hn=>by
  have h:y.cps.toList.drop k.toNat=(d+1)::rem.map (·+1):=h
  have hk:y.cps[k.toNat]?=some (d+1):=by
   have:=congrArg (fun l=>l[0]?) h
   simpa using this
  have hn:its.length+(rem.length+1)≤1000:=hn
  refine kOSs_ok w b1 b2 I A D L y t k _ its ep _ kt c _ tc de d rem hk (by omega) (hl d (.head _)) (fam2_ok fun _ os px=>?_)
  refine kOS_ok w b1 b2 L y rem _ _ _ _ (k+1) _ (ep+1) _ d _ _ (by omega) ?_ (fun x hx=>hl x (.tail _ hx)) ?_
  ·have e:(k+1).toNat=k.toNat+1:=by omega
   rw [e,← List.drop_drop,h]; rfl
  ·simp; omega
noncomputable def catS (l:List Str):Str:=⟨⟨(l.map fun s=>s.cps.toList).flatten⟩⟩
theorem glued_cat:∀ l:List Str,glued st0 l=catS l:=by
 have e0:st0.cps=#[]:=by decide
 have f:∀ (r:List Str) (a:Array Nat),r.foldl (fun acc p=>acc++st0.cps++p.cps) a=a++⟨(r.map fun s=>s.cps.toList).flatten⟩:=by
  intro r
  induction r with
  | nil=>intro a; simp
  | cons x r ih=>intro a; rw [List.foldl_cons,ih,e0]; apply Array.ext'; simp
 intro l
 cases l with
 | nil=>rfl
 | cons x r =>
  show PySem.Str.mk (r.foldl (fun acc p=>acc++st0.cps++p.cps) x.cps)=_
  rw [f]
  unfold catS
  congr 1
  apply Array.ext'
  simp
theorem long_cat (l:List Str) (h:(catS l).length≤100000):tooLong (l.toArray.foldl (·+·.length+st0.length) 0)=false:=by
 have e0:st0.length=0:=by decide
 have f:∀ (r:List Str) (n:Nat),r.foldl (fun n s=>n+s.length+st0.length) n=n+(catS r).length:=by
  intro r
  induction r with
  | nil=>intro n; rfl
  | cons x r ih =>
   intro n
   rw [List.foldl_cons,ih,e0]
   show n+x.cps.size+0+(catS r).cps.size=n+(catS (x::r)).cps.size
   unfold catS
   simp [List.length_flatten]
   omega
 have:l.toArray.foldl (fun n s=>n+s.length+st0.length) 0=l.foldl (fun n s=>n+s.length+st0.length) 0:=by simp
 unfold tooLong
 rw [this,f,Nat.zero_add]
 rw [sizeLine_eq]
 simp; omega
section
variable {prog:Program} {w:World} {kt:Addr→Option Obj} {x:Nat}
theorem kJoinE_ok (t:Tok) (l:Addr) (ps:List (Str×Tok)) (its:List Value) (n:Nat) (dd:Option Addr) (sl:Array (Option Value)) (r:Str) (hi:its=strValues ps) (hr:catS (ps.map (·.1))=r) (hf:r.length≤100000) :
  (kJoin st0 t l ⟨.type "list",dd,.seq ⟨its⟩ n,sl⟩ r).Ok (model prog w) kt x:=by
 subst hi
 refine kJoin_ok st0 t l ps n dd sl r (by rw [glued_cat,hr]) (fun p e=>?_) (long_cat _ (by rw [hr]; exact hf)) ?_
 ·subst e
  rw [← hr]
  show PySem.Str.mk _=p.1
  obtain ⟨⟨⟨a⟩⟩,b⟩:=p
  simp
 ·rw [sizeLine_eq]; omega
end
noncomputable def zt (rs:List Str) (f:Nat→Tok):List (Str×Tok):=match rs with
 | []=>[]
 | r::rs=>(r,f 0)::zt rs fun j=>f (j+1)
theorem glV_zt:∀ (rs:List Str) (its:List Value) (f:Nat→Tok),glV its rs f=its++strValues (zt rs f)
 | [],its,f=>by simp [glV,zt,strValues]
 | r::rs,its,f=>by rw [glV,glV_zt rs]; simp [zt,strValues]
theorem zt_fst:∀ (rs:List Str) (f:Nat→Tok),(zt rs f).map (·.1)=rs
 | [],_=>rfl
 | r::rs,f=>by rw [zt,List.map_cons,zt_fst rs]
noncomputable def tx (l:List Nat):Str:=⟨⟨l.map (·+1)⟩⟩
theorem cat_signs:∀ l:List Nat,catS (l.map sg1)=tx l:=by
 intro l
 show PySem.Str.mk ⟨_⟩=PySem.Str.mk ⟨_⟩
 congr 2
 induction l with
 | nil=>rfl
 | cons a l ih=>simpa [sg1] using ih
noncomputable def fJoinH (i:Nat) (r0:Str) (rs:List Str) (r:Str):Fam:=fam2 fun c os px=>kJoin st0 (argT c 0) (adN os 0) ⟨.type "list",oD os 0,.seq ⟨glV [.str r0 (pxN px i 0)] rs fun j=>pxN px 0 (j+1)⟩ (epN os 0),oS os 0⟩ r
theorem fJoinH_ok {prog:Program} {w:World} {kt:Addr→Option Obj} {x:Nat} {i:Nat} {r0:Str} {rs:List Str} {r:Str} (hr:catS (r0::rs)=r) (hf:r.length≤100000):(fJoinH i r0 rs r).Ok (model prog w) kt x :=
 fam2_ok fun c os px=>kJoinE_ok _ _ ((r0,pxN px i 0)::zt rs fun j=>pxN px 0 (j+1)) _ _ _ _ _ (by rw [glV_zt]; rfl) (by rw [List.map_cons,zt_fst]; exact hr) hf
end Mine
namespace Mine
noncomputable def kOther (P:Params) (l l':List Nat) (tl:Tok):Con :=
 ⟨.call (.ref 202) ⟨[.str (tx l) tl],[]⟩,[],fun _=>[],fun _=>[],fun xs=>.ok (.ret (.str (tx l') (xs 0)))⟩
noncomputable def frL:Code→Addr
 | .compLoop _ _ _ _ env=>env.frame.getD 0
 | .forLoop _ _ _ _ env=>env.locals
 | .whileLoop _ _ _ env=>env.locals
 | _=>0
noncomputable def hsOtf:List Nat:=hD 21 0x8208188208208104104104102082000
noncomputable def hsOtt:List Nat:=hD 17 0x8208188208208104102082000
theorem sz1:∀ c:Nat,(sg1 c).length≤sizeLine:=fun c=>by show 1≤sizeLine; rw [sizeLine_eq]; decide
theorem kOther_small (w:World) (b1 b2:Bool) (d:Nat) (rem:List Nat) (tl:Tok) (hd:96≤d∧d≤100) (hs:(tx (d::rem)).cps.all (·<128)=true) (hl:∀ x∈rem,isLet x) (hn:rem.length≤900) :
  (kOther (Pw w b1 b2) (d::rem) ((d::rem).map sw) tl).Ok2 w b1 b2 126:=by
 obtain ⟨e1,e2⟩:=let_small hd
 have hj:catS (sg1 (sw d)::rem.map fun c=>sg1 (sw c))=tx ((d::rem).map sw):=by
  rw [← cat_signs]; simp [Function.comp_def]
 have hf:(tx ((d::rem).map sw)).length≤100000:=by
  show (⟨_⟩:Array Nat).size≤_
  simp; omega
 cases b1<;>cases b2
 ·exact Con.of2 84 hsOtf [uS 2 (fStrIter (tx (d::rem))) [],uS 8 (fNextS (tx (d::rem)) 0 (d+1)) [4],uS 10 (fCase "str.lower" (sg1 d) (sg1 d)) [],uS 12 (fSS "str.__eq__" (sg1 d) (sg1 d) true) [],uS 14 (fCase "str.upper" (sg1 d) (sg1 (sw d))) [],uS 16 (fAppend ⟨[]⟩) [6],
   uS 17 (fam2 fun c0 os px=>kOS (Pw w false false) (adN os 0) (adN os 1) (adN os 2) (frL c0) (tx (d::rem)) (tokV (vN os 0 0)) (0+1) (kL rem (0+1)) [.str (sg1 (sw d)) (pxN px 1 0)] (0+1) (epL rem (0+1)) (fun j=>tokV (keyN os 2 j)) d (lastL rem d) (tokV (vN os 2 0)) (epN os 2) rem) [4,6,8],uS 19 (fJoinH 2 (sg1 (sw d)) (rem.map fun c=>sg1 (sw c)) (tx ((d::rem).map sw))) [6]] [] (fun _ _ sg _=>sg 7 2)
   ⟨fStrIter_ok hs,fNextS_ok rfl,fLow_ok e1.symm (sz1 _),str_eq_ok (by simp),fUp_ok e2.symm (sz1 _),fAppend_ok (Nat.zero_le _),fam2_ok fun c0 os px=>kOS_ok w false false _ _ rem _ _ _ _ _ _ _ _ _ _ _ (by decide) (by simp [tx]) hl (by simp; omega),fJoinH_ok hj hf,trivial⟩
 ·exact Con.of2 84 hsOtt [uS 2 (fStrIter (tx (d::rem))) [],uS 6 (fNextS (tx (d::rem)) 0 (d+1)) [4],uS 8 (fCase "str.lower" (sg1 d) (sg1 d)) [],uS 10 (fSS "str.__eq__" (sg1 d) (sg1 d) true) [],uS 12 (fCase "str.upper" (sg1 d) (sg1 (sw d))) [],uS 14 (fAppend ⟨[]⟩) [6],
   uS 15 (fam2 fun c0 os px=>kOS (Pw w false true) (adN os 0) (adN os 1) (adN os 2) (frL c0) (tx (d::rem)) (tokV (vN os 0 0)) (0+1) (kL rem (0+1)) [.str (sg1 (sw d)) (pxN px 1 0)] (0+1) (epL rem (0+1)) (fun j=>tokV (keyN os 2 j)) d (lastL rem d) (tokV (vN os 2 0)) (epN os 2) rem) [4,6,8],uS 17 (fJoinH 2 (sg1 (sw d)) (rem.map fun c=>sg1 (sw c)) (tx ((d::rem).map sw))) [6]] [] (fun _ _ sg _=>sg 7 2)
   ⟨fStrIter_ok hs,fNextS_ok rfl,fLow_ok e1.symm (sz1 _),str_eq_ok (by simp),fUp_ok e2.symm (sz1 _),fAppend_ok (Nat.zero_le _),fam2_ok fun c0 os px=>kOS_ok w false true _ _ rem _ _ _ _ _ _ _ _ _ _ _ (by decide) (by simp [tx]) hl (by simp; omega),fJoinH_ok hj hf,trivial⟩
 ·exact Con.of2 84 hsOtf [uS 2 (fStrIter (tx (d::rem))) [],uS 8 (fNextS (tx (d::rem)) 0 (d+1)) [4],uS 10 (fCase "str.lower" (sg1 d) (sg1 d)) [],uS 12 (fSS "str.__eq__" (sg1 d) (sg1 d) true) [],uS 14 (fCase "str.upper" (sg1 d) (sg1 (sw d))) [],uS 16 (fAppend ⟨[]⟩) [6],
   uS 17 (fam2 fun c0 os px=>kOS (Pw w true false) (adN os 0) (adN os 1) (adN os 2) (frL c0) (tx (d::rem)) (tokV (vN os 0 0)) (0+1) (kL rem (0+1)) [.str (sg1 (sw d)) (pxN px 1 0)] (0+1) (epL rem (0+1)) (fun j=>tokV (keyN os 2 j)) d (lastL rem d) (tokV (vN os 2 0)) (epN os 2) rem) [4,6,8],uS 19 (fJoinH 2 (sg1 (sw d)) (rem.map fun c=>sg1 (sw c)) (tx ((d::rem).map sw))) [6]] [] (fun _ _ sg _=>sg 7 2)
   ⟨fStrIter_ok hs,fNextS_ok rfl,fLow_ok e1.symm (sz1 _),str_eq_ok (by simp),fUp_ok e2.symm (sz1 _),fAppend_ok (Nat.zero_le _),fam2_ok fun c0 os px=>kOS_ok w true false _ _ rem _ _ _ _ _ _ _ _ _ _ _ (by decide) (by simp [tx]) hl (by simp; omega),fJoinH_ok hj hf,trivial⟩
 ·exact Con.of2 84 hsOtt [uS 2 (fStrIter (tx (d::rem))) [],uS 6 (fNextS (tx (d::rem)) 0 (d+1)) [4],uS 8 (fCase "str.lower" (sg1 d) (sg1 d)) [],uS 10 (fSS "str.__eq__" (sg1 d) (sg1 d) true) [],uS 12 (fCase "str.upper" (sg1 d) (sg1 (sw d))) [],uS 14 (fAppend ⟨[]⟩) [6],
   uS 15 (fam2 fun c0 os px=>kOS (Pw w true true) (adN os 0) (adN os 1) (adN os 2) (frL c0) (tx (d::rem)) (tokV (vN os 0 0)) (0+1) (kL rem (0+1)) [.str (sg1 (sw d)) (pxN px 1 0)] (0+1) (epL rem (0+1)) (fun j=>tokV (keyN os 2 j)) d (lastL rem d) (tokV (vN os 2 0)) (epN os 2) rem) [4,6,8],uS 17 (fJoinH 2 (sg1 (sw d)) (rem.map fun c=>sg1 (sw c)) (tx ((d::rem).map sw))) [6]] [] (fun _ _ sg _=>sg 7 2)
   ⟨fStrIter_ok hs,fNextS_ok rfl,fLow_ok e1.symm (sz1 _),str_eq_ok (by simp),fUp_ok e2.symm (sz1 _),fAppend_ok (Nat.zero_le _),fam2_ok fun c0 os px=>kOS_ok w true true _ _ rem _ _ _ _ _ _ _ _ _ _ _ (by decide) (by simp [tx]) hl (by simp; omega),fJoinH_ok hj hf,trivial⟩
theorem kOther_great (w:World) (b1 b2:Bool) (d:Nat) (rem:List Nat) (tl:Tok) (hd:64≤d∧d≤68) (hs:(tx (d::rem)).cps.all (·<128)=true) (hl:∀ x∈rem,isLet x) (hn:rem.length≤900) :
  (kOther (Pw w b1 b2) (d::rem) ((d::rem).map sw) tl).Ok2 w b1 b2 126:=by
 obtain ⟨e1,e2⟩:=let_great hd
 have hj:catS (sg1 (sw d)::rem.map fun c=>sg1 (sw c))=tx ((d::rem).map sw):=by
  rw [← cat_signs]; simp [Function.comp_def]
 have hf:(tx ((d::rem).map sw)).length≤100000:=by
  show (⟨_⟩:Array Nat).size≤_
  simp; omega
 cases b1<;>cases b2
 ·exact Con.of2 84 hsOtf [uS 2 (fStrIter (tx (d::rem))) [],uS 8 (fNextS (tx (d::rem)) 0 (d+1)) [4],uS 10 (fCase "str.lower" (sg1 d) (sg1 (sw d))) [],uS 12 (fSS "str.__eq__" (sg1 d) (sg1 (sw d)) false) [],uS 14 (fCase "str.lower" (sg1 d) (sg1 (sw d))) [],uS 16 (fAppend ⟨[]⟩) [6],
   uS 17 (fam2 fun c0 os px=>kOS (Pw w false false) (adN os 0) (adN os 1) (adN os 2) (frL c0) (tx (d::rem)) (tokV (vN os 0 0)) (0+1) (kL rem (0+1)) [.str (sg1 (sw d)) (pxN px 1 0)] (0+1) (epL rem (0+1)) (fun j=>tokV (keyN os 2 j)) d (lastL rem d) (tokV (vN os 2 0)) (epN os 2) rem) [4,6,8],uS 19 (fJoinH 2 (sg1 (sw d)) (rem.map fun c=>sg1 (sw c)) (tx ((d::rem).map sw))) [6]] [] (fun _ _ sg _=>sg 7 2)
   ⟨fStrIter_ok hs,fNextS_ok rfl,fLow_ok e1.symm (sz1 _),str_eq_ok e2,fLow_ok e1.symm (sz1 _),fAppend_ok (Nat.zero_le _),fam2_ok fun c0 os px=>kOS_ok w false false _ _ rem _ _ _ _ _ _ _ _ _ _ _ (by decide) (by simp [tx]) hl (by simp; omega),fJoinH_ok hj hf,trivial⟩
 ·exact Con.of2 84 hsOtt [uS 2 (fStrIter (tx (d::rem))) [],uS 6 (fNextS (tx (d::rem)) 0 (d+1)) [4],uS 8 (fCase "str.lower" (sg1 d) (sg1 (sw d))) [],uS 10 (fSS "str.__eq__" (sg1 d) (sg1 (sw d)) false) [],uS 12 (fCase "str.lower" (sg1 d) (sg1 (sw d))) [],uS 14 (fAppend ⟨[]⟩) [6],
   uS 15 (fam2 fun c0 os px=>kOS (Pw w false true) (adN os 0) (adN os 1) (adN os 2) (frL c0) (tx (d::rem)) (tokV (vN os 0 0)) (0+1) (kL rem (0+1)) [.str (sg1 (sw d)) (pxN px 1 0)] (0+1) (epL rem (0+1)) (fun j=>tokV (keyN os 2 j)) d (lastL rem d) (tokV (vN os 2 0)) (epN os 2) rem) [4,6,8],uS 17 (fJoinH 2 (sg1 (sw d)) (rem.map fun c=>sg1 (sw c)) (tx ((d::rem).map sw))) [6]] [] (fun _ _ sg _=>sg 7 2)
   ⟨fStrIter_ok hs,fNextS_ok rfl,fLow_ok e1.symm (sz1 _),str_eq_ok e2,fLow_ok e1.symm (sz1 _),fAppend_ok (Nat.zero_le _),fam2_ok fun c0 os px=>kOS_ok w false true _ _ rem _ _ _ _ _ _ _ _ _ _ _ (by decide) (by simp [tx]) hl (by simp; omega),fJoinH_ok hj hf,trivial⟩
 ·exact Con.of2 84 hsOtf [uS 2 (fStrIter (tx (d::rem))) [],uS 8 (fNextS (tx (d::rem)) 0 (d+1)) [4],uS 10 (fCase "str.lower" (sg1 d) (sg1 (sw d))) [],uS 12 (fSS "str.__eq__" (sg1 d) (sg1 (sw d)) false) [],uS 14 (fCase "str.lower" (sg1 d) (sg1 (sw d))) [],uS 16 (fAppend ⟨[]⟩) [6],
   uS 17 (fam2 fun c0 os px=>kOS (Pw w true false) (adN os 0) (adN os 1) (adN os 2) (frL c0) (tx (d::rem)) (tokV (vN os 0 0)) (0+1) (kL rem (0+1)) [.str (sg1 (sw d)) (pxN px 1 0)] (0+1) (epL rem (0+1)) (fun j=>tokV (keyN os 2 j)) d (lastL rem d) (tokV (vN os 2 0)) (epN os 2) rem) [4,6,8],uS 19 (fJoinH 2 (sg1 (sw d)) (rem.map fun c=>sg1 (sw c)) (tx ((d::rem).map sw))) [6]] [] (fun _ _ sg _=>sg 7 2)
   ⟨fStrIter_ok hs,fNextS_ok rfl,fLow_ok e1.symm (sz1 _),str_eq_ok e2,fLow_ok e1.symm (sz1 _),fAppend_ok (Nat.zero_le _),fam2_ok fun c0 os px=>kOS_ok w true false _ _ rem _ _ _ _ _ _ _ _ _ _ _ (by decide) (by simp [tx]) hl (by simp; omega),fJoinH_ok hj hf,trivial⟩
 ·exact Con.of2 84 hsOtt [uS 2 (fStrIter (tx (d::rem))) [],uS 6 (fNextS (tx (d::rem)) 0 (d+1)) [4],uS 8 (fCase "str.lower" (sg1 d) (sg1 (sw d))) [],uS 10 (fSS "str.__eq__" (sg1 d) (sg1 (sw d)) false) [],uS 12 (fCase "str.lower" (sg1 d) (sg1 (sw d))) [],uS 14 (fAppend ⟨[]⟩) [6],
   uS 15 (fam2 fun c0 os px=>kOS (Pw w true true) (adN os 0) (adN os 1) (adN os 2) (frL c0) (tx (d::rem)) (tokV (vN os 0 0)) (0+1) (kL rem (0+1)) [.str (sg1 (sw d)) (pxN px 1 0)] (0+1) (epL rem (0+1)) (fun j=>tokV (keyN os 2 j)) d (lastL rem d) (tokV (vN os 2 0)) (epN os 2) rem) [4,6,8],uS 17 (fJoinH 2 (sg1 (sw d)) (rem.map fun c=>sg1 (sw c)) (tx ((d::rem).map sw))) [6]] [] (fun _ _ sg _=>sg 7 2)
   ⟨fStrIter_ok hs,fNextS_ok rfl,fLow_ok e1.symm (sz1 _),str_eq_ok e2,fLow_ok e1.symm (sz1 _),fAppend_ok (Nat.zero_le _),fam2_ok fun c0 os px=>kOS_ok w true true _ _ rem _ _ _ _ _ _ _ _ _ _ _ (by decide) (by simp [tx]) hl (by simp; omega),fJoinH_ok hj hf,trivial⟩
end Mine
namespace Mine
noncomputable def lxE (P:Params):PySem.Expr:=retE (stN (stsOf P 185) 0)
noncomputable def kLX (P:Params) (I A D L:Addr) (y:Str) (t:Tok) (k k':Int) (its:List Value) (ep ep':Nat) (kt:Nat→Tok) (c c':Nat) (tc:Tok) (de:Nat) (rem:List Nat):Con :=
 ⟨.compLoop (lxE P) 0 (.ref I) (.ref A) (cEnv P 185 (lxE P) "_law_lexer.<locals>." L D []),[(I,strIt y t k 0),(A,lsO its ep),(D,dcO P kt [("sign",sv c tc)] de)],
  fun xs=>[strItE k' 0,lsO (glV its (rem.map sg1) fun j=>xs (j+1)) ep',dcO P kt [("sign",sv c' (xs 0))] de],fun _=>[],fun _=>.ok .next⟩
theorem kLX0_ok (w:World) (b1 b2:Bool) (I A D L:Addr) (y:Str) (t:Tok) (k:Int) (its:List Value) (ep:Nat) (kt:Nat→Tok) (c:Nat) (tc:Tok) (de:Nat) (h:y.cps[k.toNat]?=none) :
  (kLX (Pw w b1 b2) I A D L y t k k its ep ep kt c c tc de []).Ok2 w b1 b2 84 :=
 Con.of2 42 [1,1,4] [uS 1 (fNextSE y k) [1]] [] (fun _ _ _ _=>tc) ⟨fNextSE_ok h,trivial⟩
noncomputable def fLX (P:Params) (L:Addr) (i:Nat) (y:Str) (k k':Int) (its:Nat→List Value) (ep ep':Nat) (c c':Nat) (rem:List Nat):Fam:=fam2 fun _ os px =>
 kLX P (adN os 0) (adN os 1) (adN os 2) L y (tokV (vN os 0 0)) k k' (its (pxN px i 0)) ep ep' (fun j=>tokV (keyN os 2 j)) c c' (tokV (vN os 2 0)) (epN os 2) rem
theorem kLXs_ok (w:World) (b1 b2:Bool) (I A D L:Addr) (y:Str) (t:Tok) (k k':Int) (its:List Value) (ep ep':Nat) (kt:Nat→Tok) (c c':Nat) (tc:Tok) (de:Nat) (d:Nat) (rem:List Nat) (h:y.cps[k.toNat]?=some (d+1)) (hi:its.length≤1000)
  (ih:(fLX (Pw w b1 b2) L 1 y (k+1) k' (fun t=>its.concat (sv d t)) (ep+1) ep' d c' rem).Ok2 w b1 b2 84) :
  (kLX (Pw w b1 b2) I A D L y t k k' its ep ep' kt c c' tc de (d::rem)).Ok2 w b1 b2 84:=by
 have hz:its.length≤sizeLine:=by rw [sizeLine_eq]; omega
 exact Con.of2 42 [1,1,5,5,5,3] [uS 1 (fNextS y k (d+1)) [1],uS 3 (fAppend ⟨its⟩) [3],⟨4,fLX (Pw w b1 b2) L 1 y (k+1) k' (fun t=>its.concat (sv d t)) (ep+1) ep' d c' rem,[1,3,5],true⟩] []
  (fun _ _ sg j=>match j with | 0=>sg 2 2 | 1=>sg 0 2 | j+2=>sg 2 (j+3)) ⟨fNextS_ok h,fAppend_ok hz,ih,trivial⟩
theorem kLX_ok (w:World) (b1 b2:Bool) (L:Addr) (y:Str):∀ (rem:List Nat) (I A D:Addr) (t:Tok) (k:Int) (its:List Value) (ep:Nat) (kt:Nat→Tok) (c:Nat) (tc:Tok) (de:Nat),
  0≤k→y.cps.toList.drop k.toNat=rem.map (·+1)→its.length+rem.length≤1000 →
  (kLX (Pw w b1 b2) I A D L y t k (kL rem k) its ep (epL rem ep) kt c (lastL rem c) tc de rem).Ok2 w b1 b2 84
 | [],I,A,D,t,k,its,ep,kt,c,tc,de,h0,h,_=>by
  refine kLX0_ok w b1 b2 I A D L y t k its ep kt c tc de ?_
  have h:y.cps.toList.drop k.toNat=[]:=h
  rw [List.drop_eq_nil_iff] at h
  exact Array.getElem?_eq_none (by simpa using h)
 | d::rem,I,A,D,t,k,its,ep,kt,c,tc,de,h0,h,hn=>by
  have h:y.cps.toList.drop k.toNat=(d+1)::rem.map (·+1):=h
  have hk:y.cps[k.toNat]?=some (d+1):=by
   have:=congrArg (fun l=>l[0]?) h
   simpa using this
  have hn:its.length+(rem.length+1)≤1000:=hn
  refine kLXs_ok w b1 b2 I A D L y t k _ its ep _ kt c _ tc de d rem hk (by omega) (fam2_ok fun _ os px=>?_)
  refine kLX_ok w b1 b2 L y rem _ _ _ _ (k+1) _ (ep+1) _ d _ _ (by omega) ?_ ?_
  ·have e:(k+1).toNat=k.toNat+1:=by omega
   rw [e,← List.drop_drop,h]; rfl
  ·simp; omega
end Mine
namespace Mine
noncomputable def laX (xs:Nat→Nat):LA :=
 {X:=xs 0,XD:=xs 1,PB:=xs 2,S:=xs 3,SD:=xs 4,FN:=xs 5,CO:=xs 6,CE:=xs 7,CT:=xs 8,SG:=xs 9,jp:=xs 10,
  a0:=.str (Str.ofString "<lambda>") (xs 11+13),q:=Str.ofString "_law_lexer.<locals>.<lambda>",tq:=xs 11+14,
  rf:=[.str (Str.ofString "/claim/cut.py") (xs 11+15),.int 150 0,.int 1 0,.int 0 0,.int 0 0,.int 19 0,.ref (xs 12),.bool true,.int 181 0,.ref (xs 13),.none,.ref (xs 14),.ref (xs 15),.ref (xs 16),.int (xs 11+18:Nat) 0,.int 150 0,.str (Str.ofString "/claim/cut.py") (xs 11+19)],
  j1:=xs 11+4,jn:=xs 11+2,j2:=xs 11+6,j3:=xs 11+9,jw:=xs 11+7,j4:=xs 11+11,j5:=xs 11+21,se:=5,
  k1:=xs 11+26,k2:=xs 11+28,k3:=xs 11+31,kw:=xs 11+29,k4:=xs 11+33,xe:=4}
noncomputable def lexNew (P:Params) (l:LA) (signs:List Value) (ep:Nat) (n:Int) (tn:Tok) (pb:List Value) (epb:Nat):List (Addr×Obj) :=
 [(l.PB,lsO pb epb),(l.X,{cls:=.ref 157,dict:=some l.XD}),(l.XD,lexD P l n tn),(l.FN,lamObj P l.CE l.CO l.CT),(l.CO,{cls:=.type "code",data:=.fields ⟨l.a0::.str l.q l.tq::l.rf⟩}),
  (l.S,{cls:=.ref 157,dict:=some l.SD}),(l.SD,strD P l),(l.SG,lsO signs ep),(l.CE,{cls:=.type "cell",data:=.cell (some (.ref l.SG))})]
noncomputable def kLexG (P:Params) (d:Nat) (rem:List Nat) (tl:Tok):Con :=
 ⟨.call (.ref 185) ⟨[.str (tx (d::rem)) tl],[]⟩,[(182,tabE)],fun xs=>[tabO 150 18 (xs 6)],
  fun xs=>lexNew P (laX xs) (glV [sv d (xs 20)] (rem.map sg1) fun j=>xs (j+21)) (epL rem 1) 1 (xs 11+24) [] 0,fun xs=>.ok (.ret (.ref (xs 0)))⟩
noncomputable def pkLex (N:Nat) (sg:Sg) (j:Nat):Nat:=match j with
 | 0=>sg 3 0+213+13 | 1=>sg 3 0+213+12 | 2=>sg 3 0+213+15 | 3=>sg 3 0+213+1 | 4=>sg 3 0+213 | 5=>sg 3 0+213+11 | 6=>sg 3 0+213+10 | 7=>N+213+1 | 8=>sg 3 0+213+4 | 9=>sg 0 0+213 | 10=>sg 3 0+213+3
 | 11=>sg 3 1 | 12=>sg 3 0+213+5 | 13=>sg 3 0+213+6 | 14=>sg 3 0+213+7 | 15=>sg 3 0+213+8 | 16=>sg 3 0+213+9 | 20=>sg 1 2 | j+21=>sg 3 (j+3) | _=>0
noncomputable def hsLxf:List Nat:=hD 280 0x9249009800009809809800009a89249009800009809809800009a89249009800009809809800009a8a24924026000026026026000026a28a28a0000000002602600000000000000000000000000000000000000000008030c30038000038038038000038200000104104008230c30038000038038038000039030c30038000038038038000039030c30038000038038038000039040c30c00e00000e00e00e00000e41041040000000000e00e00000000000000000000000000000000000000000000410a28a20a28a186186186182082000
noncomputable def hsLxt:List Nat:=hD 276 0x9249009800009809809800009a89249009800009809809800009a89249009800009809809800009a8a24924026000026026026000026a28a28a0000000002602600000000000000000000000000000000000000000008030c30038000038038038000038200000104104008230c30038000038038038000039030c30038000038038038000039030c30038000038038038000039040c30c00e00000e00e00e00000e41041040000000000e00e00000000000000000000000000000000000000000000410a28a20a28a186182082000
theorem kLexG_ok (w:World) (b1 b2:Bool) (d:Nat) (rem:List Nat) (tl:Tok) (hs:(tx (d::rem)).cps.all (·<128)=true) (hn:rem.length≤900) :
  (kLexG (Pw w b1 b2) d rem tl).Ok2 w b1 b2 126:=by
 cases b1<;>cases b2
 ·exact Con.of2 84 hsLxf [uS 2 (fStrIter (tx (d::rem))) [],uS 8 (fNextS (tx (d::rem)) 0 (d+1)) [6],uS 10 (fAppend ⟨[]⟩) [8],uS 11 (fam2 fun c0 os px=>kLX (Pw w false false) (adN os 0) (adN os 1) (adN os 2) (frL c0) (tx (d::rem)) (tokV (vN os 0 0)) (0+1) (kL rem (0+1)) [sv d (pxN px 1 0)] (0+1) (epL rem (0+1)) (fun j=>tokV (keyN os 2 j)) d (lastL rem d) (tokV (vN os 2 0)) (epN os 2) rem) [6,8,10]] [0,2,3,4,5,14,15,17,19] (fun N _ sg=>pkLex N sg)
   ⟨fStrIter_ok hs,fNextS_ok rfl,fAppend_ok (Nat.zero_le _),fam2_ok fun c0 os px=>kLX_ok w false false _ _ rem _ _ _ _ _ _ _ _ _ _ _ (by decide) (by simp [tx]) (by simp; omega),trivial⟩
 ·exact Con.of2 84 hsLxt [uS 2 (fStrIter (tx (d::rem))) [],uS 6 (fNextS (tx (d::rem)) 0 (d+1)) [6],uS 8 (fAppend ⟨[]⟩) [8],uS 9 (fam2 fun c0 os px=>kLX (Pw w false true) (adN os 0) (adN os 1) (adN os 2) (frL c0) (tx (d::rem)) (tokV (vN os 0 0)) (0+1) (kL rem (0+1)) [sv d (pxN px 1 0)] (0+1) (epL rem (0+1)) (fun j=>tokV (keyN os 2 j)) d (lastL rem d) (tokV (vN os 2 0)) (epN os 2) rem) [6,8,10]] [0,2,3,4,5,14,15,17,19] (fun N _ sg=>pkLex N sg)
   ⟨fStrIter_ok hs,fNextS_ok rfl,fAppend_ok (Nat.zero_le _),fam2_ok fun c0 os px=>kLX_ok w false true _ _ rem _ _ _ _ _ _ _ _ _ _ _ (by decide) (by simp [tx]) (by simp; omega),trivial⟩
 ·exact Con.of2 84 hsLxf [uS 2 (fStrIter (tx (d::rem))) [],uS 8 (fNextS (tx (d::rem)) 0 (d+1)) [6],uS 10 (fAppend ⟨[]⟩) [8],uS 11 (fam2 fun c0 os px=>kLX (Pw w true false) (adN os 0) (adN os 1) (adN os 2) (frL c0) (tx (d::rem)) (tokV (vN os 0 0)) (0+1) (kL rem (0+1)) [sv d (pxN px 1 0)] (0+1) (epL rem (0+1)) (fun j=>tokV (keyN os 2 j)) d (lastL rem d) (tokV (vN os 2 0)) (epN os 2) rem) [6,8,10]] [0,2,3,4,5,14,15,17,19] (fun N _ sg=>pkLex N sg)
   ⟨fStrIter_ok hs,fNextS_ok rfl,fAppend_ok (Nat.zero_le _),fam2_ok fun c0 os px=>kLX_ok w true false _ _ rem _ _ _ _ _ _ _ _ _ _ _ (by decide) (by simp [tx]) (by simp; omega),trivial⟩
 ·exact Con.of2 84 hsLxt [uS 2 (fStrIter (tx (d::rem))) [],uS 6 (fNextS (tx (d::rem)) 0 (d+1)) [6],uS 8 (fAppend ⟨[]⟩) [8],uS 9 (fam2 fun c0 os px=>kLX (Pw w true true) (adN os 0) (adN os 1) (adN os 2) (frL c0) (tx (d::rem)) (tokV (vN os 0 0)) (0+1) (kL rem (0+1)) [sv d (pxN px 1 0)] (0+1) (epL rem (0+1)) (fun j=>tokV (keyN os 2 j)) d (lastL rem d) (tokV (vN os 2 0)) (epN os 2) rem) [6,8,10]] [0,2,3,4,5,14,15,17,19] (fun N _ sg=>pkLex N sg)
   ⟨fStrIter_ok hs,fNextS_ok rfl,fAppend_ok (Nat.zero_le _),fam2_ok fun c0 os px=>kLX_ok w true true _ _ rem _ _ _ _ _ _ _ _ _ _ _ (by decide) (by simp [tx]) (by simp; omega),trivial⟩
end Mine
namespace Mine
theorem Con.Ok.conv {M:Model} {kt:Addr→Option Obj} {x:Nat} {C C':Con} (h:C.Ok M kt x) (e:C'=C):C'.Ok M kt x:=e ▸ h
noncomputable def mkV (l:List Nat) (F:Nat→Tok):List Value:=match l with
 | []=>[]
 | c::l=>sv c (F 0)::mkV l fun j=>F (j+1)
theorem glV_mkV:∀ (l:List Nat) (its:List Value) (F:Nat→Tok),glV its (l.map sg1) F=its++mkV l F
 | [],its,F=>by simp [glV,mkV]
 | c::l,its,F=>by rw [List.map_cons,glV,glV_mkV l]; simp [mkV,sv]
theorem mkV_length:∀ (l:List Nat) (F:Nat→Tok),(mkV l F).length=l.length
 | [],_=>rfl
 | c::l,F=>by rw [mkV,List.length_cons,mkV_length l,List.length_cons]
noncomputable def kLex (P:Params) (l:List Nat) (ep:Nat) (tl:Tok):Con :=
 ⟨.call (.ref 185) ⟨[.str (tx l) tl],[]⟩,[(182,tabE)],fun xs=>[tabO 150 18 (xs 6)],
  fun xs=>lexNew P (laX xs) (mkV l fun j=>xs (j+20)) ep 1 (xs 11+24) [] 0,fun xs=>.ok (.ret (.ref (xs 0)))⟩
theorem kLex_ok (w:World) (b1 b2:Bool) (d:Nat) (rem:List Nat) (tl:Tok) (hs:(tx (d::rem)).cps.all (·<128)=true) (hn:rem.length≤900) :
  (kLex (Pw w b1 b2) (d::rem) (epL rem 1) tl).Ok2 w b1 b2 126:=by
 have e:kLex (Pw w b1 b2) (d::rem) (epL rem 1) tl=kLexG (Pw w b1 b2) d rem tl:=by
  unfold kLex kLexG
  congr 1
  funext xs
  rw [glV_mkV]
  rfl
 rw [e]
 exact kLexG_ok w b1 b2 d rem tl hs hn
noncomputable def reN (L c:Nat):List Nat:=match L with
 | 0=>[]
 | L+1=>c::reN L c
noncomputable def esN (L c:Nat):List Nat:=match L with
 | 0=>[]
 | L+1=>91::c::esN L c
noncomputable def ldN (ld:Option Nat) (l:List Nat):List Nat:=match ld with
 | none=>l
 | some b=>b::l
noncomputable def foN (f L c b:Nat):List Nat:=match f with
 | 0=>reN L c++[b]
 | 1=>33::(reN L c++[33])
 | _=>esN L c++[b]
noncomputable def nlB (b:Nat):Int:=match Nat.beq b 9 with
 | true=>1
 | false=>0
noncomputable def nA (ld:Option Nat) (f b:Nat) (n:Int):Int:=match ld with
 | none=>match f with
  | 1=>n
  | _=>n+nlB b
 | some b0=>match f with
  | 1=>n+nlB b0
  | _=>n+nlB b0+nlB b
noncomputable def nlL (ld:Option Nat):Int:=match ld with
 | none=>0
 | some b=>nlB b
noncomputable def isBl (b:Nat):Prop:=b=31∨b=8∨b=12∨b=9
theorem bl_ws {b:Nat} (h:isBl b):(!(Builtin.Str.occurrences ws4 (sg1 b) 0 ws4.length 1).isEmpty)=true:=by
 rcases h with rfl | rfl | rfl | rfl<;>decide +kernel
theorem bl_nl {b:Nat} (h:isBl b) (n:Int):((sg1 b).cps.toList==nl1.cps.toList)=false∧n+nlB b=n∨((sg1 b).cps.toList==nl1.cps.toList)=true∧n+nlB b=n+1:=by
 rcases h with rfl | rfl | rfl | rfl
 ·exact .inl ⟨by decide +kernel,by show n+0=n; omega⟩
 ·exact .inl ⟨by decide +kernel,by show n+0=n; omega⟩
 ·exact .inl ⟨by decide +kernel,by show n+0=n; omega⟩
 ·exact .inr ⟨by decide +kernel,rfl⟩
theorem let_ok {c:Nat} (h:isLet c) (t:Tok):(U.pl c t).ok∧(U.pl c t).okB:=by
 have:(c=96∨c=97∨c=98∨c=99∨c=100)∨(c=64∨c=65∨c=66∨c=67∨c=68):=by unfold isLet at h; omega
 rcases this with (rfl | rfl | rfl | rfl | rfl) | (rfl | rfl | rfl | rfl | rfl)<;>exact ⟨⟨by decide +kernel,by decide +kernel,by decide +kernel⟩,⟨by decide +kernel,by decide +kernel,by decide +kernel⟩⟩
theorem let_es {c:Nat} (h:isLet c) (t t':Tok):(U.es t c t').ok:=(let_ok h t).1.2.2
noncomputable def kTok (P:Params) (l:LA) (ld:Option Nat) (f L c b:Nat) (R:List Nat) (F:Nat→Tok) (ep:Nat) (n:Int) (tn:Tok) (epb:Nat):Con :=
 ⟨.call (.ref 147) ⟨[.ref l.X],[]⟩,lexNeed P l (mkV (ldN ld (foN f L c b)++R) F) ep n tn [] epb,
  fun xs=>(lexNeed P l (mkV R fun j=>F (j+(ldN ld (foN f L c b)).length)) (ep+(ldN ld (foN f L c b)).length) (nA ld f b n) (xs 1) [] epb).map (·.2),fun _=>[],fun xs=>.ok (.ret (.str (wd L c) (xs 0)))⟩
end Mine
namespace Mine
theorem kTok001_ok (w:World) (b1 b2:Bool) (l:LA) (c b:Nat) (R:List Nat) (F:Nat→Tok) (ep:Nat) (n:Int) (tn:Tok) (epb:Nat) (hc:isLet c) (hb:isBl b) (hR:R.length≤900) :
  (kTok (Pw w b1 b2) l none 0 1 c b R F ep n tn epb).Ok2 w b1 b2 168:=by
 have hm:∀ G,(mkV R G).length=R.length:=fun G=>mkV_length R G
 have hz:sizeLine=16777216:=rfl
 have x:=kGTpl_ok w b1 b2 l c (F 0) [] b (F 1) (mkV R fun j=>F (j+2)) ep n (n+nlB b) tn epb (let_ok hc _).1 (let_ok hc _).2 (by simp only [U.vs,List.length_cons,hm]; omega) (glue_fits st0 c (by decide)) fun b1=>fam1_ok fun _ os=>kC_ok w b1 b2 l _ b (F 1) (mkV R fun j=>F (j+2)) _ _ [] (bl_ws hb) (bl_nl hb _) [] _ _ _ _ _ _ _ (fun u hu=>by cases hu) (by simp only [U.vs,List.length_cons,hm]; omega) (Nat.le_of_ble_eq_true rfl)
 exact x.conv (by kernel_rfl)
end Mine
namespace Mine
theorem kTok002_ok (w:World) (b1 b2:Bool) (l:LA) (c b:Nat) (R:List Nat) (F:Nat→Tok) (ep:Nat) (n:Int) (tn:Tok) (epb:Nat) (hc:isLet c) (hb:isBl b) (hR:R.length≤900) :
  (kTok (Pw w b1 b2) l none 0 2 c b R F ep n tn epb).Ok2 w b1 b2 168:=by
 have hm:∀ G,(mkV R G).length=R.length:=fun G=>mkV_length R G
 have hz:sizeLine=16777216:=rfl
 have x:=kGTpl_ok w b1 b2 l c (F 0) [U.pl c (F 1)] b (F 2) (mkV R fun j=>F (j+3)) ep n (n+nlB b) tn epb (let_ok hc _).1 (let_ok hc _).2 (by simp only [U.vs,List.length_cons,hm]; omega) (glue_fits st0 c (by decide)) fun b1=>fam1_ok fun _ os=>kC_ok w b1 b2 l _ b (F 2) (mkV R fun j=>F (j+3)) _ _ [] (bl_ws hb) (bl_nl hb _) [U.pl c (F 1)] _ _ _ _ _ _ _ (fun u hu=>by rcases List.mem_cons.mp hu with rfl | hu; exact (let_ok hc _).1; cases hu) (by simp only [U.vs,List.length_cons,hm]; omega) (Nat.le_of_ble_eq_true rfl)
 exact x.conv (by kernel_rfl)
end Mine
namespace Mine
theorem kTok003_ok (w:World) (b1 b2:Bool) (l:LA) (c b:Nat) (R:List Nat) (F:Nat→Tok) (ep:Nat) (n:Int) (tn:Tok) (epb:Nat) (hc:isLet c) (hb:isBl b) (hR:R.length≤900) :
  (kTok (Pw w b1 b2) l none 0 3 c b R F ep n tn epb).Ok2 w b1 b2 168:=by
 have hm:∀ G,(mkV R G).length=R.length:=fun G=>mkV_length R G
 have hz:sizeLine=16777216:=rfl
 have x:=kGTpl_ok w b1 b2 l c (F 0) [U.pl c (F 1),U.pl c (F 2)] b (F 3) (mkV R fun j=>F (j+4)) ep n (n+nlB b) tn epb (let_ok hc _).1 (let_ok hc _).2 (by simp only [U.vs,List.length_cons,hm]; omega) (glue_fits st0 c (by decide)) fun b1=>fam1_ok fun _ os=>kC_ok w b1 b2 l _ b (F 3) (mkV R fun j=>F (j+4)) _ _ [] (bl_ws hb) (bl_nl hb _) [U.pl c (F 1),U.pl c (F 2)] _ _ _ _ _ _ _ (fun u hu=>by rcases List.mem_cons.mp hu with rfl | hu; exact (let_ok hc _).1; rcases List.mem_cons.mp hu with rfl | hu; exact (let_ok hc _).1; cases hu) (by simp only [U.vs,List.length_cons,hm]; omega) (Nat.le_of_ble_eq_true rfl)
 exact x.conv (by kernel_rfl)
end Mine
namespace Mine
theorem kTok011_ok (w:World) (b1 b2:Bool) (l:LA) (c b:Nat) (R:List Nat) (F:Nat→Tok) (ep:Nat) (n:Int) (tn:Tok) (epb:Nat) (hc:isLet c) (hb:isBl b) (hR:R.length≤900) :
  (kTok (Pw w b1 b2) l none 1 1 c b R F ep n tn epb).Ok2 w b1 b2 168:=by
 have hm:∀ G,(mkV R G).length=R.length:=fun G=>mkV_length R G
 have hz:sizeLine=16777216:=rfl
 have x:=kGTq_ok w b1 b2 l (F 0) [U.pl c (F 1)] (F 2) (mkV R fun j=>F (j+3)) ep n tn epb (by simp only [U.vs,List.length_cons,hm]; omega) fun b1=>fam1_ok fun _ os=>kB_ok w b1 b2 l _ (F 2) (mkV R fun j=>F (j+3)) _ [] [U.pl c (F 1)] _ _ _ _ _ _ _ (fun u hu=>by rcases List.mem_cons.mp hu with rfl | hu; exact (let_ok hc _).2; cases hu) (by simp only [U.vs,List.length_cons,hm]; omega) (Nat.le_of_ble_eq_true rfl)
 exact x.conv (by kernel_rfl)
end Mine
namespace Mine
theorem kTok012_ok (w:World) (b1 b2:Bool) (l:LA) (c b:Nat) (R:List Nat) (F:Nat→Tok) (ep:Nat) (n:Int) (tn:Tok) (epb:Nat) (hc:isLet c) (hb:isBl b) (hR:R.length≤900) :
  (kTok (Pw w b1 b2) l none 1 2 c b R F ep n tn epb).Ok2 w b1 b2 168:=by
 have hm:∀ G,(mkV R G).length=R.length:=fun G=>mkV_length R G
 have hz:sizeLine=16777216:=rfl
 have x:=kGTq_ok w b1 b2 l (F 0) [U.pl c (F 1),U.pl c (F 2)] (F 3) (mkV R fun j=>F (j+4)) ep n tn epb (by simp only [U.vs,List.length_cons,hm]; omega) fun b1=>fam1_ok fun _ os=>kB_ok w b1 b2 l _ (F 3) (mkV R fun j=>F (j+4)) _ [] [U.pl c (F 1),U.pl c (F 2)] _ _ _ _ _ _ _ (fun u hu=>by rcases List.mem_cons.mp hu with rfl | hu; exact (let_ok hc _).2; rcases List.mem_cons.mp hu with rfl | hu; exact (let_ok hc _).2; cases hu) (by simp only [U.vs,List.length_cons,hm]; omega) (Nat.le_of_ble_eq_true rfl)
 exact x.conv (by kernel_rfl)
end Mine
namespace Mine
theorem kTok013_ok (w:World) (b1 b2:Bool) (l:LA) (c b:Nat) (R:List Nat) (F:Nat→Tok) (ep:Nat) (n:Int) (tn:Tok) (epb:Nat) (hc:isLet c) (hb:isBl b) (hR:R.length≤900) :
  (kTok (Pw w b1 b2) l none 1 3 c b R F ep n tn epb).Ok2 w b1 b2 168:=by
 have hm:∀ G,(mkV R G).length=R.length:=fun G=>mkV_length R G
 have hz:sizeLine=16777216:=rfl
 have x:=kGTq_ok w b1 b2 l (F 0) [U.pl c (F 1),U.pl c (F 2),U.pl c (F 3)] (F 4) (mkV R fun j=>F (j+5)) ep n tn epb (by simp only [U.vs,List.length_cons,hm]; omega) fun b1=>fam1_ok fun _ os=>kB_ok w b1 b2 l _ (F 4) (mkV R fun j=>F (j+5)) _ [] [U.pl c (F 1),U.pl c (F 2),U.pl c (F 3)] _ _ _ _ _ _ _ (fun u hu=>by rcases List.mem_cons.mp hu with rfl | hu; exact (let_ok hc _).2; rcases List.mem_cons.mp hu with rfl | hu; exact (let_ok hc _).2; rcases List.mem_cons.mp hu with rfl | hu; exact (let_ok hc _).2; cases hu) (by simp only [U.vs,List.length_cons,hm]; omega) (Nat.le_of_ble_eq_true rfl)
 exact x.conv (by kernel_rfl)
end Mine
namespace Mine
theorem kTok021_ok (w:World) (b1 b2:Bool) (l:LA) (c b:Nat) (R:List Nat) (F:Nat→Tok) (ep:Nat) (n:Int) (tn:Tok) (epb:Nat) (hc:isLet c) (hb:isBl b) (hR:R.length≤900) :
  (kTok (Pw w b1 b2) l none 2 1 c b R F ep n tn epb).Ok2 w b1 b2 168:=by
 have hm:∀ G,(mkV R G).length=R.length:=fun G=>mkV_length R G
 have hz:sizeLine=16777216:=rfl
 have x:=kGTes_ok w b1 b2 l (F 0) c (F 1) [] b (F 2) (mkV R fun j=>F (j+3)) ep n (n+nlB b) tn epb (let_es hc _ _) (by simp only [U.vs,List.length_cons,hm]; omega) (glue_fits st0 c (by decide)) fun b1=>fam1_ok fun _ os=>kC_ok w b1 b2 l _ b (F 2) (mkV R fun j=>F (j+3)) _ _ [] (bl_ws hb) (bl_nl hb _) [] _ _ _ _ _ _ _ (fun u hu=>by cases hu) (by simp only [U.vs,List.length_cons,hm]; omega) (Nat.le_of_ble_eq_true rfl)
 exact x.conv (by kernel_rfl)
end Mine
namespace Mine
theorem kTok022_ok (w:World) (b1 b2:Bool) (l:LA) (c b:Nat) (R:List Nat) (F:Nat→Tok) (ep:Nat) (n:Int) (tn:Tok) (epb:Nat) (hc:isLet c) (hb:isBl b) (hR:R.length≤900) :
  (kTok (Pw w b1 b2) l none 2 2 c b R F ep n tn epb).Ok2 w b1 b2 168:=by
 have hm:∀ G,(mkV R G).length=R.length:=fun G=>mkV_length R G
 have hz:sizeLine=16777216:=rfl
 have x:=kGTes_ok w b1 b2 l (F 0) c (F 1) [U.es (F 2) c (F 3)] b (F 4) (mkV R fun j=>F (j+5)) ep n (n+nlB b) tn epb (let_es hc _ _) (by simp only [U.vs,List.length_cons,hm]; omega) (glue_fits st0 c (by decide)) fun b1=>fam1_ok fun _ os=>kC_ok w b1 b2 l _ b (F 4) (mkV R fun j=>F (j+5)) _ _ [] (bl_ws hb) (bl_nl hb _) [U.es (F 2) c (F 3)] _ _ _ _ _ _ _ (fun u hu=>by rcases List.mem_cons.mp hu with rfl | hu; exact let_es hc _ _; cases hu) (by simp only [U.vs,List.length_cons,hm]; omega) (Nat.le_of_ble_eq_true rfl)
 exact x.conv (by kernel_rfl)
end Mine
namespace Mine
theorem kTok023_ok (w:World) (b1 b2:Bool) (l:LA) (c b:Nat) (R:List Nat) (F:Nat→Tok) (ep:Nat) (n:Int) (tn:Tok) (epb:Nat) (hc:isLet c) (hb:isBl b) (hR:R.length≤900) :
  (kTok (Pw w b1 b2) l none 2 3 c b R F ep n tn epb).Ok2 w b1 b2 168:=by
 have hm:∀ G,(mkV R G).length=R.length:=fun G=>mkV_length R G
 have hz:sizeLine=16777216:=rfl
 have x:=kGTes_ok w b1 b2 l (F 0) c (F 1) [U.es (F 2) c (F 3),U.es (F 4) c (F 5)] b (F 6) (mkV R fun j=>F (j+7)) ep n (n+nlB b) tn epb (let_es hc _ _) (by simp only [U.vs,List.length_cons,hm]; omega) (glue_fits st0 c (by decide)) fun b1=>fam1_ok fun _ os=>kC_ok w b1 b2 l _ b (F 6) (mkV R fun j=>F (j+7)) _ _ [] (bl_ws hb) (bl_nl hb _) [U.es (F 2) c (F 3),U.es (F 4) c (F 5)] _ _ _ _ _ _ _ (fun u hu=>by rcases List.mem_cons.mp hu with rfl | hu; exact let_es hc _ _; rcases List.mem_cons.mp hu with rfl | hu; exact let_es hc _ _; cases hu) (by simp only [U.vs,List.length_cons,hm]; omega) (Nat.le_of_ble_eq_true rfl)
 exact x.conv (by kernel_rfl)
end Mine
namespace Mine
theorem kTok101_ok (w:World) (b1 b2:Bool) (l:LA) (b0:Nat) (c b:Nat) (R:List Nat) (F:Nat→Tok) (ep:Nat) (n:Int) (tn:Tok) (epb:Nat) (hb0:isBl b0) (hc:isLet c) (hb:isBl b) (hR:R.length≤900) :
  (kTok (Pw w b1 b2) l (some b0) 0 1 c b R F ep n tn epb).Ok2 w b1 b2 168:=by
 have hm:∀ G,(mkV R G).length=R.length:=fun G=>mkV_length R G
 have hz:sizeLine=16777216:=rfl
 have x:=kGTbpl_ok w b1 b2 l b0 (F 0) c (F 1) [] b (F 2) (mkV R fun j=>F (j+3)) ep n (n+nlB b0) (n+nlB b0+nlB b) tn epb (bl_ws hb0) (bl_nl hb0 n) (let_ok hc _).1 (let_ok hc _).2 (by simp only [U.vs,List.length_cons,hm]; omega) (glue_fits st0 c (by decide)) fun b1=>fam1_ok fun _ os=>kC_ok w b1 b2 l _ b (F 2) (mkV R fun j=>F (j+3)) _ _ [] (bl_ws hb) (bl_nl hb _) [] _ _ _ _ _ _ _ (fun u hu=>by cases hu) (by simp only [U.vs,List.length_cons,hm]; omega) (Nat.le_of_ble_eq_true rfl)
 exact x.conv (by kernel_rfl)
end Mine
namespace Mine
theorem kTok102_ok (w:World) (b1 b2:Bool) (l:LA) (b0:Nat) (c b:Nat) (R:List Nat) (F:Nat→Tok) (ep:Nat) (n:Int) (tn:Tok) (epb:Nat) (hb0:isBl b0) (hc:isLet c) (hb:isBl b) (hR:R.length≤900) :
  (kTok (Pw w b1 b2) l (some b0) 0 2 c b R F ep n tn epb).Ok2 w b1 b2 168:=by
 have hm:∀ G,(mkV R G).length=R.length:=fun G=>mkV_length R G
 have hz:sizeLine=16777216:=rfl
 have x:=kGTbpl_ok w b1 b2 l b0 (F 0) c (F 1) [U.pl c (F 2)] b (F 3) (mkV R fun j=>F (j+4)) ep n (n+nlB b0) (n+nlB b0+nlB b) tn epb (bl_ws hb0) (bl_nl hb0 n) (let_ok hc _).1 (let_ok hc _).2 (by simp only [U.vs,List.length_cons,hm]; omega) (glue_fits st0 c (by decide)) fun b1=>fam1_ok fun _ os=>kC_ok w b1 b2 l _ b (F 3) (mkV R fun j=>F (j+4)) _ _ [] (bl_ws hb) (bl_nl hb _) [U.pl c (F 2)] _ _ _ _ _ _ _ (fun u hu=>by rcases List.mem_cons.mp hu with rfl | hu; exact (let_ok hc _).1; cases hu) (by simp only [U.vs,List.length_cons,hm]; omega) (Nat.le_of_ble_eq_true rfl)
 exact x.conv (by kernel_rfl)
end Mine
namespace Mine
theorem kTok103_ok (w:World) (b1 b2:Bool) (l:LA) (b0:Nat) (c b:Nat) (R:List Nat) (F:Nat→Tok) (ep:Nat) (n:Int) (tn:Tok) (epb:Nat) (hb0:isBl b0) (hc:isLet c) (hb:isBl b) (hR:R.length≤900) :
  (kTok (Pw w b1 b2) l (some b0) 0 3 c b R F ep n tn epb).Ok2 w b1 b2 168:=by
 have hm:∀ G,(mkV R G).length=R.length:=fun G=>mkV_length R G
 have hz:sizeLine=16777216:=rfl
 have x:=kGTbpl_ok w b1 b2 l b0 (F 0) c (F 1) [U.pl c (F 2),U.pl c (F 3)] b (F 4) (mkV R fun j=>F (j+5)) ep n (n+nlB b0) (n+nlB b0+nlB b) tn epb (bl_ws hb0) (bl_nl hb0 n) (let_ok hc _).1 (let_ok hc _).2 (by simp only [U.vs,List.length_cons,hm]; omega) (glue_fits st0 c (by decide)) fun b1=>fam1_ok fun _ os=>kC_ok w b1 b2 l _ b (F 4) (mkV R fun j=>F (j+5)) _ _ [] (bl_ws hb) (bl_nl hb _) [U.pl c (F 2),U.pl c (F 3)] _ _ _ _ _ _ _ (fun u hu=>by rcases List.mem_cons.mp hu with rfl | hu; exact (let_ok hc _).1; rcases List.mem_cons.mp hu with rfl | hu; exact (let_ok hc _).1; cases hu) (by simp only [U.vs,List.length_cons,hm]; omega) (Nat.le_of_ble_eq_true rfl)
 exact x.conv (by kernel_rfl)
end Mine
namespace Mine
theorem kTok111_ok (w:World) (b1 b2:Bool) (l:LA) (b0:Nat) (c b:Nat) (R:List Nat) (F:Nat→Tok) (ep:Nat) (n:Int) (tn:Tok) (epb:Nat) (hb0:isBl b0) (hc:isLet c) (hb:isBl b) (hR:R.length≤900) :
  (kTok (Pw w b1 b2) l (some b0) 1 1 c b R F ep n tn epb).Ok2 w b1 b2 168:=by
 have hm:∀ G,(mkV R G).length=R.length:=fun G=>mkV_length R G
 have hz:sizeLine=16777216:=rfl
 have x:=kGTbq_ok w b1 b2 l b0 (F 0) (F 1) [U.pl c (F 2)] (F 3) (mkV R fun j=>F (j+4)) ep n (n+nlB b0) tn epb (bl_ws hb0) (bl_nl hb0 n) (by simp only [U.vs,List.length_cons,hm]; omega) fun b1=>fam1_ok fun _ os=>kB_ok w b1 b2 l _ (F 3) (mkV R fun j=>F (j+4)) _ [] [U.pl c (F 2)] _ _ _ _ _ _ _ (fun u hu=>by rcases List.mem_cons.mp hu with rfl | hu; exact (let_ok hc _).2; cases hu) (by simp only [U.vs,List.length_cons,hm]; omega) (Nat.le_of_ble_eq_true rfl)
 exact x.conv (by kernel_rfl)
end Mine
namespace Mine
theorem kTok112_ok (w:World) (b1 b2:Bool) (l:LA) (b0:Nat) (c b:Nat) (R:List Nat) (F:Nat→Tok) (ep:Nat) (n:Int) (tn:Tok) (epb:Nat) (hb0:isBl b0) (hc:isLet c) (hb:isBl b) (hR:R.length≤900) :
  (kTok (Pw w b1 b2) l (some b0) 1 2 c b R F ep n tn epb).Ok2 w b1 b2 168:=by
 have hm:∀ G,(mkV R G).length=R.length:=fun G=>mkV_length R G
 have hz:sizeLine=16777216:=rfl
 have x:=kGTbq_ok w b1 b2 l b0 (F 0) (F 1) [U.pl c (F 2),U.pl c (F 3)] (F 4) (mkV R fun j=>F (j+5)) ep n (n+nlB b0) tn epb (bl_ws hb0) (bl_nl hb0 n) (by simp only [U.vs,List.length_cons,hm]; omega) fun b1=>fam1_ok fun _ os=>kB_ok w b1 b2 l _ (F 4) (mkV R fun j=>F (j+5)) _ [] [U.pl c (F 2),U.pl c (F 3)] _ _ _ _ _ _ _ (fun u hu=>by rcases List.mem_cons.mp hu with rfl | hu; exact (let_ok hc _).2; rcases List.mem_cons.mp hu with rfl | hu; exact (let_ok hc _).2; cases hu) (by simp only [U.vs,List.length_cons,hm]; omega) (Nat.le_of_ble_eq_true rfl)
 exact x.conv (by kernel_rfl)
end Mine
namespace Mine
theorem kTok113_ok (w:World) (b1 b2:Bool) (l:LA) (b0:Nat) (c b:Nat) (R:List Nat) (F:Nat→Tok) (ep:Nat) (n:Int) (tn:Tok) (epb:Nat) (hb0:isBl b0) (hc:isLet c) (hb:isBl b) (hR:R.length≤900) :
  (kTok (Pw w b1 b2) l (some b0) 1 3 c b R F ep n tn epb).Ok2 w b1 b2 168:=by
 have hm:∀ G,(mkV R G).length=R.length:=fun G=>mkV_length R G
 have hz:sizeLine=16777216:=rfl
 have x:=kGTbq_ok w b1 b2 l b0 (F 0) (F 1) [U.pl c (F 2),U.pl c (F 3),U.pl c (F 4)] (F 5) (mkV R fun j=>F (j+6)) ep n (n+nlB b0) tn epb (bl_ws hb0) (bl_nl hb0 n) (by simp only [U.vs,List.length_cons,hm]; omega) fun b1=>fam1_ok fun _ os=>kB_ok w b1 b2 l _ (F 5) (mkV R fun j=>F (j+6)) _ [] [U.pl c (F 2),U.pl c (F 3),U.pl c (F 4)] _ _ _ _ _ _ _ (fun u hu=>by rcases List.mem_cons.mp hu with rfl | hu; exact (let_ok hc _).2; rcases List.mem_cons.mp hu with rfl | hu; exact (let_ok hc _).2; rcases List.mem_cons.mp hu with rfl | hu; exact (let_ok hc _).2; cases hu) (by simp only [U.vs,List.length_cons,hm]; omega) (Nat.le_of_ble_eq_true rfl)
 exact x.conv (by kernel_rfl)
end Mine
namespace Mine
theorem kTok121_ok (w:World) (b1 b2:Bool) (l:LA) (b0:Nat) (c b:Nat) (R:List Nat) (F:Nat→Tok) (ep:Nat) (n:Int) (tn:Tok) (epb:Nat) (hb0:isBl b0) (hc:isLet c) (hb:isBl b) (hR:R.length≤900) :
  (kTok (Pw w b1 b2) l (some b0) 2 1 c b R F ep n tn epb).Ok2 w b1 b2 168:=by
 have hm:∀ G,(mkV R G).length=R.length:=fun G=>mkV_length R G
 have hz:sizeLine=16777216:=rfl
 have x:=kGTbes_ok w b1 b2 l b0 (F 0) (F 1) c (F 2) [] b (F 3) (mkV R fun j=>F (j+4)) ep n (n+nlB b0) (n+nlB b0+nlB b) tn epb (bl_ws hb0) (bl_nl hb0 n) (let_es hc _ _) (by simp only [U.vs,List.length_cons,hm]; omega) (glue_fits st0 c (by decide)) fun b1=>fam1_ok fun _ os=>kC_ok w b1 b2 l _ b (F 3) (mkV R fun j=>F (j+4)) _ _ [] (bl_ws hb) (bl_nl hb _) [] _ _ _ _ _ _ _ (fun u hu=>by cases hu) (by simp only [U.vs,List.length_cons,hm]; omega) (Nat.le_of_ble_eq_true rfl)
 exact x.conv (by kernel_rfl)
end Mine
namespace Mine
theorem kTok122_ok (w:World) (b1 b2:Bool) (l:LA) (b0:Nat) (c b:Nat) (R:List Nat) (F:Nat→Tok) (ep:Nat) (n:Int) (tn:Tok) (epb:Nat) (hb0:isBl b0) (hc:isLet c) (hb:isBl b) (hR:R.length≤900) :
  (kTok (Pw w b1 b2) l (some b0) 2 2 c b R F ep n tn epb).Ok2 w b1 b2 168:=by
 have hm:∀ G,(mkV R G).length=R.length:=fun G=>mkV_length R G
 have hz:sizeLine=16777216:=rfl
 have x:=kGTbes_ok w b1 b2 l b0 (F 0) (F 1) c (F 2) [U.es (F 3) c (F 4)] b (F 5) (mkV R fun j=>F (j+6)) ep n (n+nlB b0) (n+nlB b0+nlB b) tn epb (bl_ws hb0) (bl_nl hb0 n) (let_es hc _ _) (by simp only [U.vs,List.length_cons,hm]; omega) (glue_fits st0 c (by decide)) fun b1=>fam1_ok fun _ os=>kC_ok w b1 b2 l _ b (F 5) (mkV R fun j=>F (j+6)) _ _ [] (bl_ws hb) (bl_nl hb _) [U.es (F 3) c (F 4)] _ _ _ _ _ _ _ (fun u hu=>by rcases List.mem_cons.mp hu with rfl | hu; exact let_es hc _ _; cases hu) (by simp only [U.vs,List.length_cons,hm]; omega) (Nat.le_of_ble_eq_true rfl)
 exact x.conv (by kernel_rfl)
end Mine
namespace Mine
theorem kTok123_ok (w:World) (b1 b2:Bool) (l:LA) (b0:Nat) (c b:Nat) (R:List Nat) (F:Nat→Tok) (ep:Nat) (n:Int) (tn:Tok) (epb:Nat) (hb0:isBl b0) (hc:isLet c) (hb:isBl b) (hR:R.length≤900) :
  (kTok (Pw w b1 b2) l (some b0) 2 3 c b R F ep n tn epb).Ok2 w b1 b2 168:=by
 have hm:∀ G,(mkV R G).length=R.length:=fun G=>mkV_length R G
 have hz:sizeLine=16777216:=rfl
 have x:=kGTbes_ok w b1 b2 l b0 (F 0) (F 1) c (F 2) [U.es (F 3) c (F 4),U.es (F 5) c (F 6)] b (F 7) (mkV R fun j=>F (j+8)) ep n (n+nlB b0) (n+nlB b0+nlB b) tn epb (bl_ws hb0) (bl_nl hb0 n) (let_es hc _ _) (by simp only [U.vs,List.length_cons,hm]; omega) (glue_fits st0 c (by decide)) fun b1=>fam1_ok fun _ os=>kC_ok w b1 b2 l _ b (F 7) (mkV R fun j=>F (j+8)) _ _ [] (bl_ws hb) (bl_nl hb _) [U.es (F 3) c (F 4),U.es (F 5) c (F 6)] _ _ _ _ _ _ _ (fun u hu=>by rcases List.mem_cons.mp hu with rfl | hu; exact let_es hc _ _; rcases List.mem_cons.mp hu with rfl | hu; exact let_es hc _ _; cases hu) (by simp only [U.vs,List.length_cons,hm]; omega) (Nat.le_of_ble_eq_true rfl)
 exact x.conv (by kernel_rfl)
end Mine
namespace Mine
noncomputable def okLd:Option Nat→Prop
 | none=>True
 | some b=>isBl b
theorem kTok_ok (w:World) (b1 b2:Bool) (l:LA) (ld:Option Nat) (f L c b:Nat) (R:List Nat) (F:Nat→Tok) (ep:Nat) (n:Int) (tn:Tok) (epb:Nat) (hld:okLd ld) (hf:f<3) (hL:1≤L∧L≤3) (hc:isLet c) (hb:isBl b) (hR:R.length≤900) :
  (kTok (Pw w b1 b2) l ld f L c b R F ep n tn epb).Ok2 w b1 b2 168:=by
 have h1:f=0∨f=1∨f=2:=by omega
 have h2:L=1∨L=2∨L=3:=by omega
 cases ld with
 | none =>
  rcases h1 with rfl | rfl | rfl<;>rcases h2 with rfl | rfl | rfl
  ·exact kTok001_ok w b1 b2 l c b R F ep n tn epb hc hb hR
  ·exact kTok002_ok w b1 b2 l c b R F ep n tn epb hc hb hR
  ·exact kTok003_ok w b1 b2 l c b R F ep n tn epb hc hb hR
  ·exact kTok011_ok w b1 b2 l c b R F ep n tn epb hc hb hR
  ·exact kTok012_ok w b1 b2 l c b R F ep n tn epb hc hb hR
  ·exact kTok013_ok w b1 b2 l c b R F ep n tn epb hc hb hR
  ·exact kTok021_ok w b1 b2 l c b R F ep n tn epb hc hb hR
  ·exact kTok022_ok w b1 b2 l c b R F ep n tn epb hc hb hR
  ·exact kTok023_ok w b1 b2 l c b R F ep n tn epb hc hb hR
 | some b0 =>
  rcases h1 with rfl | rfl | rfl<;>rcases h2 with rfl | rfl | rfl
  ·exact kTok101_ok w b1 b2 l b0 c b R F ep n tn epb hld hc hb hR
  ·exact kTok102_ok w b1 b2 l b0 c b R F ep n tn epb hld hc hb hR
  ·exact kTok103_ok w b1 b2 l b0 c b R F ep n tn epb hld hc hb hR
  ·exact kTok111_ok w b1 b2 l b0 c b R F ep n tn epb hld hc hb hR
  ·exact kTok112_ok w b1 b2 l b0 c b R F ep n tn epb hld hc hb hR
  ·exact kTok113_ok w b1 b2 l b0 c b R F ep n tn epb hld hc hb hR
  ·exact kTok121_ok w b1 b2 l b0 c b R F ep n tn epb hld hc hb hR
  ·exact kTok122_ok w b1 b2 l b0 c b R F ep n tn epb hld hc hb hR
  ·exact kTok123_ok w b1 b2 l b0 c b R F ep n tn epb hld hc hb hR
noncomputable def kEnd (P:Params) (l:LA) (ld:Option Nat) (F:Nat→Tok) (ep:Nat) (n:Int) (tn:Tok) (epb:Nat):Con :=
 ⟨.call (.ref 147) ⟨[.ref l.X],[]⟩,lexNeed P l (mkV (ldN ld []) F) ep n tn [] epb,fun xs=>(lexNeed P l [] (ep+(ldN ld []).length) (nA ld 1 0 n) (xs 1) [] epb).map (·.2),fun _=>[],fun xs=>.ok (.ret (.str st0 (xs 0)))⟩
theorem kEnd_ok (w:World) (b1 b2:Bool) (l:LA) (ld:Option Nat) (F:Nat→Tok) (ep:Nat) (n:Int) (tn:Tok) (epb:Nat) (hld:okLd ld):(kEnd (Pw w b1 b2) l ld F ep n tn epb).Ok2 w b1 b2 169:=by
 cases ld with
 | none=>exact (kGT0_ok w b1 b2 l ep n tn epb).conv (by kernel_rfl)
 | some b0=>exact (kGT1_ok w b1 b2 l b0 (F 0) ep n (n+nlB b0) tn epb (bl_ws hld) (bl_nl hld n)).conv (by kernel_rfl)
end Mine
namespace Mine
noncomputable def mkI (ns:List (Int×Tok)):List Value:=ns.map fun p=>.int p.1 p.2
noncomputable def up6 (v:Nat→Int) (j:Nat) (x:Int):Nat→Int:=fun k=>match Nat.beq k j with
 | true=>x
 | false=>v k
noncomputable def foN6 (i:Nat) (rem:List (Int×Tok)) (v:Nat→Int):Nat→Int:=match rem with
 | []=>v
 | p::rem=>foN6 (i+1) rem (up6 v (i % 6) (v (i % 6)+p.1.fmod 1000000))
noncomputable def l6 (v:Nat→Int) (t:Nat→Tok):List Value:=[.int (v 0) (t 0),.int (v 1) (t 1),.int (v 2) (t 2),.int (v 3) (t 3),.int (v 4) (t 4),.int (v 5) (t 5)]
noncomputable def enO (it:Addr) (k:Int) (v:Value):Obj:={cls:=.type "enumerate",data:=.fields ⟨[.none,.bool false,.ref it,.int k 0,.none,v]⟩}
noncomputable def nuS (P:Params):Stmt:=stN (stsOf P 168) 1
noncomputable def nuC (P:Params) (E L:Addr):Code:=forCode (nuS P) (.ref E) (envAt P 168 "_law_numbers.<locals>." L [])
noncomputable def kNu (P:Params) (L E I S A:Addr) (kt:Nat→Tok) (fe:Nat) (sc:Value) (its:List Value) (es ea:Nat) (k:Int) (pl nl:Int) (tp tn:Tok) (v:Nat→Int) (t:Nat→Tok) (k' pl' nl':Int) (v':Nat→Int):Con :=
 ⟨nuC P E L,[(L,{cls:=.type "frame",data:=.dict ⟨dE P kt 0 [("script",sc),("numbers",.ref A),("place",.int pl tp),("number",.int nl tn)]⟩ fe}),(E,enO I k (.int nl tn)),(I,lisIt (.ref S) k 0),(S,lsO its es),(A,lsO (l6 v t) ea)],
  fun xs=>[{cls:=.type "frame",data:=.dict ⟨dE P kt 0 [("script",sc),("numbers",.ref A),("place",.int pl' (xs 0)),("number",.int nl' (xs 1))]⟩ fe},enO I k' (.int nl' (xs 1)),lisIt .none k' 0,lsO its es,lsO (l6 v' fun j=>xs (j+2)) ea],fun _=>[],fun _=>.ok .next⟩
noncomputable def fNu (P:Params) (sc:Value) (its:List Value) (k pl nl:Int) (v:Nat→Int) (k' pl' nl':Int) (v':Nat→Int):Fam:=fam1 fun _ os =>
 kNu P (adN os 0) (adN os 1) (adN os 2) (adN os 3) (adN os 4) (fun j=>tokV (keyN os 0 j)) (epN os 0) sc its (epN os 3) (epN os 4) k pl nl (tokV (vN os 0 2)) (tokV (vN os 0 3)) v (fun j=>tokV (vN os 4 j)) k' pl' nl' v'
theorem kNuE_ok (w:World) (b1 b2:Bool) (L E I S A:Addr) (kt:Nat→Tok) (fe:Nat) (sc:Value) (its:List Value) (es ea:Nat) (k pl nl:Int) (tp tn:Tok) (v:Nat→Int) (t:Nat→Tok) (h:its[k.toNat]?=none) :
  (kNu (Pw w b1 b2) L E I S A kt fe sc its es ea k pl nl tp tn v t k pl nl v).Ok2 w b1 b2 84 :=
 Con.of2 42 [3,3,3,5,5,4] [uS 3 (fNextLE ⟨its⟩ k) [5,7]] [] (fun _ _ _ j=>match j with | 0=>tp | 1=>tn | j+2=>t j) ⟨fNextLE_ok (by simpa using h),trivial⟩
noncomputable def hsNu:List Nat:=hD 71 0x92492492412492490410410412041021041041040841041041021041041020820830c20820820c30c30c30c30c30c30c30c51430c3
end Mine
namespace Mine
theorem kNuT1_ok (w:World) (b1 b2:Bool) (L E I S A:Addr) (kt:Nat→Tok) (fe:Nat) (sc:Value) (its:List Value) (es ea:Nat) (pl nl:Int) (tp tn:Tok) (v:Nat→Int) (t:Nat→Tok) (k' pl' nl':Int) (v':Nat→Int) (x:Int) (tx:Tok) (h:its[1]?=some (.int x tx))
  (ih:(fNu (Pw w b1 b2) sc its 2 1 x (up6 v 1 (v 1+x.fmod 1000000)) k' pl' nl' v').Ok2 w b1 b2 84) :
  (kNu (Pw w b1 b2) L E I S A kt fe sc its es ea 1 pl nl tp tn v t k' pl' nl' v').Ok2 w b1 b2 84:=by
 cases b1 with
 | false=>exact Con.of2 42 hsNu [uS 3 (fNextL ⟨its⟩ 1 (.int x tx)) [5,7],uS 19 (fIIi "int.__mod__" x 1000000 (x.fmod 1000000)) [],⟨24,fNu (Pw w false b2) sc its 2 1 x (up6 v 1 (v 1+x.fmod 1000000)) k' pl' nl' v',[1,3,5,7,9],true⟩] [] (fun _ _ sg j=>sg 2 (j+2)) ⟨fNextL_ok (by simpa using h),int_mod_ok rfl rfl,ih,trivial⟩
 | true=>exact Con.of2 42 hsNu [uS 3 (fNextL ⟨its⟩ 1 (.int x tx)) [5,7],uS 19 (fIIi "int.__mod__" x 1000000 (x.fmod 1000000)) [],⟨24,fNu (Pw w true b2) sc its 2 1 x (up6 v 1 (v 1+x.fmod 1000000)) k' pl' nl' v',[1,3,5,7,9],true⟩] [] (fun _ _ sg j=>sg 2 (j+2)) ⟨fNextL_ok (by simpa using h),int_mod_ok rfl rfl,ih,trivial⟩
end Mine
namespace Mine
theorem kNuT2_ok (w:World) (b1 b2:Bool) (L E I S A:Addr) (kt:Nat→Tok) (fe:Nat) (sc:Value) (its:List Value) (es ea:Nat) (pl nl:Int) (tp tn:Tok) (v:Nat→Int) (t:Nat→Tok) (k' pl' nl':Int) (v':Nat→Int) (x:Int) (tx:Tok) (h:its[2]?=some (.int x tx))
  (ih:(fNu (Pw w b1 b2) sc its 3 2 x (up6 v 2 (v 2+x.fmod 1000000)) k' pl' nl' v').Ok2 w b1 b2 84) :
  (kNu (Pw w b1 b2) L E I S A kt fe sc its es ea 2 pl nl tp tn v t k' pl' nl' v').Ok2 w b1 b2 84:=by
 cases b1 with
 | false=>exact Con.of2 42 hsNu [uS 3 (fNextL ⟨its⟩ 2 (.int x tx)) [5,7],uS 19 (fIIi "int.__mod__" x 1000000 (x.fmod 1000000)) [],⟨24,fNu (Pw w false b2) sc its 3 2 x (up6 v 2 (v 2+x.fmod 1000000)) k' pl' nl' v',[1,3,5,7,9],true⟩] [] (fun _ _ sg j=>sg 2 (j+2)) ⟨fNextL_ok (by simpa using h),int_mod_ok rfl rfl,ih,trivial⟩
 | true=>exact Con.of2 42 hsNu [uS 3 (fNextL ⟨its⟩ 2 (.int x tx)) [5,7],uS 19 (fIIi "int.__mod__" x 1000000 (x.fmod 1000000)) [],⟨24,fNu (Pw w true b2) sc its 3 2 x (up6 v 2 (v 2+x.fmod 1000000)) k' pl' nl' v',[1,3,5,7,9],true⟩] [] (fun _ _ sg j=>sg 2 (j+2)) ⟨fNextL_ok (by simpa using h),int_mod_ok rfl rfl,ih,trivial⟩
end Mine
namespace Mine
theorem kNuT3_ok (w:World) (b1 b2:Bool) (L E I S A:Addr) (kt:Nat→Tok) (fe:Nat) (sc:Value) (its:List Value) (es ea:Nat) (pl nl:Int) (tp tn:Tok) (v:Nat→Int) (t:Nat→Tok) (k' pl' nl':Int) (v':Nat→Int) (x:Int) (tx:Tok) (h:its[3]?=some (.int x tx))
  (ih:(fNu (Pw w b1 b2) sc its 4 3 x (up6 v 3 (v 3+x.fmod 1000000)) k' pl' nl' v').Ok2 w b1 b2 84) :
  (kNu (Pw w b1 b2) L E I S A kt fe sc its es ea 3 pl nl tp tn v t k' pl' nl' v').Ok2 w b1 b2 84:=by
 cases b1 with
 | false=>exact Con.of2 42 hsNu [uS 3 (fNextL ⟨its⟩ 3 (.int x tx)) [5,7],uS 19 (fIIi "int.__mod__" x 1000000 (x.fmod 1000000)) [],⟨24,fNu (Pw w false b2) sc its 4 3 x (up6 v 3 (v 3+x.fmod 1000000)) k' pl' nl' v',[1,3,5,7,9],true⟩] [] (fun _ _ sg j=>sg 2 (j+2)) ⟨fNextL_ok (by simpa using h),int_mod_ok rfl rfl,ih,trivial⟩
 | true=>exact Con.of2 42 hsNu [uS 3 (fNextL ⟨its⟩ 3 (.int x tx)) [5,7],uS 19 (fIIi "int.__mod__" x 1000000 (x.fmod 1000000)) [],⟨24,fNu (Pw w true b2) sc its 4 3 x (up6 v 3 (v 3+x.fmod 1000000)) k' pl' nl' v',[1,3,5,7,9],true⟩] [] (fun _ _ sg j=>sg 2 (j+2)) ⟨fNextL_ok (by simpa using h),int_mod_ok rfl rfl,ih,trivial⟩
end Mine
namespace Mine
theorem kNuT4_ok (w:World) (b1 b2:Bool) (L E I S A:Addr) (kt:Nat→Tok) (fe:Nat) (sc:Value) (its:List Value) (es ea:Nat) (pl nl:Int) (tp tn:Tok) (v:Nat→Int) (t:Nat→Tok) (k' pl' nl':Int) (v':Nat→Int) (x:Int) (tx:Tok) (h:its[4]?=some (.int x tx))
  (ih:(fNu (Pw w b1 b2) sc its 5 4 x (up6 v 4 (v 4+x.fmod 1000000)) k' pl' nl' v').Ok2 w b1 b2 84) :
  (kNu (Pw w b1 b2) L E I S A kt fe sc its es ea 4 pl nl tp tn v t k' pl' nl' v').Ok2 w b1 b2 84:=by
 cases b1 with
 | false=>exact Con.of2 42 hsNu [uS 3 (fNextL ⟨its⟩ 4 (.int x tx)) [5,7],uS 19 (fIIi "int.__mod__" x 1000000 (x.fmod 1000000)) [],⟨24,fNu (Pw w false b2) sc its 5 4 x (up6 v 4 (v 4+x.fmod 1000000)) k' pl' nl' v',[1,3,5,7,9],true⟩] [] (fun _ _ sg j=>sg 2 (j+2)) ⟨fNextL_ok (by simpa using h),int_mod_ok rfl rfl,ih,trivial⟩
 | true=>exact Con.of2 42 hsNu [uS 3 (fNextL ⟨its⟩ 4 (.int x tx)) [5,7],uS 19 (fIIi "int.__mod__" x 1000000 (x.fmod 1000000)) [],⟨24,fNu (Pw w true b2) sc its 5 4 x (up6 v 4 (v 4+x.fmod 1000000)) k' pl' nl' v',[1,3,5,7,9],true⟩] [] (fun _ _ sg j=>sg 2 (j+2)) ⟨fNextL_ok (by simpa using h),int_mod_ok rfl rfl,ih,trivial⟩
end Mine
namespace Mine
theorem kNuT5_ok (w:World) (b1 b2:Bool) (L E I S A:Addr) (kt:Nat→Tok) (fe:Nat) (sc:Value) (its:List Value) (es ea:Nat) (pl nl:Int) (tp tn:Tok) (v:Nat→Int) (t:Nat→Tok) (k' pl' nl':Int) (v':Nat→Int) (x:Int) (tx:Tok) (h:its[5]?=some (.int x tx))
  (ih:(fNu (Pw w b1 b2) sc its 6 5 x (up6 v 5 (v 5+x.fmod 1000000)) k' pl' nl' v').Ok2 w b1 b2 84) :
  (kNu (Pw w b1 b2) L E I S A kt fe sc its es ea 5 pl nl tp tn v t k' pl' nl' v').Ok2 w b1 b2 84:=by
 cases b1 with
 | false=>exact Con.of2 42 hsNu [uS 3 (fNextL ⟨its⟩ 5 (.int x tx)) [5,7],uS 19 (fIIi "int.__mod__" x 1000000 (x.fmod 1000000)) [],⟨24,fNu (Pw w false b2) sc its 6 5 x (up6 v 5 (v 5+x.fmod 1000000)) k' pl' nl' v',[1,3,5,7,9],true⟩] [] (fun _ _ sg j=>sg 2 (j+2)) ⟨fNextL_ok (by simpa using h),int_mod_ok rfl rfl,ih,trivial⟩
 | true=>exact Con.of2 42 hsNu [uS 3 (fNextL ⟨its⟩ 5 (.int x tx)) [5,7],uS 19 (fIIi "int.__mod__" x 1000000 (x.fmod 1000000)) [],⟨24,fNu (Pw w true b2) sc its 6 5 x (up6 v 5 (v 5+x.fmod 1000000)) k' pl' nl' v',[1,3,5,7,9],true⟩] [] (fun _ _ sg j=>sg 2 (j+2)) ⟨fNextL_ok (by simpa using h),int_mod_ok rfl rfl,ih,trivial⟩
end Mine
namespace Mine
theorem kNuT6_ok (w:World) (b1 b2:Bool) (L E I S A:Addr) (kt:Nat→Tok) (fe:Nat) (sc:Value) (its:List Value) (es ea:Nat) (pl nl:Int) (tp tn:Tok) (v:Nat→Int) (t:Nat→Tok) (k' pl' nl':Int) (v':Nat→Int) (x:Int) (tx:Tok) (h:its[6]?=some (.int x tx))
  (ih:(fNu (Pw w b1 b2) sc its 7 6 x (up6 v 0 (v 0+x.fmod 1000000)) k' pl' nl' v').Ok2 w b1 b2 84) :
  (kNu (Pw w b1 b2) L E I S A kt fe sc its es ea 6 pl nl tp tn v t k' pl' nl' v').Ok2 w b1 b2 84:=by
 cases b1 with
 | false=>exact Con.of2 42 hsNu [uS 3 (fNextL ⟨its⟩ 6 (.int x tx)) [5,7],uS 19 (fIIi "int.__mod__" x 1000000 (x.fmod 1000000)) [],⟨24,fNu (Pw w false b2) sc its 7 6 x (up6 v 0 (v 0+x.fmod 1000000)) k' pl' nl' v',[1,3,5,7,9],true⟩] [] (fun _ _ sg j=>sg 2 (j+2)) ⟨fNextL_ok (by simpa using h),int_mod_ok rfl rfl,ih,trivial⟩
 | true=>exact Con.of2 42 hsNu [uS 3 (fNextL ⟨its⟩ 6 (.int x tx)) [5,7],uS 19 (fIIi "int.__mod__" x 1000000 (x.fmod 1000000)) [],⟨24,fNu (Pw w true b2) sc its 7 6 x (up6 v 0 (v 0+x.fmod 1000000)) k' pl' nl' v',[1,3,5,7,9],true⟩] [] (fun _ _ sg j=>sg 2 (j+2)) ⟨fNextL_ok (by simpa using h),int_mod_ok rfl rfl,ih,trivial⟩
end Mine
namespace Mine
theorem kNuT7_ok (w:World) (b1 b2:Bool) (L E I S A:Addr) (kt:Nat→Tok) (fe:Nat) (sc:Value) (its:List Value) (es ea:Nat) (pl nl:Int) (tp tn:Tok) (v:Nat→Int) (t:Nat→Tok) (k' pl' nl':Int) (v':Nat→Int) (x:Int) (tx:Tok) (h:its[7]?=some (.int x tx))
  (ih:(fNu (Pw w b1 b2) sc its 8 7 x (up6 v 1 (v 1+x.fmod 1000000)) k' pl' nl' v').Ok2 w b1 b2 84) :
  (kNu (Pw w b1 b2) L E I S A kt fe sc its es ea 7 pl nl tp tn v t k' pl' nl' v').Ok2 w b1 b2 84:=by
 cases b1 with
 | false=>exact Con.of2 42 hsNu [uS 3 (fNextL ⟨its⟩ 7 (.int x tx)) [5,7],uS 19 (fIIi "int.__mod__" x 1000000 (x.fmod 1000000)) [],⟨24,fNu (Pw w false b2) sc its 8 7 x (up6 v 1 (v 1+x.fmod 1000000)) k' pl' nl' v',[1,3,5,7,9],true⟩] [] (fun _ _ sg j=>sg 2 (j+2)) ⟨fNextL_ok (by simpa using h),int_mod_ok rfl rfl,ih,trivial⟩
 | true=>exact Con.of2 42 hsNu [uS 3 (fNextL ⟨its⟩ 7 (.int x tx)) [5,7],uS 19 (fIIi "int.__mod__" x 1000000 (x.fmod 1000000)) [],⟨24,fNu (Pw w true b2) sc its 8 7 x (up6 v 1 (v 1+x.fmod 1000000)) k' pl' nl' v',[1,3,5,7,9],true⟩] [] (fun _ _ sg j=>sg 2 (j+2)) ⟨fNextL_ok (by simpa using h),int_mod_ok rfl rfl,ih,trivial⟩
end Mine
namespace Mine
theorem kNuT8_ok (w:World) (b1 b2:Bool) (L E I S A:Addr) (kt:Nat→Tok) (fe:Nat) (sc:Value) (its:List Value) (es ea:Nat) (pl nl:Int) (tp tn:Tok) (v:Nat→Int) (t:Nat→Tok) (k' pl' nl':Int) (v':Nat→Int) (x:Int) (tx:Tok) (h:its[8]?=some (.int x tx))
  (ih:(fNu (Pw w b1 b2) sc its 9 8 x (up6 v 2 (v 2+x.fmod 1000000)) k' pl' nl' v').Ok2 w b1 b2 84) :
  (kNu (Pw w b1 b2) L E I S A kt fe sc its es ea 8 pl nl tp tn v t k' pl' nl' v').Ok2 w b1 b2 84:=by
 cases b1 with
 | false=>exact Con.of2 42 hsNu [uS 3 (fNextL ⟨its⟩ 8 (.int x tx)) [5,7],uS 19 (fIIi "int.__mod__" x 1000000 (x.fmod 1000000)) [],⟨24,fNu (Pw w false b2) sc its 9 8 x (up6 v 2 (v 2+x.fmod 1000000)) k' pl' nl' v',[1,3,5,7,9],true⟩] [] (fun _ _ sg j=>sg 2 (j+2)) ⟨fNextL_ok (by simpa using h),int_mod_ok rfl rfl,ih,trivial⟩
 | true=>exact Con.of2 42 hsNu [uS 3 (fNextL ⟨its⟩ 8 (.int x tx)) [5,7],uS 19 (fIIi "int.__mod__" x 1000000 (x.fmod 1000000)) [],⟨24,fNu (Pw w true b2) sc its 9 8 x (up6 v 2 (v 2+x.fmod 1000000)) k' pl' nl' v',[1,3,5,7,9],true⟩] [] (fun _ _ sg j=>sg 2 (j+2)) ⟨fNextL_ok (by simpa using h),int_mod_ok rfl rfl,ih,trivial⟩
end Mine
namespace Mine
theorem kNuT9_ok (w:World) (b1 b2:Bool) (L E I S A:Addr) (kt:Nat→Tok) (fe:Nat) (sc:Value) (its:List Value) (es ea:Nat) (pl nl:Int) (tp tn:Tok) (v:Nat→Int) (t:Nat→Tok) (k' pl' nl':Int) (v':Nat→Int) (x:Int) (tx:Tok) (h:its[9]?=some (.int x tx))
  (ih:(fNu (Pw w b1 b2) sc its 10 9 x (up6 v 3 (v 3+x.fmod 1000000)) k' pl' nl' v').Ok2 w b1 b2 84) :
  (kNu (Pw w b1 b2) L E I S A kt fe sc its es ea 9 pl nl tp tn v t k' pl' nl' v').Ok2 w b1 b2 84:=by
 cases b1 with
 | false=>exact Con.of2 42 hsNu [uS 3 (fNextL ⟨its⟩ 9 (.int x tx)) [5,7],uS 19 (fIIi "int.__mod__" x 1000000 (x.fmod 1000000)) [],⟨24,fNu (Pw w false b2) sc its 10 9 x (up6 v 3 (v 3+x.fmod 1000000)) k' pl' nl' v',[1,3,5,7,9],true⟩] [] (fun _ _ sg j=>sg 2 (j+2)) ⟨fNextL_ok (by simpa using h),int_mod_ok rfl rfl,ih,trivial⟩
 | true=>exact Con.of2 42 hsNu [uS 3 (fNextL ⟨its⟩ 9 (.int x tx)) [5,7],uS 19 (fIIi "int.__mod__" x 1000000 (x.fmod 1000000)) [],⟨24,fNu (Pw w true b2) sc its 10 9 x (up6 v 3 (v 3+x.fmod 1000000)) k' pl' nl' v',[1,3,5,7,9],true⟩] [] (fun _ _ sg j=>sg 2 (j+2)) ⟨fNextL_ok (by simpa using h),int_mod_ok rfl rfl,ih,trivial⟩
end Mine
namespace Mine
theorem kNuT10_ok (w:World) (b1 b2:Bool) (L E I S A:Addr) (kt:Nat→Tok) (fe:Nat) (sc:Value) (its:List Value) (es ea:Nat) (pl nl:Int) (tp tn:Tok) (v:Nat→Int) (t:Nat→Tok) (k' pl' nl':Int) (v':Nat→Int) (x:Int) (tx:Tok) (h:its[10]?=some (.int x tx))
  (ih:(fNu (Pw w b1 b2) sc its 11 10 x (up6 v 4 (v 4+x.fmod 1000000)) k' pl' nl' v').Ok2 w b1 b2 84) :
  (kNu (Pw w b1 b2) L E I S A kt fe sc its es ea 10 pl nl tp tn v t k' pl' nl' v').Ok2 w b1 b2 84:=by
 cases b1 with
 | false=>exact Con.of2 42 hsNu [uS 3 (fNextL ⟨its⟩ 10 (.int x tx)) [5,7],uS 19 (fIIi "int.__mod__" x 1000000 (x.fmod 1000000)) [],⟨24,fNu (Pw w false b2) sc its 11 10 x (up6 v 4 (v 4+x.fmod 1000000)) k' pl' nl' v',[1,3,5,7,9],true⟩] [] (fun _ _ sg j=>sg 2 (j+2)) ⟨fNextL_ok (by simpa using h),int_mod_ok rfl rfl,ih,trivial⟩
 | true=>exact Con.of2 42 hsNu [uS 3 (fNextL ⟨its⟩ 10 (.int x tx)) [5,7],uS 19 (fIIi "int.__mod__" x 1000000 (x.fmod 1000000)) [],⟨24,fNu (Pw w true b2) sc its 11 10 x (up6 v 4 (v 4+x.fmod 1000000)) k' pl' nl' v',[1,3,5,7,9],true⟩] [] (fun _ _ sg j=>sg 2 (j+2)) ⟨fNextL_ok (by simpa using h),int_mod_ok rfl rfl,ih,trivial⟩
end Mine
namespace Mine
theorem kNuT11_ok (w:World) (b1 b2:Bool) (L E I S A:Addr) (kt:Nat→Tok) (fe:Nat) (sc:Value) (its:List Value) (es ea:Nat) (pl nl:Int) (tp tn:Tok) (v:Nat→Int) (t:Nat→Tok) (k' pl' nl':Int) (v':Nat→Int) (x:Int) (tx:Tok) (h:its[11]?=some (.int x tx))
  (ih:(fNu (Pw w b1 b2) sc its 12 11 x (up6 v 5 (v 5+x.fmod 1000000)) k' pl' nl' v').Ok2 w b1 b2 84) :
  (kNu (Pw w b1 b2) L E I S A kt fe sc its es ea 11 pl nl tp tn v t k' pl' nl' v').Ok2 w b1 b2 84:=by
 cases b1 with
 | false=>exact Con.of2 42 hsNu [uS 3 (fNextL ⟨its⟩ 11 (.int x tx)) [5,7],uS 19 (fIIi "int.__mod__" x 1000000 (x.fmod 1000000)) [],⟨24,fNu (Pw w false b2) sc its 12 11 x (up6 v 5 (v 5+x.fmod 1000000)) k' pl' nl' v',[1,3,5,7,9],true⟩] [] (fun _ _ sg j=>sg 2 (j+2)) ⟨fNextL_ok (by simpa using h),int_mod_ok rfl rfl,ih,trivial⟩
 | true=>exact Con.of2 42 hsNu [uS 3 (fNextL ⟨its⟩ 11 (.int x tx)) [5,7],uS 19 (fIIi "int.__mod__" x 1000000 (x.fmod 1000000)) [],⟨24,fNu (Pw w true b2) sc its 12 11 x (up6 v 5 (v 5+x.fmod 1000000)) k' pl' nl' v',[1,3,5,7,9],true⟩] [] (fun _ _ sg j=>sg 2 (j+2)) ⟨fNextL_ok (by simpa using h),int_mod_ok rfl rfl,ih,trivial⟩
end Mine
namespace Mine
noncomputable def kNu0 (P:Params) (L E I S A:Addr) (k1 k2:Tok) (fe:Nat) (sc:Value) (its:List Value) (es ea:Nat) (v:Nat→Int) (t:Nat→Tok) (k' pl' nl':Int) (v':Nat→Int):Con :=
 ⟨nuC P E L,[(L,{cls:=.type "frame",data:=.dict ⟨dE P (fun j=>match j with | 0=>k1 | _=>k2) 0 [("script",sc),("numbers",.ref A)]⟩ fe}),(E,enO I 0 .none),(I,lisIt (.ref S) 0 0),(S,lsO its es),(A,lsO (l6 v t) ea)],
  fun xs=>[{cls:=.type "frame",data:=.dict ⟨dE P (fun j=>match j with | 0=>k1 | 1=>k2 | j+2=>xs j) 0 [("script",sc),("numbers",.ref A),("place",.int pl' (xs 2)),("number",.int nl' (xs 3))]⟩ (fe+2)},enO I k' (.int nl' (xs 3)),lisIt .none k' 0,lsO its es,lsO (l6 v' fun j=>xs (j+4)) ea],fun _=>[],fun _=>.ok .next⟩
theorem kNuT0_ok (w:World) (b1 b2:Bool) (L E I S A:Addr) (k1 k2:Tok) (fe:Nat) (sc:Value) (its:List Value) (es ea:Nat) (v:Nat→Int) (t:Nat→Tok) (k' pl' nl':Int) (v':Nat→Int) (x:Int) (tx:Tok) (h:its[0]?=some (.int x tx))
  (ih:(fNu (Pw w b1 b2) sc its 1 0 x (up6 v 0 (v 0+x.fmod 1000000)) k' pl' nl' v').Ok2 w b1 b2 84) :
  (kNu0 (Pw w b1 b2) L E I S A k1 k2 fe sc its es ea v t k' pl' nl' v').Ok2 w b1 b2 84:=by
 cases b1 with
 | false=>exact Con.of2 42 hsNu [uS 3 (fNextL ⟨its⟩ 0 (.int x tx)) [5,7],uS 19 (fIIi "int.__mod__" x 1000000 (x.fmod 1000000)) [],⟨24,fNu (Pw w false b2) sc its 1 0 x (up6 v 0 (v 0+x.fmod 1000000)) k' pl' nl' v',[1,3,5,7,9],true⟩] [] (fun _ _ sg j=>match j with | 0=>sg 0 1+1 | 1=>sg 0 1+2 | j+2=>sg 2 (j+2)) ⟨fNextL_ok (by simpa using h),int_mod_ok rfl rfl,ih,trivial⟩
 | true=>exact Con.of2 42 hsNu [uS 3 (fNextL ⟨its⟩ 0 (.int x tx)) [5,7],uS 19 (fIIi "int.__mod__" x 1000000 (x.fmod 1000000)) [],⟨24,fNu (Pw w true b2) sc its 1 0 x (up6 v 0 (v 0+x.fmod 1000000)) k' pl' nl' v',[1,3,5,7,9],true⟩] [] (fun _ _ sg j=>match j with | 0=>sg 0 1+1 | 1=>sg 0 1+2 | j+2=>sg 2 (j+2)) ⟨fNextL_ok (by simpa using h),int_mod_ok rfl rfl,ih,trivial⟩
end Mine
namespace Mine
noncomputable def NuOk (w:World) (b1 b2:Bool) (ns:List (Int×Tok)) (i:Nat) (ii:Int):Prop:=∀ sc pl nl v,∃ k' pl' nl',(fNu (Pw w b1 b2) sc (mkI ns) ii pl nl v k' pl' nl' (foN6 i (ns.drop i) v)).Ok2 w b1 b2 84
theorem mkI_at {ns:List (Int×Tok)} {i:Nat} (h:i<ns.length):(mkI ns)[i]?=some (.int ns[i].1 ns[i].2):=by
 unfold mkI; rw [List.getElem?_map,List.getElem?_eq_getElem h]; rfl
theorem mkI_no {ns:List (Int×Tok)} {i:Nat} (h:ns.length≤i):(mkI ns)[i]?=none:=by
 unfold mkI; rw [List.getElem?_map,List.getElem?_eq_none h]; rfl
theorem nuEnd (w:World) (b1 b2:Bool) {ns:List (Int×Tok)} {i:Nat} {ii:Int} (e:ii.toNat=i) (h:ns.length≤i):NuOk w b1 b2 ns i ii:=fun sc pl nl v=>by
 rw [List.drop_eq_nil_of_le h]
 exact ⟨ii,pl,nl,fam1_ok fun _ _=>kNuE_ok w b1 b2 _ _ _ _ _ _ _ _ _ _ _ _ _ _ _ _ _ _ (by rw [e]; exact mkI_no h)⟩
theorem nuS1 (w:World) (b1 b2:Bool) {ns:List (Int×Tok)} (h:1<ns.length) (ih:NuOk w b1 b2 ns 2 2):NuOk w b1 b2 ns 1 1:=fun sc pl nl v=>by
 rw [List.drop_eq_getElem_cons h]
 obtain ⟨k',pl',nl',H⟩:=ih sc 1 ns[1].1 (up6 v 1 (v 1+ns[1].1.fmod 1000000))
 exact ⟨k',pl',nl',fam1_ok fun _ _=>kNuT1_ok w b1 b2 _ _ _ _ _ _ _ _ _ _ _ _ _ _ _ _ _ _ _ _ _ _ _ (mkI_at h) H⟩
theorem nuS2 (w:World) (b1 b2:Bool) {ns:List (Int×Tok)} (h:2<ns.length) (ih:NuOk w b1 b2 ns 3 3):NuOk w b1 b2 ns 2 2:=fun sc pl nl v=>by
 rw [List.drop_eq_getElem_cons h]
 obtain ⟨k',pl',nl',H⟩:=ih sc 2 ns[2].1 (up6 v 2 (v 2+ns[2].1.fmod 1000000))
 exact ⟨k',pl',nl',fam1_ok fun _ _=>kNuT2_ok w b1 b2 _ _ _ _ _ _ _ _ _ _ _ _ _ _ _ _ _ _ _ _ _ _ _ (mkI_at h) H⟩
theorem nuS3 (w:World) (b1 b2:Bool) {ns:List (Int×Tok)} (h:3<ns.length) (ih:NuOk w b1 b2 ns 4 4):NuOk w b1 b2 ns 3 3:=fun sc pl nl v=>by
 rw [List.drop_eq_getElem_cons h]
 obtain ⟨k',pl',nl',H⟩:=ih sc 3 ns[3].1 (up6 v 3 (v 3+ns[3].1.fmod 1000000))
 exact ⟨k',pl',nl',fam1_ok fun _ _=>kNuT3_ok w b1 b2 _ _ _ _ _ _ _ _ _ _ _ _ _ _ _ _ _ _ _ _ _ _ _ (mkI_at h) H⟩
theorem nuS4 (w:World) (b1 b2:Bool) {ns:List (Int×Tok)} (h:4<ns.length) (ih:NuOk w b1 b2 ns 5 5):NuOk w b1 b2 ns 4 4:=fun sc pl nl v=>by
 rw [List.drop_eq_getElem_cons h]
 obtain ⟨k',pl',nl',H⟩:=ih sc 4 ns[4].1 (up6 v 4 (v 4+ns[4].1.fmod 1000000))
 exact ⟨k',pl',nl',fam1_ok fun _ _=>kNuT4_ok w b1 b2 _ _ _ _ _ _ _ _ _ _ _ _ _ _ _ _ _ _ _ _ _ _ _ (mkI_at h) H⟩
theorem nuS5 (w:World) (b1 b2:Bool) {ns:List (Int×Tok)} (h:5<ns.length) (ih:NuOk w b1 b2 ns 6 6):NuOk w b1 b2 ns 5 5:=fun sc pl nl v=>by
 rw [List.drop_eq_getElem_cons h]
 obtain ⟨k',pl',nl',H⟩:=ih sc 5 ns[5].1 (up6 v 5 (v 5+ns[5].1.fmod 1000000))
 exact ⟨k',pl',nl',fam1_ok fun _ _=>kNuT5_ok w b1 b2 _ _ _ _ _ _ _ _ _ _ _ _ _ _ _ _ _ _ _ _ _ _ _ (mkI_at h) H⟩
theorem nuS6 (w:World) (b1 b2:Bool) {ns:List (Int×Tok)} (h:6<ns.length) (ih:NuOk w b1 b2 ns 7 7):NuOk w b1 b2 ns 6 6:=fun sc pl nl v=>by
 rw [List.drop_eq_getElem_cons h]
 obtain ⟨k',pl',nl',H⟩:=ih sc 6 ns[6].1 (up6 v 0 (v 0+ns[6].1.fmod 1000000))
 exact ⟨k',pl',nl',fam1_ok fun _ _=>kNuT6_ok w b1 b2 _ _ _ _ _ _ _ _ _ _ _ _ _ _ _ _ _ _ _ _ _ _ _ (mkI_at h) H⟩
theorem nuS7 (w:World) (b1 b2:Bool) {ns:List (Int×Tok)} (h:7<ns.length) (ih:NuOk w b1 b2 ns 8 8):NuOk w b1 b2 ns 7 7:=fun sc pl nl v=>by
 rw [List.drop_eq_getElem_cons h]
 obtain ⟨k',pl',nl',H⟩:=ih sc 7 ns[7].1 (up6 v 1 (v 1+ns[7].1.fmod 1000000))
 exact ⟨k',pl',nl',fam1_ok fun _ _=>kNuT7_ok w b1 b2 _ _ _ _ _ _ _ _ _ _ _ _ _ _ _ _ _ _ _ _ _ _ _ (mkI_at h) H⟩
theorem nuS8 (w:World) (b1 b2:Bool) {ns:List (Int×Tok)} (h:8<ns.length) (ih:NuOk w b1 b2 ns 9 9):NuOk w b1 b2 ns 8 8:=fun sc pl nl v=>by
 rw [List.drop_eq_getElem_cons h]
 obtain ⟨k',pl',nl',H⟩:=ih sc 8 ns[8].1 (up6 v 2 (v 2+ns[8].1.fmod 1000000))
 exact ⟨k',pl',nl',fam1_ok fun _ _=>kNuT8_ok w b1 b2 _ _ _ _ _ _ _ _ _ _ _ _ _ _ _ _ _ _ _ _ _ _ _ (mkI_at h) H⟩
theorem nuS9 (w:World) (b1 b2:Bool) {ns:List (Int×Tok)} (h:9<ns.length) (ih:NuOk w b1 b2 ns 10 10):NuOk w b1 b2 ns 9 9:=fun sc pl nl v=>by
 rw [List.drop_eq_getElem_cons h]
 obtain ⟨k',pl',nl',H⟩:=ih sc 9 ns[9].1 (up6 v 3 (v 3+ns[9].1.fmod 1000000))
 exact ⟨k',pl',nl',fam1_ok fun _ _=>kNuT9_ok w b1 b2 _ _ _ _ _ _ _ _ _ _ _ _ _ _ _ _ _ _ _ _ _ _ _ (mkI_at h) H⟩
theorem nuS10 (w:World) (b1 b2:Bool) {ns:List (Int×Tok)} (h:10<ns.length) (ih:NuOk w b1 b2 ns 11 11):NuOk w b1 b2 ns 10 10:=fun sc pl nl v=>by
 rw [List.drop_eq_getElem_cons h]
 obtain ⟨k',pl',nl',H⟩:=ih sc 10 ns[10].1 (up6 v 4 (v 4+ns[10].1.fmod 1000000))
 exact ⟨k',pl',nl',fam1_ok fun _ _=>kNuT10_ok w b1 b2 _ _ _ _ _ _ _ _ _ _ _ _ _ _ _ _ _ _ _ _ _ _ _ (mkI_at h) H⟩
theorem nuS11 (w:World) (b1 b2:Bool) {ns:List (Int×Tok)} (h:11<ns.length) (ih:NuOk w b1 b2 ns 12 12):NuOk w b1 b2 ns 11 11:=fun sc pl nl v=>by
 rw [List.drop_eq_getElem_cons h]
 obtain ⟨k',pl',nl',H⟩:=ih sc 11 ns[11].1 (up6 v 5 (v 5+ns[11].1.fmod 1000000))
 exact ⟨k',pl',nl',fam1_ok fun _ _=>kNuT11_ok w b1 b2 _ _ _ _ _ _ _ _ _ _ _ _ _ _ _ _ _ _ _ _ _ _ _ (mkI_at h) H⟩
theorem nu1 (w:World) (b1 b2:Bool) {ns:List (Int×Tok)} (h:ns.length≤12):NuOk w b1 b2 ns 1 1:=by
 have h12:NuOk w b1 b2 ns 12 12:=nuEnd w b1 b2 rfl h
 have h11:NuOk w b1 b2 ns 11 11:=if h:11<ns.length then nuS11 w b1 b2 h h12 else nuEnd w b1 b2 rfl (by omega)
 have h10:NuOk w b1 b2 ns 10 10:=if h:10<ns.length then nuS10 w b1 b2 h h11 else nuEnd w b1 b2 rfl (by omega)
 have h9:NuOk w b1 b2 ns 9 9:=if h:9<ns.length then nuS9 w b1 b2 h h10 else nuEnd w b1 b2 rfl (by omega)
 have h8:NuOk w b1 b2 ns 8 8:=if h:8<ns.length then nuS8 w b1 b2 h h9 else nuEnd w b1 b2 rfl (by omega)
 have h7:NuOk w b1 b2 ns 7 7:=if h:7<ns.length then nuS7 w b1 b2 h h8 else nuEnd w b1 b2 rfl (by omega)
 have h6:NuOk w b1 b2 ns 6 6:=if h:6<ns.length then nuS6 w b1 b2 h h7 else nuEnd w b1 b2 rfl (by omega)
 have h5:NuOk w b1 b2 ns 5 5:=if h:5<ns.length then nuS5 w b1 b2 h h6 else nuEnd w b1 b2 rfl (by omega)
 have h4:NuOk w b1 b2 ns 4 4:=if h:4<ns.length then nuS4 w b1 b2 h h5 else nuEnd w b1 b2 rfl (by omega)
 have h3:NuOk w b1 b2 ns 3 3:=if h:3<ns.length then nuS3 w b1 b2 h h4 else nuEnd w b1 b2 rfl (by omega)
 have h2:NuOk w b1 b2 ns 2 2:=if h:2<ns.length then nuS2 w b1 b2 h h3 else nuEnd w b1 b2 rfl (by omega)
 have h1:NuOk w b1 b2 ns 1 1:=if h:1<ns.length then nuS1 w b1 b2 h h2 else nuEnd w b1 b2 rfl (by omega)
 exact h1
end Mine
namespace Mine
noncomputable def v06:Nat→Int:=fun k=>match k with
 | 0=>13
 | 1=>57
 | 2=>25
 | 3=>51
 | 4=>60
 | _=>12
noncomputable def fNu0 (P:Params) (sc:Value) (its:List Value) (v:Nat→Int) (k' pl' nl':Int) (v':Nat→Int):Fam:=fam1 fun _ os =>
 kNu0 P (adN os 0) (adN os 1) (adN os 2) (adN os 3) (adN os 4) (tokV (keyN os 0 0)) (tokV (keyN os 0 1)) (epN os 0) sc its (epN os 3) (epN os 4) v (fun j=>tokV (vN os 4 j)) k' pl' nl' v'
noncomputable def scO (d:Option Addr) (sl:Array (Option Value)) (its:List Value) (es:Nat):Obj:=⟨.type "list",d,.seq ⟨its⟩ es,sl⟩
noncomputable def kNums (d:Option Addr) (sl:Array (Option Value)) (S:Addr) (its:List Value) (es:Nat) (v':Nat→Int):Con :=
 ⟨.call (.ref 168) ⟨[.ref S],[]⟩,[(S,scO d sl its es)],fun _=>[scO d sl its es],fun xs=>[(xs 0,lsO (l6 v' fun j=>xs (j+1)) 0)],fun xs=>.ok (.ret (.ref (xs 0)))⟩
noncomputable def hsNums:List Nat:=hD 27 0x230c30c30c30c288208001041042000082082000
theorem kNumsT_ok (w:World) (b1 b2:Bool) (d:Option Addr) (sl:Array (Option Value)) (S:Addr) (its its':List Value) (es:Nat) (k' pl' nl':Int) (v':Nat→Int) (hz:its.length≤sizeLine) (e:slicePick ⟨its⟩ none (some 12) none=⟨its'⟩)
  (ih:(fNu0 (Pw w b1 b2) (.ref S) its' v06 k' pl' nl' v').Ok2 w b1 b2 84) :
  (kNums d sl S its es v').Ok2 w b1 b2 126:=by
 cases b1 with
 | false=>exact Con.of2 84 hsNums [uS 2 (fSliceL ⟨its⟩ (fun _=>.none) (fun t=>.int 12 t) (fun _=>.none) its') [1,6],uS 13 (fNu0 (Pw w false b2) (.ref S) its' v06 k' pl' nl' v') [2,12,10,8,4]] [4] (fun N _ sg j=>match j with | 0=>N+213+1 | j+1=>sg 1 (j+6)) ⟨fSliceL_ok none (some 12) none (fun _=>.none) (fun t=>.int 12 t) (fun _=>.none) (by decide) hz e,ih,trivial⟩
 | true=>exact Con.of2 84 hsNums [uS 2 (fSliceL ⟨its⟩ (fun _=>.none) (fun t=>.int 12 t) (fun _=>.none) its') [1,6],uS 13 (fNu0 (Pw w true b2) (.ref S) its' v06 k' pl' nl' v') [2,12,10,8,4]] [4] (fun N _ sg j=>match j with | 0=>N+213+1 | j+1=>sg 1 (j+6)) ⟨fSliceL_ok none (some 12) none (fun _=>.none) (fun t=>.int 12 t) (fun _=>.none) (by decide) hz e,ih,trivial⟩
noncomputable def kNuZ (P:Params) (L E I S A:Addr) (k1 k2:Tok) (fe:Nat) (sc:Value) (es ea:Nat) (v:Nat→Int) (t:Nat→Tok):Con :=
 ⟨nuC P E L,[(L,{cls:=.type "frame",data:=.dict ⟨dE P (fun j=>match j with | 0=>k1 | _=>k2) 0 [("script",sc),("numbers",.ref A)]⟩ fe}),(E,enO I 0 .none),(I,lisIt (.ref S) 0 0),(S,lsO [] es),(A,lsO (l6 v t) ea)],
  fun xs=>[{cls:=.type "frame",data:=.dict ⟨dE P (fun j=>match j with | 0=>k1 | _=>k2) 0 [("script",sc),("numbers",.ref A)]⟩ fe},enO I 0 .none,lisIt .none 0 0,lsO [] es,lsO (l6 v t) ea],fun _=>[],fun _=>.ok .next⟩
theorem kNuZ_ok (w:World) (b1 b2:Bool) (L E I S A:Addr) (k1 k2:Tok) (fe:Nat) (sc:Value) (es ea:Nat) (v:Nat→Int) (t:Nat→Tok) :
  (kNuZ (Pw w b1 b2) L E I S A k1 k2 fe sc es ea v t).Ok2 w b1 b2 84 :=
 Con.of2 42 [3,3,3,5,5,4] [uS 3 (fNextLE ⟨[]⟩ 0) [5,7]] [] (fun _ _ _ _=>0) ⟨fNextLE_ok (by rfl),trivial⟩
noncomputable def fNuZ (P:Params) (sc:Value) (v:Nat→Int):Fam:=fam1 fun _ os =>
 kNuZ P (adN os 0) (adN os 1) (adN os 2) (adN os 3) (adN os 4) (tokV (keyN os 0 0)) (tokV (keyN os 0 1)) (epN os 0) sc (epN os 3) (epN os 4) v (fun j=>tokV (vN os 4 j))
theorem kNumsZ_ok (w:World) (b1 b2:Bool) (d:Option Addr) (sl:Array (Option Value)) (S:Addr) (es:Nat):(kNums d sl S [] es v06).Ok2 w b1 b2 126:=by
 have ih:∀ b,(fNuZ (W2 w b b2).params (.ref S) v06).Ok (Mo w b b2) (Kt w b b2) 84:=fun b=>fam1_ok fun _ _=>kNuZ_ok w b b2 _ _ _ _ _ _ _ _ _ _ _ _ _
 cases b1 with
 | false=>exact Con.of2 84 hsNums [uS 2 (fSliceL ⟨[]⟩ (fun _=>.none) (fun t=>.int 12 t) (fun _=>.none) []) [1,6],uS 13 (fNuZ (Pw w false b2) (.ref S) v06) [2,12,10,8,4]] [4] (fun N T sg j=>match j with | 0=>N+213+1 | j+1=>T+j+1) ⟨fSliceL_ok none (some 12) none (fun _=>.none) (fun t=>.int 12 t) (fun _=>.none) (by decide) (by decide) (by rfl),ih _,trivial⟩
 | true=>exact Con.of2 84 hsNums [uS 2 (fSliceL ⟨[]⟩ (fun _=>.none) (fun t=>.int 12 t) (fun _=>.none) []) [1,6],uS 13 (fNuZ (Pw w true b2) (.ref S) v06) [2,12,10,8,4]] [4] (fun N T sg j=>match j with | 0=>N+213+1 | j+1=>T+j+1) ⟨fSliceL_ok none (some 12) none (fun _=>.none) (fun t=>.int 12 t) (fun _=>.none) (by decide) (by decide) (by rfl),ih _,trivial⟩
theorem kNums_ok (w:World) (b1 b2:Bool) (d:Option Addr) (sl:Array (Option Value)) (S:Addr) (ns:List (Int×Tok)) (es:Nat) (hz:ns.length≤63):(kNums d sl S (mkI ns) es (foN6 0 (ns.take 12) v06)).Ok2 w b1 b2 126:=by
 have e:slicePick ⟨mkI ns⟩ none (some 12) none=⟨mkI (ns.take 12)⟩:=by
  have h:=slicePick_upto' ⟨mkI ns⟩ 12
  refine (show slicePick ⟨mkI ns⟩ none (some 12) none=_ from h).trans ?_
  show (List.take 12 (mkI ns)).toArray=_
  unfold mkI; rw [List.map_take]
 have hl:(ns.take 12).length≤12:=by rw [List.length_take]; omega
 have hs:(mkI ns).length≤sizeLine:=by unfold mkI; rw [List.length_map]; exact Nat.le_trans hz (by decide)
 cases hn:ns with
 | nil=>exact kNumsZ_ok w b1 b2 d sl S es
 | cons p r =>
  rw [← hn]
  have h0:0<(ns.take 12).length:=by rw [hn]; simp
  obtain ⟨k',pl',nl',H⟩:=nu1 w b1 b2 hl (.ref S) 0 (ns.take 12)[0].1 (up6 v06 0 (v06 0+(ns.take 12)[0].1.fmod 1000000))
  have hd:ns.take 12=(ns.take 12)[0]::(ns.take 12).drop 1:=by rw [← List.drop_eq_getElem_cons h0]; rfl
  have hf:foN6 0 (ns.take 12) v06=foN6 1 ((ns.take 12).drop 1) (up6 v06 0 (v06 0+(ns.take 12)[0].1.fmod 1000000)):=by
   conv=>lhs; rw [hd]
   rfl
  rw [hf]
  exact kNumsT_ok w b1 b2 d sl S _ _ es k' pl' nl' _ hs e (fam1_ok fun _ _=>kNuT0_ok w b1 b2 _ _ _ _ _ _ _ _ _ _ _ _ _ _ _ _ _ _ _ _ (mkI_at h0) H)
end Mine
namespace Mine
noncomputable def kAcc (P:Params):Con :=
 ⟨.call (.ref 115) ⟨[],[]⟩,[],fun _=>[],fun xs=>pileNeed P (xs 0) (xs 1+213) (xs 2) (xs 3) 1 [] 0,fun xs=>.ok (.ret (.ref (xs 0+213)))⟩
noncomputable def hsAcc:List Nat:=hD 87 0x410410a280100008208208208208208200104008208000180000000082080100000100100100000106186186180000000000100100000000000000000000000000
theorem kAcc_ok (w:World) (b1 b2:Bool):(kAcc (Pw w b1 b2)).Ok2 w b1 b2 42:=by
 cases b1 with
 | false=>exact Con.of2 0 hsAcc [] [3,4] (fun N T _ j=>match j with | 0=>N+1 | 1=>N | 2=>T+3 | _=>246) trivial
 | true=>exact Con.of2 0 hsAcc [] [3,4] (fun N T _ j=>match j with | 0=>N+1 | 1=>N | 2=>T+3 | _=>246) trivial
end Mine
namespace Mine
noncomputable abbrev ev2s (w:World) (b1 b2:Bool) (A:Pt) (hs:List Nat) (us:List Use) (own past:Option Value) (below:List (Code×Pos)) (p:Pos) (N T:Nat) (sg:Sg):Out :=
 evCode0 (V2 (W2 w b1 b2)) ⟨A.c,none,own,below,past⟩ p sg ⟨A.need,[],0,N+213,T,hs,0,us,[],[],[],[]⟩
theorem Way.of2 {w:World} {b1 b2:Bool} {x:Nat} {A:Pt} (y:Nat) (hs:List Nat) (us:List Use) (n:Nat) (K:Code→List (Addr×Obj)→List (Nat→Nat)→Pt) (pl:List Nat) (huses:AllFam (Mo w b1 b2) (Kt w b1 b2) x y us)
  (E:∀ (own past:Option Value) (below:List (Code×Pos)) (p:Pos) (N T:Nat) (sg:Sg),stopS (ev2s w b1 b2 A hs (us++[stopU n K pl]) own past below p N T sg)=stopD (ev2s w b1 b2 A hs (us++[stopU n K pl]) own past below p N T sg):=by intros; kernel_rfl)
  (hx:42+y≤x:=by decide):Way (Mo w b1 b2) (Kt w b1 b2) x A (fun z:Code×List (Addr×Obj)×List (Nat→Nat)=>K z.1 z.2.1 z.2.2) (fun z=>evs pl (K z.1 z.2.1 z.2.2).need) :=
 Way.of_ev (V:=V2 (W2 w b1 b2)) (y:=y) hs us n K pl (V2_den _) (altOf_ok rfl) (V2_top _) (fun _ _=>rfl) rfl (V2_st _) hx (by show 0<213; decide) huses.mem E
structure WF where
 L:Addr
 I:Addr
 W:Addr
 LK:Addr
 LW:Addr
 A:Addr
 D:Addr
 ti:Tok
 t0:Tok
 ed:Nat
 gl:Gc
 gs:Gc
 l:LA
 ss:List Value
 ess:Nat
 n:Int
 tn:Tok
 kt:Nat→Tok
 its:List Value
 esw:Nat
structure WS where
 vw:Value
 vh:Value
 vp:Value
 fe:Nat
 k:Int
 lk:List Value
 lw:List Value
 el:Nat
 ew:Nat
 ep:Nat
 pb:List Value
 epb:Nat
noncomputable def wkS (P:Params):Stmt:=stN (stsOf P 192) 2
noncomputable def wkC (P:Params) (f:WF):Code:=forCode (wkS P) (.ref f.I) (envAt P 192 "_law_walk.<locals>." f.L [])
noncomputable def wkFr (P:Params) (f:WF) (v:WS):Obj:={cls:=.type "frame",data:=.dict ⟨dE P f.kt 0 [("words",.ref f.W),("pile",.ref (f.A+213)),("line",.ref f.l.X),("looks",.ref f.LK),("lows",.ref f.LW),("word",v.vw),("white",v.vh),("part",v.vp)]⟩ v.fe}
noncomputable def wkNeed (P:Params) (f:WF) (v:WS) (ps:List Pc):List (Addr×Obj) :=
 (f.L,wkFr P f v)::(f.I,lisIt (.ref f.W) v.k 0)::(f.W,lsO f.its f.esw)::(f.LK,lsO v.lk v.el)::(f.LW,lsO v.lw v.ew)::(pileNeed P f.A f.D f.ti f.t0 f.ed (pcV ps) v.ep ++
  (77,tabO 72 19 f.gl.g)::(f.gl.g,genO qLen f.gl.t0 f.gl.t1 f.gl.rest)::(84,tabO 75 32 f.gs.g)::(f.gs.g,genO qStr f.gs.t0 f.gs.t1 f.gs.rest)::(lexNeed P f.l f.ss f.ess f.n f.tn v.pb v.epb++pcN ps))
noncomputable def wkPt (P:Params) (f:WF) (v:WS) (ps:List Pc):Pt:=⟨wkC P f,wkNeed P f v ps⟩
noncomputable def wkNext (P:Params) (f:WF) (v:WS) (os:List (Addr×Obj)) (px:List (Nat→Nat)) (vw vh vp:Value) (low:List Pc) (pb:List Value) (ps:List Pc):Pt :=
 wkPt P f ⟨vw,vh,vp,epN os 0,v.k+1,v.lk.concat (.str ⟨⟨pcStr ps⟩⟩ (pxN px 1 0)),v.lw.concat (.int (pcLen low:Nat) (pxN px 4 0)),epN os 3,epN os 4,epN os 5,pb,epN os 19⟩ ps
noncomputable def fWPop (P:Params) (f:WF) (items:List Value) (a:Addr):Fam:=fam1 fun _ os=>kPop P f.A f.D f.ti f.t0 f.ed items a (epN os 0)
noncomputable def fWPop0 (P:Params) (f:WF):Fam:=fam1 fun _ os=>kPop0e P f.A f.D f.ti f.t0 f.ed (epN os 0)
noncomputable def fWPush (P:Params) (f:WF) (items:List Value) (y:Str):Fam:=fam1 fun c os=>kPush P f.A f.D f.ti f.t0 f.ed items (epN os 0) st0 (argT c 1) y (argT c 2)
noncomputable def fWPT (P:Params) (f:WF) (y:Str) (pb:List Value):Fam:=fam1 fun c os=>kPT P f.l f.ss f.ess f.n f.tn y (argT c 1) pb (epN os 8)
theorem Way.of2b {w:World} {b1 b2:Bool} {x:Nat} {A:Pt} (y:Nat) (hs:List Nat) (us:List Use) (n:Nat) (K:Code→List (Addr×Obj)→List (Nat→Nat)→Pt) (pl:List Nat) (huses:AllFam (Mo w b1 b2) (Kt w b1 b2) x y us)
  (E:∀ (own past:Option Value) (below:List (Code×Pos)) (p:Pos) (N T:Nat) (sg:Sg),stopS (ev2s w b1 b2 A hs (us++[stopU n K pl]) own past below p N T sg)=stopD (ev2s w b1 b2 A hs (us++[stopU n K pl]) own past below p N T sg):=by intros; cases b1<;>kernel_rfl)
  (hx:42+y≤x:=by decide):Way (Mo w b1 b2) (Kt w b1 b2) x A (fun z:Code×List (Addr×Obj)×List (Nat→Nat)=>K z.1 z.2.1 z.2.2) (fun z=>evs pl (K z.1 z.2.1 z.2.2).need) :=
 Way.of2 y hs us n K pl huses E hx
theorem fWPop_ok {w:World} {b1 b2:Bool} {f:WF} {items:List Value} {a:Addr} (h:items.length<sizeLine):(fWPop (Pw w b1 b2) f items a).Ok2 w b1 b2 42:=fam1_ok fun _ _=>kPop_ok w b1 b2 _ _ _ _ _ _ _ _ h
theorem fWPop0_ok {w:World} {b1 b2:Bool} {f:WF}:(fWPop0 (Pw w b1 b2) f).Ok2 w b1 b2 42:=fam1_ok fun _ _=>kPop0e_ok w b1 b2 _ _ _ _ _ _
theorem fWPush_ok {w:World} {b1 b2:Bool} {f:WF} {items:List Value} {y:Str} (h:items.length≤sizeLine):(fWPush (Pw w b1 b2) f items y).Ok2 w b1 b2 42:=fam1_ok fun _ _=>kPush_ok w b1 b2 _ _ _ _ _ _ _ _ _ _ _ h
theorem fWPT_ok {w:World} {b1 b2:Bool} {f:WF} {y:Str} {pb:List Value} (h:pb.length≤sizeLine):(fWPT (Pw w b1 b2) f y pb).Ok2 w b1 b2 42:=fam1_ok fun _ _=>kPT_ok w b1 b2 _ _ _ _ _ _ _ _ _ h
end Mine
namespace Mine
noncomputable def kLenB (P:Params) (A D:Addr) (ti t0:Tok) (ed ep:Nat) (G:Gc) (ps:List Pc):Con :=
 ⟨.builtin "len" ⟨[.ref (A+213)],[]⟩,lenNeed P A D ti t0 ed ep G ps,fun _=>(lenNeed P A D ti t0 ed ep G ps).map (·.2),fun _=>[],fun xs=>.ok (.ret (.int (pcLen ps:Nat) (xs 0)))⟩
theorem kLenB0_ok (w:World) (b1 b2:Bool) (A D:Addr) (ti tt:Tok) (ed ep:Nat) (G:Gc) :
  (kLenB (Pw w b1 b2) A D ti tt ed ep G []).Ok2 w b1 b2 84 :=
 Con.of2 42 [1,0,0,0,0] [uS 0 (fam1 fun _ _=>kLen (Pw w b1 b2) A D ti tt ed ep G []) [1,3,5,7]] [] (fun N T sg _=>sg 0 1) ⟨fam1_ok fun _ _=>kLen0_ok w b1 b2 A D ti tt ed ep G ,trivial⟩
theorem kLenB2_ok (w:World) (b1 b2:Bool) (A D:Addr) (ti tt:Tok) (ed ep:Nat) (G:Gc) (a0:Addr) (z0 t0:Tok) (c0:Nat) :
  (kLenB (Pw w b1 b2) A D ti tt ed ep G [⟨a0,z0,t0,2,c0⟩]).Ok2 w b1 b2 84 :=
 Con.of2 42 [1,0,0,0,0] [uS 0 (fam1 fun _ _=>kLen (Pw w b1 b2) A D ti tt ed ep G [⟨a0,z0,t0,2,c0⟩]) [1,3,5,7,9]] [] (fun N T sg _=>sg 0 1) ⟨fam1_ok fun _ _=>kLen2_ok w b1 b2 A D ti tt ed ep G a0 z0 t0 c0,trivial⟩
theorem kLenB3_ok (w:World) (b1 b2:Bool) (A D:Addr) (ti tt:Tok) (ed ep:Nat) (G:Gc) (a0:Addr) (z0 t0:Tok) (c0:Nat) :
  (kLenB (Pw w b1 b2) A D ti tt ed ep G [⟨a0,z0,t0,3,c0⟩]).Ok2 w b1 b2 84 :=
 Con.of2 42 [1,0,0,0,0] [uS 0 (fam1 fun _ _=>kLen (Pw w b1 b2) A D ti tt ed ep G [⟨a0,z0,t0,3,c0⟩]) [1,3,5,7,9]] [] (fun N T sg _=>sg 0 1) ⟨fam1_ok fun _ _=>kLen3_ok w b1 b2 A D ti tt ed ep G a0 z0 t0 c0,trivial⟩
theorem kLenB32_ok (w:World) (b1 b2:Bool) (A D:Addr) (ti tt:Tok) (ed ep:Nat) (G:Gc) (a0:Addr) (z0 t0:Tok) (c0:Nat) (a1:Addr) (z1 t1:Tok) (c1:Nat) :
  (kLenB (Pw w b1 b2) A D ti tt ed ep G [⟨a0,z0,t0,3,c0⟩,⟨a1,z1,t1,2,c1⟩]).Ok2 w b1 b2 84 :=
 Con.of2 42 [1,0,0,0,0] [uS 0 (fam1 fun _ _=>kLen (Pw w b1 b2) A D ti tt ed ep G [⟨a0,z0,t0,3,c0⟩,⟨a1,z1,t1,2,c1⟩]) [1,3,5,7,9,11]] [] (fun N T sg _=>sg 0 1) ⟨fam1_ok fun _ _=>kLen32_ok w b1 b2 A D ti tt ed ep G a0 z0 t0 c0 a1 z1 t1 c1,trivial⟩
end Mine
namespace Mine
theorem le42_84:42≤84:=by decide
noncomputable abbrev StI:=Code×List (Addr×Obj)×List (Nat→Nat)
theorem rep_length:∀ L c:Nat,(rep L c).length=L
 | 0,_=>rfl
 | L+1,c=>by rw [rep,List.length_cons,rep_length]
theorem wd_length (L c:Nat):(wd L c).length=L:=rep_length L c
theorem wdl {L c:Nat} (h:L≤100):(wd (L+1) c).length≤sizeLine:=by rw [wd_length,sizeLine_eq]; omega
end Mine
namespace Mine
noncomputable def hsWk10:List Nat:=hD 120 0x1c000000b0400071c71c100134b0000002c00002c00002c124100024924904004134b0000002c00002c00002c10410000400010410411820a9082082082a420820820a90820820a9a69a4034b0000002c00002c00002c10410c3
noncomputable def kk10 (P:Params) (f:WF) (v:WS) (a0:Addr) (z0 t0:Tok) (L0 c0:Nat) (Lw cw:Nat) (tw:Tok):Code→List (Addr×Obj)→List (Nat→Nat)→Pt:=fun _ os px=>wkNext P f v os px (.str (wd (Lw+1) cw) tw) (.str st0 z0) (.str (wd (L0+1) c0) t0) [⟨adN os 20,z0,t0,L0+1,c0⟩] (v.pb) [⟨adN os 20,z0,t0,L0+1,c0⟩,⟨adN os 21,tokV (vN os 21 0),tw,Lw+1,cw⟩]
theorem wk10_ok (w:World) (b1 b2:Bool) (f:WF) (v:WS) (a0:Addr) (z0 t0:Tok) (L0 c0:Nat) (Lw cw:Nat) (tw:Tok) (mw:Int) (hmw:mw=((wd (Lw+1) cw).length:Nat)) (hlw:Lw≤100) (m0:Int) (hm0:m0=((wd (L0+1) c0).length:Nat)) (hl0:L0≤100) (hle0:decide (m0≤mw)=false) (hk:f.its[v.k.toNat]?=some (.str (wd (Lw+1) cw) tw))
  (HL:∀ ep a,(kLenB (Pw w b1 b2) f.A f.D f.ti f.t0 f.ed ep f.gl [⟨a,z0,t0,L0+1,c0⟩]).Ok2 w b1 b2 84) (HS:∀ ep a b z,(kStr (Pw w b1 b2) f.A f.D f.ti f.t0 f.ed ep f.gs [⟨a,z0,t0,L0+1,c0⟩,⟨b,z,tw,Lw+1,cw⟩]).Ok2 w b1 b2 42) (hpb:∀ n,n<3→∀ l:List Value,l.length≤v.pb.length+n→l.length≤sizeLine) (hlk:v.lk.length≤sizeLine) (hlw2:v.lw.length≤sizeLine) :
  Way (Mo w b1 b2) (Kt w b1 b2) 126 (wkPt (Pw w b1 b2) f v [⟨a0,z0,t0,L0+1,c0⟩]) (fun z:StI=>kk10 (Pw w b1 b2) f v a0 z0 t0 L0 c0 Lw cw tw z.1 z.2.1 z.2.2) (fun z=>evs [1,3,5,7,9,11,13,15,17,19,21,23,25,27,29,31,33,35,37,39,8,10] (kk10 (Pw w b1 b2) f v a0 z0 t0 L0 c0 Lw cw tw z.1 z.2.1 z.2.2).need):=by
 have hz3:∀ {l:List Value},l.length<4→l.length<sizeLine:=fun h=>by rw [sizeLine_eq]; omega
 have hz4:∀ {l:List Value},l.length≤4→l.length≤sizeLine:=fun h=>by rw [sizeLine_eq]; omega
 exact Way.of2b 84 hsWk10 [uS 1 (fNextL ⟨f.its⟩ v.k (.str (wd (Lw+1) cw) tw)) [3,5],uS 2 (fWPop (Pw w b1 b2) f [] a0) [11,13],uS 15 (fLenS (wd (L0+1) c0) m0) [],uS 17 (fLenS (wd (Lw+1) cw) mw) [],uS 19 (fII "int.__le__" m0 mw false) [],uS 22 (fWPush (Pw w b1 b2) f [] (wd (L0+1) c0)) [11,13],uS 24 (fam1 fun _ os=>kLenB (Pw w b1 b2) f.A f.D f.ti f.t0 f.ed (epN os 0) f.gl [⟨adN os 4,z0,t0,L0+1,c0⟩]) [11,13,15,17,8],uS 26 (fAppend ⟨v.lw⟩) [9],uS 27 (fam2 fun c os px=>kPush (Pw w b1 b2) f.A f.D f.ti f.t0 f.ed [.ref (pxN px 2 0)] (epN os 0) st0 (argT c 1) (wd (Lw+1) cw) (argT c 2)) [11,13],uS 32 (fam1 fun _ os=>kStr (Pw w b1 b2) f.A f.D f.ti f.t0 f.ed (epN os 0) f.gs [⟨adN os 4,z0,t0,L0+1,c0⟩,⟨adN os 5,tokV (vN os 5 0),tw,Lw+1,cw⟩]) [11,13,19,21,8,10],uS 36 (fAppend ⟨v.lk⟩) [7]] 37 (kk10 (Pw w b1 b2) f v a0 z0 t0 L0 c0 Lw cw tw) [1,3,5,7,9,11,13,15,17,19,21,23,25,27,29,31,33,35,37,39,8,10] ⟨fNextL_ok (by simpa using hk),(fWPop_ok (hz3 (by simp))).mono le42_84,fLenS_ok hm0 (wdl hl0),fLenS_ok hmw (wdl hlw),int_le_ok hle0,(fWPush_ok (hz4 (by simp))).mono le42_84,fam1_ok fun _ _=>HL _ _,fAppend_ok hlw2,fam2_ok fun _ _ _=>(kPush_ok _ _ _ _ _ _ _ _ _ _ _ _ _ _ (hz4 (by simp))).mono le42_84,fam1_ok fun _ _=>(HS _ _ _ _).mono le42_84,fAppend_ok hlk,trivial⟩
end Mine
namespace Mine
noncomputable def hsWk11:List Nat:=hD 168 0x1c000000b0400071c71c100134b0000002c00002c00002c124100024924904104104104e28a20a28a28a28828a28a28a20a28a28a20820800d2c000000b00000b00000b0400658c00000230000230000230410000400010410411820a9082082082a420820820a90820820a9a69a4034b0000002c00002c00002c10410c3
noncomputable def kk11 (P:Params) (f:WF) (v:WS) (a0:Addr) (z0 t0:Tok) (L0 c0:Nat) (Lw cw:Nat) (tw:Tok):Code→List (Addr×Obj)→List (Nat→Nat)→Pt:=fun _ os px=>wkNext P f v os px (.str (wd (Lw+1) cw) tw) (.str st0 (pxN px 5 1)) (.str st0 (pxN px 5 2)) [] (v.pb.concat (.str (wd (L0+1) c0) t0)) [⟨adN os 20,tokV (vN os 20 0),tw,Lw+1,cw⟩]
theorem wk11_ok (w:World) (b1 b2:Bool) (f:WF) (v:WS) (a0:Addr) (z0 t0:Tok) (L0 c0:Nat) (Lw cw:Nat) (tw:Tok) (mw:Int) (hmw:mw=((wd (Lw+1) cw).length:Nat)) (hlw:Lw≤100) (m0:Int) (hm0:m0=((wd (L0+1) c0).length:Nat)) (hl0:L0≤100) (hle0:decide (m0≤mw)=true) (hk:f.its[v.k.toNat]?=some (.str (wd (Lw+1) cw) tw))
  (HL:∀ ep (_:Nat),(kLenB (Pw w b1 b2) f.A f.D f.ti f.t0 f.ed ep f.gl []).Ok2 w b1 b2 84) (HS:∀ ep (_:Nat) b z,(kStr (Pw w b1 b2) f.A f.D f.ti f.t0 f.ed ep f.gs [⟨b,z,tw,Lw+1,cw⟩]).Ok2 w b1 b2 42) (hpb:∀ n,n<3→∀ l:List Value,l.length≤v.pb.length+n→l.length≤sizeLine) (hlk:v.lk.length≤sizeLine) (hlw2:v.lw.length≤sizeLine) :
  Way (Mo w b1 b2) (Kt w b1 b2) 126 (wkPt (Pw w b1 b2) f v [⟨a0,z0,t0,L0+1,c0⟩]) (fun z:StI=>kk11 (Pw w b1 b2) f v a0 z0 t0 L0 c0 Lw cw tw z.1 z.2.1 z.2.2) (fun z=>evs [1,3,5,7,9,11,13,15,17,19,21,23,25,27,29,31,33,35,37,39,16] (kk11 (Pw w b1 b2) f v a0 z0 t0 L0 c0 Lw cw tw z.1 z.2.1 z.2.2).need):=by
 have hz3:∀ {l:List Value},l.length<4→l.length<sizeLine:=fun h=>by rw [sizeLine_eq]; omega
 have hz4:∀ {l:List Value},l.length≤4→l.length≤sizeLine:=fun h=>by rw [sizeLine_eq]; omega
 exact Way.of2b 84 hsWk11 [uS 1 (fNextL ⟨f.its⟩ v.k (.str (wd (Lw+1) cw) tw)) [3,5],uS 2 (fWPop (Pw w b1 b2) f [] a0) [11,13],uS 15 (fLenS (wd (L0+1) c0) m0) [],uS 17 (fLenS (wd (Lw+1) cw) mw) [],uS 19 (fII "int.__le__" m0 mw true) [],uS 20 (fWPT (Pw w b1 b2) f (wd (L0+1) c0) (v.pb)) [23,25,27,29,31,33,35,37,39],uS 21 (fWPop0 (Pw w b1 b2) f) [11,13],uS 36 (fam1 fun _ os=>kLenB (Pw w b1 b2) f.A f.D f.ti f.t0 f.ed (epN os 0) f.gl []) [11,13,15,17],uS 38 (fAppend ⟨v.lw⟩) [9],uS 39 (fWPush (Pw w b1 b2) f [] (wd (Lw+1) cw)) [11,13],uS 44 (fam1 fun _ os=>kStr (Pw w b1 b2) f.A f.D f.ti f.t0 f.ed (epN os 0) f.gs [⟨adN os 4,tokV (vN os 4 0),tw,Lw+1,cw⟩]) [11,13,19,21,16],uS 48 (fAppend ⟨v.lk⟩) [7]] 49 (kk11 (Pw w b1 b2) f v a0 z0 t0 L0 c0 Lw cw tw) [1,3,5,7,9,11,13,15,17,19,21,23,25,27,29,31,33,35,37,39,16] ⟨fNextL_ok (by simpa using hk),(fWPop_ok (hz3 (by simp))).mono le42_84,fLenS_ok hm0 (wdl hl0),fLenS_ok hmw (wdl hlw),int_le_ok hle0,(fWPT_ok (hpb 0 (by decide) _ (by simp))).mono le42_84,fWPop0_ok.mono le42_84,fam1_ok fun _ _=>HL _ 0,fAppend_ok hlw2,(fWPush_ok (hz4 (by simp))).mono le42_84,fam1_ok fun _ _=>(HS _ 0 _ _).mono le42_84,fAppend_ok hlk,trivial⟩
end Mine
namespace Mine
noncomputable def hsWk20:List Nat:=hD 120 0x1c000000b0400071c71c100134b0000002c00002c00002c124100024924904004134b0000002c00002c00002c10410000400010410411820ab082082082ac20820820ab0820820abaebac034b0000002c00002c00002c10410c3
noncomputable def kk20 (P:Params) (f:WF) (v:WS) (a0:Addr) (z0 t0:Tok) (L0 c0:Nat) (a1:Addr) (z1 t1:Tok) (L1 c1:Nat) (Lw cw:Nat) (tw:Tok):Code→List (Addr×Obj)→List (Nat→Nat)→Pt:=fun _ os px=>wkNext P f v os px (.str (wd (Lw+1) cw) tw) (.str st0 z1) (.str (wd (L1+1) c1) t1) [⟨a0,z0,t0,L0+1,c0⟩,⟨adN os 21,z1,t1,L1+1,c1⟩] (v.pb) [⟨a0,z0,t0,L0+1,c0⟩,⟨adN os 21,z1,t1,L1+1,c1⟩,⟨adN os 22,tokV (vN os 22 0),tw,Lw+1,cw⟩]
theorem wk20_ok (w:World) (b1 b2:Bool) (f:WF) (v:WS) (a0:Addr) (z0 t0:Tok) (L0 c0:Nat) (a1:Addr) (z1 t1:Tok) (L1 c1:Nat) (Lw cw:Nat) (tw:Tok) (mw:Int) (hmw:mw=((wd (Lw+1) cw).length:Nat)) (hlw:Lw≤100) (m1:Int) (hm1:m1=((wd (L1+1) c1).length:Nat)) (hl1:L1≤100) (hle1:decide (m1≤mw)=false) (hk:f.its[v.k.toNat]?=some (.str (wd (Lw+1) cw) tw))
  (HL:∀ ep a,(kLenB (Pw w b1 b2) f.A f.D f.ti f.t0 f.ed ep f.gl [⟨a0,z0,t0,L0+1,c0⟩,⟨a,z1,t1,L1+1,c1⟩]).Ok2 w b1 b2 84) (HS:∀ ep a b z,(kStr (Pw w b1 b2) f.A f.D f.ti f.t0 f.ed ep f.gs [⟨a0,z0,t0,L0+1,c0⟩,⟨a,z1,t1,L1+1,c1⟩,⟨b,z,tw,Lw+1,cw⟩]).Ok2 w b1 b2 42) (hpb:∀ n,n<3→∀ l:List Value,l.length≤v.pb.length+n→l.length≤sizeLine) (hlk:v.lk.length≤sizeLine) (hlw2:v.lw.length≤sizeLine) :
  Way (Mo w b1 b2) (Kt w b1 b2) 126 (wkPt (Pw w b1 b2) f v [⟨a0,z0,t0,L0+1,c0⟩,⟨a1,z1,t1,L1+1,c1⟩]) (fun z:StI=>kk20 (Pw w b1 b2) f v a0 z0 t0 L0 c0 a1 z1 t1 L1 c1 Lw cw tw z.1 z.2.1 z.2.2) (fun z=>evs [1,3,5,7,9,11,13,15,17,19,21,23,25,27,29,31,33,35,37,39,41,8,10] (kk20 (Pw w b1 b2) f v a0 z0 t0 L0 c0 a1 z1 t1 L1 c1 Lw cw tw z.1 z.2.1 z.2.2).need):=by
 have hz3:∀ {l:List Value},l.length<4→l.length<sizeLine:=fun h=>by rw [sizeLine_eq]; omega
 have hz4:∀ {l:List Value},l.length≤4→l.length≤sizeLine:=fun h=>by rw [sizeLine_eq]; omega
 exact Way.of2b 84 hsWk20 [uS 1 (fNextL ⟨f.its⟩ v.k (.str (wd (Lw+1) cw) tw)) [3,5],uS 2 (fWPop (Pw w b1 b2) f [.ref a0] a1) [11,13],uS 15 (fLenS (wd (L1+1) c1) m1) [],uS 17 (fLenS (wd (Lw+1) cw) mw) [],uS 19 (fII "int.__le__" m1 mw false) [],uS 22 (fWPush (Pw w b1 b2) f [.ref a0] (wd (L1+1) c1)) [11,13],uS 24 (fam1 fun _ os=>kLenB (Pw w b1 b2) f.A f.D f.ti f.t0 f.ed (epN os 0) f.gl [⟨a0,z0,t0,L0+1,c0⟩,⟨adN os 5,z1,t1,L1+1,c1⟩]) [11,13,15,17,41,8],uS 26 (fAppend ⟨v.lw⟩) [9],uS 27 (fam2 fun c os px=>kPush (Pw w b1 b2) f.A f.D f.ti f.t0 f.ed [.ref a0,.ref (pxN px 2 0)] (epN os 0) st0 (argT c 1) (wd (Lw+1) cw) (argT c 2)) [11,13],uS 32 (fam1 fun _ os=>kStr (Pw w b1 b2) f.A f.D f.ti f.t0 f.ed (epN os 0) f.gs [⟨a0,z0,t0,L0+1,c0⟩,⟨adN os 5,z1,t1,L1+1,c1⟩,⟨adN os 6,tokV (vN os 6 0),tw,Lw+1,cw⟩]) [11,13,19,21,41,8,10],uS 36 (fAppend ⟨v.lk⟩) [7]] 37 (kk20 (Pw w b1 b2) f v a0 z0 t0 L0 c0 a1 z1 t1 L1 c1 Lw cw tw) [1,3,5,7,9,11,13,15,17,19,21,23,25,27,29,31,33,35,37,39,41,8,10] ⟨fNextL_ok (by simpa using hk),(fWPop_ok (hz3 (by simp))).mono le42_84,fLenS_ok hm1 (wdl hl1),fLenS_ok hmw (wdl hlw),int_le_ok hle1,(fWPush_ok (hz4 (by simp))).mono le42_84,fam1_ok fun _ _=>HL _ _,fAppend_ok hlw2,fam2_ok fun _ _ _=>(kPush_ok _ _ _ _ _ _ _ _ _ _ _ _ _ _ (hz4 (by simp))).mono le42_84,fam1_ok fun _ _=>(HS _ _ _ _).mono le42_84,fAppend_ok hlk,trivial⟩
end Mine
namespace Mine
noncomputable def hsWk21:List Nat:=hD 193 0x70000002c10001c71c704004d2c000000b00000b00000b04904000924924100104d2c000000b00000b00000b04104000100004104104c208a48208208229208208208a48208208a69a6900d2c000000b00000b00000b0400658c00000230000230000230410000400010410411820ab082082082ac20820820ab0820820abaebac034b0000002c00002c00002c10410c3
noncomputable def kk21 (P:Params) (f:WF) (v:WS) (a0:Addr) (z0 t0:Tok) (L0 c0:Nat) (a1:Addr) (z1 t1:Tok) (L1 c1:Nat) (Lw cw:Nat) (tw:Tok):Code→List (Addr×Obj)→List (Nat→Nat)→Pt:=fun _ os px=>wkNext P f v os px (.str (wd (Lw+1) cw) tw) (.str st0 z0) (.str (wd (L0+1) c0) t0) [⟨adN os 20,z0,t0,L0+1,c0⟩] (v.pb.concat (.str (wd (L1+1) c1) t1)) [⟨adN os 20,z0,t0,L0+1,c0⟩,⟨adN os 21,tokV (vN os 21 0),tw,Lw+1,cw⟩]
theorem wk21_ok (w:World) (b1 b2:Bool) (f:WF) (v:WS) (a0:Addr) (z0 t0:Tok) (L0 c0:Nat) (a1:Addr) (z1 t1:Tok) (L1 c1:Nat) (Lw cw:Nat) (tw:Tok) (mw:Int) (hmw:mw=((wd (Lw+1) cw).length:Nat)) (hlw:Lw≤100) (m0:Int) (hm0:m0=((wd (L0+1) c0).length:Nat)) (hl0:L0≤100) (hle0:decide (m0≤mw)=false) (m1:Int) (hm1:m1=((wd (L1+1) c1).length:Nat)) (hl1:L1≤100) (hle1:decide (m1≤mw)=true) (hk:f.its[v.k.toNat]?=some (.str (wd (Lw+1) cw) tw))
  (HL:∀ ep a,(kLenB (Pw w b1 b2) f.A f.D f.ti f.t0 f.ed ep f.gl [⟨a,z0,t0,L0+1,c0⟩]).Ok2 w b1 b2 84) (HS:∀ ep a b z,(kStr (Pw w b1 b2) f.A f.D f.ti f.t0 f.ed ep f.gs [⟨a,z0,t0,L0+1,c0⟩,⟨b,z,tw,Lw+1,cw⟩]).Ok2 w b1 b2 42) (hpb:∀ n,n<3→∀ l:List Value,l.length≤v.pb.length+n→l.length≤sizeLine) (hlk:v.lk.length≤sizeLine) (hlw2:v.lw.length≤sizeLine) :
  Way (Mo w b1 b2) (Kt w b1 b2) 126 (wkPt (Pw w b1 b2) f v [⟨a0,z0,t0,L0+1,c0⟩,⟨a1,z1,t1,L1+1,c1⟩]) (fun z:StI=>kk21 (Pw w b1 b2) f v a0 z0 t0 L0 c0 a1 z1 t1 L1 c1 Lw cw tw z.1 z.2.1 z.2.2) (fun z=>evs [1,3,5,7,9,11,13,15,17,19,21,23,25,27,29,31,33,35,37,39,14,16] (kk21 (Pw w b1 b2) f v a0 z0 t0 L0 c0 a1 z1 t1 L1 c1 Lw cw tw z.1 z.2.1 z.2.2).need):=by
 have hz3:∀ {l:List Value},l.length<4→l.length<sizeLine:=fun h=>by rw [sizeLine_eq]; omega
 have hz4:∀ {l:List Value},l.length≤4→l.length≤sizeLine:=fun h=>by rw [sizeLine_eq]; omega
 exact Way.of2b 84 hsWk21 [uS 1 (fNextL ⟨f.its⟩ v.k (.str (wd (Lw+1) cw) tw)) [3,5],uS 2 (fWPop (Pw w b1 b2) f [.ref a0] a1) [11,13],uS 15 (fLenS (wd (L1+1) c1) m1) [],uS 17 (fLenS (wd (Lw+1) cw) mw) [],uS 19 (fII "int.__le__" m1 mw true) [],uS 20 (fWPT (Pw w b1 b2) f (wd (L1+1) c1) (v.pb)) [23,25,27,29,31,33,35,37,39],uS 21 (fWPop (Pw w b1 b2) f [] a0) [11,13],uS 34 (fLenS (wd (L0+1) c0) m0) [],uS 36 (fLenS (wd (Lw+1) cw) mw) [],uS 38 (fII "int.__le__" m0 mw false) [],uS 41 (fWPush (Pw w b1 b2) f [] (wd (L0+1) c0)) [11,13],uS 43 (fam1 fun _ os=>kLenB (Pw w b1 b2) f.A f.D f.ti f.t0 f.ed (epN os 0) f.gl [⟨adN os 4,z0,t0,L0+1,c0⟩]) [11,13,15,17,14],uS 45 (fAppend ⟨v.lw⟩) [9],uS 46 (fam2 fun c os px=>kPush (Pw w b1 b2) f.A f.D f.ti f.t0 f.ed [.ref (pxN px 2 0)] (epN os 0) st0 (argT c 1) (wd (Lw+1) cw) (argT c 2)) [11,13],uS 51 (fam1 fun _ os=>kStr (Pw w b1 b2) f.A f.D f.ti f.t0 f.ed (epN os 0) f.gs [⟨adN os 4,z0,t0,L0+1,c0⟩,⟨adN os 5,tokV (vN os 5 0),tw,Lw+1,cw⟩]) [11,13,19,21,14,16],uS 55 (fAppend ⟨v.lk⟩) [7]] 56 (kk21 (Pw w b1 b2) f v a0 z0 t0 L0 c0 a1 z1 t1 L1 c1 Lw cw tw) [1,3,5,7,9,11,13,15,17,19,21,23,25,27,29,31,33,35,37,39,14,16] ⟨fNextL_ok (by simpa using hk),(fWPop_ok (hz3 (by simp))).mono le42_84,fLenS_ok hm1 (wdl hl1),fLenS_ok hmw (wdl hlw),int_le_ok hle1,(fWPT_ok (hpb 0 (by decide) _ (by simp))).mono le42_84,(fWPop_ok (hz3 (by simp))).mono le42_84,fLenS_ok hm0 (wdl hl0),fLenS_ok hmw (wdl hlw),int_le_ok hle0,(fWPush_ok (hz4 (by simp))).mono le42_84,fam1_ok fun _ _=>HL _ _,fAppend_ok hlw2,fam2_ok fun _ _ _=>(kPush_ok _ _ _ _ _ _ _ _ _ _ _ _ _ _ (hz4 (by simp))).mono le42_84,fam1_ok fun _ _=>(HS _ _ _ _).mono le42_84,fAppend_ok hlk,trivial⟩
end Mine
namespace Mine
noncomputable def hsWk22:List Nat:=hD 241 0x70000002c10001c71c704004d2c000000b00000b00000b04904000924924104104104151040e41041041039041041040e41041040e38e38034b0000002c00002c00002c10019630000008c00008c00008c104000100004104104c208a48208208229208208208a48208208a69a6900d2c000000b00000b00000b0400658c00000230000230000230410000400010410411820ab082082082ac20820820ab0820820abaebac034b0000002c00002c00002c10410c3
noncomputable def kk22 (P:Params) (f:WF) (v:WS) (a0:Addr) (z0 t0:Tok) (L0 c0:Nat) (a1:Addr) (z1 t1:Tok) (L1 c1:Nat) (Lw cw:Nat) (tw:Tok):Code→List (Addr×Obj)→List (Nat→Nat)→Pt:=fun _ os px=>wkNext P f v os px (.str (wd (Lw+1) cw) tw) (.str st0 (pxN px 5 1)) (.str st0 (pxN px 5 2)) [] ((v.pb.concat (.str (wd (L1+1) c1) t1)).concat (.str (wd (L0+1) c0) t0)) [⟨adN os 20,tokV (vN os 20 0),tw,Lw+1,cw⟩]
theorem wk22_ok (w:World) (b1 b2:Bool) (f:WF) (v:WS) (a0:Addr) (z0 t0:Tok) (L0 c0:Nat) (a1:Addr) (z1 t1:Tok) (L1 c1:Nat) (Lw cw:Nat) (tw:Tok) (mw:Int) (hmw:mw=((wd (Lw+1) cw).length:Nat)) (hlw:Lw≤100) (m0:Int) (hm0:m0=((wd (L0+1) c0).length:Nat)) (hl0:L0≤100) (hle0:decide (m0≤mw)=true) (m1:Int) (hm1:m1=((wd (L1+1) c1).length:Nat)) (hl1:L1≤100) (hle1:decide (m1≤mw)=true) (hk:f.its[v.k.toNat]?=some (.str (wd (Lw+1) cw) tw))
  (HL:∀ ep (_:Nat),(kLenB (Pw w b1 b2) f.A f.D f.ti f.t0 f.ed ep f.gl []).Ok2 w b1 b2 84) (HS:∀ ep (_:Nat) b z,(kStr (Pw w b1 b2) f.A f.D f.ti f.t0 f.ed ep f.gs [⟨b,z,tw,Lw+1,cw⟩]).Ok2 w b1 b2 42) (hpb:∀ n,n<3→∀ l:List Value,l.length≤v.pb.length+n→l.length≤sizeLine) (hlk:v.lk.length≤sizeLine) (hlw2:v.lw.length≤sizeLine) :
  Way (Mo w b1 b2) (Kt w b1 b2) 126 (wkPt (Pw w b1 b2) f v [⟨a0,z0,t0,L0+1,c0⟩,⟨a1,z1,t1,L1+1,c1⟩]) (fun z:StI=>kk22 (Pw w b1 b2) f v a0 z0 t0 L0 c0 a1 z1 t1 L1 c1 Lw cw tw z.1 z.2.1 z.2.2) (fun z=>evs [1,3,5,7,9,11,13,15,17,19,21,23,25,27,29,31,33,35,37,39,22] (kk22 (Pw w b1 b2) f v a0 z0 t0 L0 c0 a1 z1 t1 L1 c1 Lw cw tw z.1 z.2.1 z.2.2).need):=by
 have hz3:∀ {l:List Value},l.length<4→l.length<sizeLine:=fun h=>by rw [sizeLine_eq]; omega
 have hz4:∀ {l:List Value},l.length≤4→l.length≤sizeLine:=fun h=>by rw [sizeLine_eq]; omega
 exact Way.of2b 84 hsWk22 [uS 1 (fNextL ⟨f.its⟩ v.k (.str (wd (Lw+1) cw) tw)) [3,5],uS 2 (fWPop (Pw w b1 b2) f [.ref a0] a1) [11,13],uS 15 (fLenS (wd (L1+1) c1) m1) [],uS 17 (fLenS (wd (Lw+1) cw) mw) [],uS 19 (fII "int.__le__" m1 mw true) [],uS 20 (fWPT (Pw w b1 b2) f (wd (L1+1) c1) (v.pb)) [23,25,27,29,31,33,35,37,39],uS 21 (fWPop (Pw w b1 b2) f [] a0) [11,13],uS 34 (fLenS (wd (L0+1) c0) m0) [],uS 36 (fLenS (wd (Lw+1) cw) mw) [],uS 38 (fII "int.__le__" m0 mw true) [],uS 39 (fWPT (Pw w b1 b2) f (wd (L0+1) c0) (v.pb.concat (.str (wd (L1+1) c1) t1))) [23,25,27,29,31,33,35,37,39],uS 40 (fWPop0 (Pw w b1 b2) f) [11,13],uS 55 (fam1 fun _ os=>kLenB (Pw w b1 b2) f.A f.D f.ti f.t0 f.ed (epN os 0) f.gl []) [11,13,15,17],uS 57 (fAppend ⟨v.lw⟩) [9],uS 58 (fWPush (Pw w b1 b2) f [] (wd (Lw+1) cw)) [11,13],uS 63 (fam1 fun _ os=>kStr (Pw w b1 b2) f.A f.D f.ti f.t0 f.ed (epN os 0) f.gs [⟨adN os 4,tokV (vN os 4 0),tw,Lw+1,cw⟩]) [11,13,19,21,22],uS 67 (fAppend ⟨v.lk⟩) [7]] 68 (kk22 (Pw w b1 b2) f v a0 z0 t0 L0 c0 a1 z1 t1 L1 c1 Lw cw tw) [1,3,5,7,9,11,13,15,17,19,21,23,25,27,29,31,33,35,37,39,22] ⟨fNextL_ok (by simpa using hk),(fWPop_ok (hz3 (by simp))).mono le42_84,fLenS_ok hm1 (wdl hl1),fLenS_ok hmw (wdl hlw),int_le_ok hle1,(fWPT_ok (hpb 0 (by decide) _ (by simp))).mono le42_84,(fWPop_ok (hz3 (by simp))).mono le42_84,fLenS_ok hm0 (wdl hl0),fLenS_ok hmw (wdl hlw),int_le_ok hle0,(fWPT_ok (hpb 1 (by decide) _ (by simp))).mono le42_84,fWPop0_ok.mono le42_84,fam1_ok fun _ _=>HL _ 0,fAppend_ok hlw2,(fWPush_ok (hz4 (by simp))).mono le42_84,fam1_ok fun _ _=>(HS _ 0 _ _).mono le42_84,fAppend_ok hlk,trivial⟩
end Mine
namespace Mine
noncomputable def hsWk31:List Nat:=hD 193 0x70000002c10001c71c704004d2c000000b00000b00000b04904000924924100104d2c000000b00000b00000b04104000100004104104c208ac820820822b208208208ac8208208aebaeb00d2c000000b00000b00000b0400658c00000230000230000230410000400010410411820ad082082082b420820820ad0820820adb6db4034b0000002c00002c00002c10410c3
noncomputable def kk31 (P:Params) (f:WF) (v:WS) (a0:Addr) (z0 t0:Tok) (L0 c0:Nat) (a1:Addr) (z1 t1:Tok) (L1 c1:Nat) (a2:Addr) (z2 t2:Tok) (L2 c2:Nat) (Lw cw:Nat) (tw:Tok):Code→List (Addr×Obj)→List (Nat→Nat)→Pt:=fun _ os px=>wkNext P f v os px (.str (wd (Lw+1) cw) tw) (.str st0 z1) (.str (wd (L1+1) c1) t1) [⟨a0,z0,t0,L0+1,c0⟩,⟨adN os 21,z1,t1,L1+1,c1⟩] (v.pb.concat (.str (wd (L2+1) c2) t2)) [⟨a0,z0,t0,L0+1,c0⟩,⟨adN os 21,z1,t1,L1+1,c1⟩,⟨adN os 22,tokV (vN os 22 0),tw,Lw+1,cw⟩]
theorem wk31_ok (w:World) (b1 b2:Bool) (f:WF) (v:WS) (a0:Addr) (z0 t0:Tok) (L0 c0:Nat) (a1:Addr) (z1 t1:Tok) (L1 c1:Nat) (a2:Addr) (z2 t2:Tok) (L2 c2:Nat) (Lw cw:Nat) (tw:Tok) (mw:Int) (hmw:mw=((wd (Lw+1) cw).length:Nat)) (hlw:Lw≤100) (m1:Int) (hm1:m1=((wd (L1+1) c1).length:Nat)) (hl1:L1≤100) (hle1:decide (m1≤mw)=false) (m2:Int) (hm2:m2=((wd (L2+1) c2).length:Nat)) (hl2:L2≤100) (hle2:decide (m2≤mw)=true) (hk:f.its[v.k.toNat]?=some (.str (wd (Lw+1) cw) tw))
  (HL:∀ ep a,(kLenB (Pw w b1 b2) f.A f.D f.ti f.t0 f.ed ep f.gl [⟨a0,z0,t0,L0+1,c0⟩,⟨a,z1,t1,L1+1,c1⟩]).Ok2 w b1 b2 84) (HS:∀ ep a b z,(kStr (Pw w b1 b2) f.A f.D f.ti f.t0 f.ed ep f.gs [⟨a0,z0,t0,L0+1,c0⟩,⟨a,z1,t1,L1+1,c1⟩,⟨b,z,tw,Lw+1,cw⟩]).Ok2 w b1 b2 42) (hpb:∀ n,n<3→∀ l:List Value,l.length≤v.pb.length+n→l.length≤sizeLine) (hlk:v.lk.length≤sizeLine) (hlw2:v.lw.length≤sizeLine) :
  Way (Mo w b1 b2) (Kt w b1 b2) 126 (wkPt (Pw w b1 b2) f v [⟨a0,z0,t0,L0+1,c0⟩,⟨a1,z1,t1,L1+1,c1⟩,⟨a2,z2,t2,L2+1,c2⟩]) (fun z:StI=>kk31 (Pw w b1 b2) f v a0 z0 t0 L0 c0 a1 z1 t1 L1 c1 a2 z2 t2 L2 c2 Lw cw tw z.1 z.2.1 z.2.2) (fun z=>evs [1,3,5,7,9,11,13,15,17,19,21,23,25,27,29,31,33,35,37,39,41,14,16] (kk31 (Pw w b1 b2) f v a0 z0 t0 L0 c0 a1 z1 t1 L1 c1 a2 z2 t2 L2 c2 Lw cw tw z.1 z.2.1 z.2.2).need):=by
 have hz3:∀ {l:List Value},l.length<4→l.length<sizeLine:=fun h=>by rw [sizeLine_eq]; omega
 have hz4:∀ {l:List Value},l.length≤4→l.length≤sizeLine:=fun h=>by rw [sizeLine_eq]; omega
 exact Way.of2b 84 hsWk31 [uS 1 (fNextL ⟨f.its⟩ v.k (.str (wd (Lw+1) cw) tw)) [3,5],uS 2 (fWPop (Pw w b1 b2) f [.ref a0,.ref a1] a2) [11,13],uS 15 (fLenS (wd (L2+1) c2) m2) [],uS 17 (fLenS (wd (Lw+1) cw) mw) [],uS 19 (fII "int.__le__" m2 mw true) [],uS 20 (fWPT (Pw w b1 b2) f (wd (L2+1) c2) (v.pb)) [23,25,27,29,31,33,35,37,39],uS 21 (fWPop (Pw w b1 b2) f [.ref a0] a1) [11,13],uS 34 (fLenS (wd (L1+1) c1) m1) [],uS 36 (fLenS (wd (Lw+1) cw) mw) [],uS 38 (fII "int.__le__" m1 mw false) [],uS 41 (fWPush (Pw w b1 b2) f [.ref a0] (wd (L1+1) c1)) [11,13],uS 43 (fam1 fun _ os=>kLenB (Pw w b1 b2) f.A f.D f.ti f.t0 f.ed (epN os 0) f.gl [⟨a0,z0,t0,L0+1,c0⟩,⟨adN os 5,z1,t1,L1+1,c1⟩]) [11,13,15,17,41,14],uS 45 (fAppend ⟨v.lw⟩) [9],uS 46 (fam2 fun c os px=>kPush (Pw w b1 b2) f.A f.D f.ti f.t0 f.ed [.ref a0,.ref (pxN px 2 0)] (epN os 0) st0 (argT c 1) (wd (Lw+1) cw) (argT c 2)) [11,13],uS 51 (fam1 fun _ os=>kStr (Pw w b1 b2) f.A f.D f.ti f.t0 f.ed (epN os 0) f.gs [⟨a0,z0,t0,L0+1,c0⟩,⟨adN os 5,z1,t1,L1+1,c1⟩,⟨adN os 6,tokV (vN os 6 0),tw,Lw+1,cw⟩]) [11,13,19,21,41,14,16],uS 55 (fAppend ⟨v.lk⟩) [7]] 56 (kk31 (Pw w b1 b2) f v a0 z0 t0 L0 c0 a1 z1 t1 L1 c1 a2 z2 t2 L2 c2 Lw cw tw) [1,3,5,7,9,11,13,15,17,19,21,23,25,27,29,31,33,35,37,39,41,14,16] ⟨fNextL_ok (by simpa using hk),(fWPop_ok (hz3 (by simp))).mono le42_84,fLenS_ok hm2 (wdl hl2),fLenS_ok hmw (wdl hlw),int_le_ok hle2,(fWPT_ok (hpb 0 (by decide) _ (by simp))).mono le42_84,(fWPop_ok (hz3 (by simp))).mono le42_84,fLenS_ok hm1 (wdl hl1),fLenS_ok hmw (wdl hlw),int_le_ok hle1,(fWPush_ok (hz4 (by simp))).mono le42_84,fam1_ok fun _ _=>HL _ _,fAppend_ok hlw2,fam2_ok fun _ _ _=>(kPush_ok _ _ _ _ _ _ _ _ _ _ _ _ _ _ (hz4 (by simp))).mono le42_84,fam1_ok fun _ _=>(HS _ _ _ _).mono le42_84,fAppend_ok hlk,trivial⟩
end Mine
namespace Mine
noncomputable def hsWk32:List Nat:=hD 266 0x1c000000b0400071c71c100134b0000002c00002c00002c124100024924904004134b0000002c00002c00002c104100004000104104148e3a938e38e38ea4e38e38e3a938e38e3a9a69a4034b0000002c00002c00002c10019630000008c00008c00008c104000100004104104c208ac820820822b208208208ac8208208aebaeb00d2c000000b00000b00000b0400658c00000230000230000230410000400010410411820ad082082082b420820820ad0820820adb6db4034b0000002c00002c00002c10410c3
noncomputable def kk32 (P:Params) (f:WF) (v:WS) (a0:Addr) (z0 t0:Tok) (L0 c0:Nat) (a1:Addr) (z1 t1:Tok) (L1 c1:Nat) (a2:Addr) (z2 t2:Tok) (L2 c2:Nat) (Lw cw:Nat) (tw:Tok):Code→List (Addr×Obj)→List (Nat→Nat)→Pt:=fun _ os px=>wkNext P f v os px (.str (wd (Lw+1) cw) tw) (.str st0 z0) (.str (wd (L0+1) c0) t0) [⟨adN os 20,z0,t0,L0+1,c0⟩] ((v.pb.concat (.str (wd (L2+1) c2) t2)).concat (.str (wd (L1+1) c1) t1)) [⟨adN os 20,z0,t0,L0+1,c0⟩,⟨adN os 21,tokV (vN os 21 0),tw,Lw+1,cw⟩]
theorem wk32_ok (w:World) (b1 b2:Bool) (f:WF) (v:WS) (a0:Addr) (z0 t0:Tok) (L0 c0:Nat) (a1:Addr) (z1 t1:Tok) (L1 c1:Nat) (a2:Addr) (z2 t2:Tok) (L2 c2:Nat) (Lw cw:Nat) (tw:Tok) (mw:Int) (hmw:mw=((wd (Lw+1) cw).length:Nat)) (hlw:Lw≤100) (m0:Int) (hm0:m0=((wd (L0+1) c0).length:Nat)) (hl0:L0≤100) (hle0:decide (m0≤mw)=false) (m1:Int) (hm1:m1=((wd (L1+1) c1).length:Nat)) (hl1:L1≤100) (hle1:decide (m1≤mw)=true) (m2:Int) (hm2:m2=((wd (L2+1) c2).length:Nat)) (hl2:L2≤100) (hle2:decide (m2≤mw)=true) (hk:f.its[v.k.toNat]?=some (.str (wd (Lw+1) cw) tw))
  (HL:∀ ep a,(kLenB (Pw w b1 b2) f.A f.D f.ti f.t0 f.ed ep f.gl [⟨a,z0,t0,L0+1,c0⟩]).Ok2 w b1 b2 84) (HS:∀ ep a b z,(kStr (Pw w b1 b2) f.A f.D f.ti f.t0 f.ed ep f.gs [⟨a,z0,t0,L0+1,c0⟩,⟨b,z,tw,Lw+1,cw⟩]).Ok2 w b1 b2 42) (hpb:∀ n,n<3→∀ l:List Value,l.length≤v.pb.length+n→l.length≤sizeLine) (hlk:v.lk.length≤sizeLine) (hlw2:v.lw.length≤sizeLine) :
  Way (Mo w b1 b2) (Kt w b1 b2) 126 (wkPt (Pw w b1 b2) f v [⟨a0,z0,t0,L0+1,c0⟩,⟨a1,z1,t1,L1+1,c1⟩,⟨a2,z2,t2,L2+1,c2⟩]) (fun z:StI=>kk32 (Pw w b1 b2) f v a0 z0 t0 L0 c0 a1 z1 t1 L1 c1 a2 z2 t2 L2 c2 Lw cw tw z.1 z.2.1 z.2.2) (fun z=>evs [1,3,5,7,9,11,13,15,17,19,21,23,25,27,29,31,33,35,37,39,20,22] (kk32 (Pw w b1 b2) f v a0 z0 t0 L0 c0 a1 z1 t1 L1 c1 a2 z2 t2 L2 c2 Lw cw tw z.1 z.2.1 z.2.2).need):=by
 have hz3:∀ {l:List Value},l.length<4→l.length<sizeLine:=fun h=>by rw [sizeLine_eq]; omega
 have hz4:∀ {l:List Value},l.length≤4→l.length≤sizeLine:=fun h=>by rw [sizeLine_eq]; omega
 exact Way.of2b 84 hsWk32 [uS 1 (fNextL ⟨f.its⟩ v.k (.str (wd (Lw+1) cw) tw)) [3,5],uS 2 (fWPop (Pw w b1 b2) f [.ref a0,.ref a1] a2) [11,13],uS 15 (fLenS (wd (L2+1) c2) m2) [],uS 17 (fLenS (wd (Lw+1) cw) mw) [],uS 19 (fII "int.__le__" m2 mw true) [],uS 20 (fWPT (Pw w b1 b2) f (wd (L2+1) c2) (v.pb)) [23,25,27,29,31,33,35,37,39],uS 21 (fWPop (Pw w b1 b2) f [.ref a0] a1) [11,13],uS 34 (fLenS (wd (L1+1) c1) m1) [],uS 36 (fLenS (wd (Lw+1) cw) mw) [],uS 38 (fII "int.__le__" m1 mw true) [],uS 39 (fWPT (Pw w b1 b2) f (wd (L1+1) c1) (v.pb.concat (.str (wd (L2+1) c2) t2))) [23,25,27,29,31,33,35,37,39],uS 40 (fWPop (Pw w b1 b2) f [] a0) [11,13],uS 53 (fLenS (wd (L0+1) c0) m0) [],uS 55 (fLenS (wd (Lw+1) cw) mw) [],uS 57 (fII "int.__le__" m0 mw false) [],uS 60 (fWPush (Pw w b1 b2) f [] (wd (L0+1) c0)) [11,13],uS 62 (fam1 fun _ os=>kLenB (Pw w b1 b2) f.A f.D f.ti f.t0 f.ed (epN os 0) f.gl [⟨adN os 4,z0,t0,L0+1,c0⟩]) [11,13,15,17,20],uS 64 (fAppend ⟨v.lw⟩) [9],uS 65 (fam2 fun c os px=>kPush (Pw w b1 b2) f.A f.D f.ti f.t0 f.ed [.ref (pxN px 2 0)] (epN os 0) st0 (argT c 1) (wd (Lw+1) cw) (argT c 2)) [11,13],uS 70 (fam1 fun _ os=>kStr (Pw w b1 b2) f.A f.D f.ti f.t0 f.ed (epN os 0) f.gs [⟨adN os 4,z0,t0,L0+1,c0⟩,⟨adN os 5,tokV (vN os 5 0),tw,Lw+1,cw⟩]) [11,13,19,21,20,22],uS 74 (fAppend ⟨v.lk⟩) [7]] 75 (kk32 (Pw w b1 b2) f v a0 z0 t0 L0 c0 a1 z1 t1 L1 c1 a2 z2 t2 L2 c2 Lw cw tw) [1,3,5,7,9,11,13,15,17,19,21,23,25,27,29,31,33,35,37,39,20,22] ⟨fNextL_ok (by simpa using hk),(fWPop_ok (hz3 (by simp))).mono le42_84,fLenS_ok hm2 (wdl hl2),fLenS_ok hmw (wdl hlw),int_le_ok hle2,(fWPT_ok (hpb 0 (by decide) _ (by simp))).mono le42_84,(fWPop_ok (hz3 (by simp))).mono le42_84,fLenS_ok hm1 (wdl hl1),fLenS_ok hmw (wdl hlw),int_le_ok hle1,(fWPT_ok (hpb 1 (by decide) _ (by simp))).mono le42_84,(fWPop_ok (hz3 (by simp))).mono le42_84,fLenS_ok hm0 (wdl hl0),fLenS_ok hmw (wdl hlw),int_le_ok hle0,(fWPush_ok (hz4 (by simp))).mono le42_84,fam1_ok fun _ _=>HL _ _,fAppend_ok hlw2,fam2_ok fun _ _ _=>(kPush_ok _ _ _ _ _ _ _ _ _ _ _ _ _ _ (hz4 (by simp))).mono le42_84,fam1_ok fun _ _=>(HS _ _ _ _).mono le42_84,fAppend_ok hlk,trivial⟩
end Mine
namespace Mine
noncomputable def hsWk33:List Nat:=hD 314 0x1c000000b0400071c71c100134b0000002c00002c00002c124100024924904104104105a59651659659659459659659651659659651451400d2c000000b00000b00000b0400658c000002300002300002304100004000104104148e3a938e38e38ea4e38e38e3a938e38e3a9a69a4034b0000002c00002c00002c10019630000008c00008c00008c104000100004104104c208ac820820822b208208208ac8208208aebaeb00d2c000000b00000b00000b0400658c00000230000230000230410000400010410411820ad082082082b420820820ad0820820adb6db4034b0000002c00002c00002c10410c3
noncomputable def kk33 (P:Params) (f:WF) (v:WS) (a0:Addr) (z0 t0:Tok) (L0 c0:Nat) (a1:Addr) (z1 t1:Tok) (L1 c1:Nat) (a2:Addr) (z2 t2:Tok) (L2 c2:Nat) (Lw cw:Nat) (tw:Tok):Code→List (Addr×Obj)→List (Nat→Nat)→Pt:=fun _ os px=>wkNext P f v os px (.str (wd (Lw+1) cw) tw) (.str st0 (pxN px 5 1)) (.str st0 (pxN px 5 2)) [] (((v.pb.concat (.str (wd (L2+1) c2) t2)).concat (.str (wd (L1+1) c1) t1)).concat (.str (wd (L0+1) c0) t0)) [⟨adN os 20,tokV (vN os 20 0),tw,Lw+1,cw⟩]
theorem wk33_ok (w:World) (b1 b2:Bool) (f:WF) (v:WS) (a0:Addr) (z0 t0:Tok) (L0 c0:Nat) (a1:Addr) (z1 t1:Tok) (L1 c1:Nat) (a2:Addr) (z2 t2:Tok) (L2 c2:Nat) (Lw cw:Nat) (tw:Tok) (mw:Int) (hmw:mw=((wd (Lw+1) cw).length:Nat)) (hlw:Lw≤100) (m0:Int) (hm0:m0=((wd (L0+1) c0).length:Nat)) (hl0:L0≤100) (hle0:decide (m0≤mw)=true) (m1:Int) (hm1:m1=((wd (L1+1) c1).length:Nat)) (hl1:L1≤100) (hle1:decide (m1≤mw)=true) (m2:Int) (hm2:m2=((wd (L2+1) c2).length:Nat)) (hl2:L2≤100) (hle2:decide (m2≤mw)=true) (hk:f.its[v.k.toNat]?=some (.str (wd (Lw+1) cw) tw))
  (HL:∀ ep (_:Nat),(kLenB (Pw w b1 b2) f.A f.D f.ti f.t0 f.ed ep f.gl []).Ok2 w b1 b2 84) (HS:∀ ep (_:Nat) b z,(kStr (Pw w b1 b2) f.A f.D f.ti f.t0 f.ed ep f.gs [⟨b,z,tw,Lw+1,cw⟩]).Ok2 w b1 b2 42) (hpb:∀ n,n<3→∀ l:List Value,l.length≤v.pb.length+n→l.length≤sizeLine) (hlk:v.lk.length≤sizeLine) (hlw2:v.lw.length≤sizeLine) :
  Way (Mo w b1 b2) (Kt w b1 b2) 126 (wkPt (Pw w b1 b2) f v [⟨a0,z0,t0,L0+1,c0⟩,⟨a1,z1,t1,L1+1,c1⟩,⟨a2,z2,t2,L2+1,c2⟩]) (fun z:StI=>kk33 (Pw w b1 b2) f v a0 z0 t0 L0 c0 a1 z1 t1 L1 c1 a2 z2 t2 L2 c2 Lw cw tw z.1 z.2.1 z.2.2) (fun z=>evs [1,3,5,7,9,11,13,15,17,19,21,23,25,27,29,31,33,35,37,39,28] (kk33 (Pw w b1 b2) f v a0 z0 t0 L0 c0 a1 z1 t1 L1 c1 a2 z2 t2 L2 c2 Lw cw tw z.1 z.2.1 z.2.2).need):=by
 have hz3:∀ {l:List Value},l.length<4→l.length<sizeLine:=fun h=>by rw [sizeLine_eq]; omega
 have hz4:∀ {l:List Value},l.length≤4→l.length≤sizeLine:=fun h=>by rw [sizeLine_eq]; omega
 exact Way.of2b 84 hsWk33 [uS 1 (fNextL ⟨f.its⟩ v.k (.str (wd (Lw+1) cw) tw)) [3,5],uS 2 (fWPop (Pw w b1 b2) f [.ref a0,.ref a1] a2) [11,13],uS 15 (fLenS (wd (L2+1) c2) m2) [],uS 17 (fLenS (wd (Lw+1) cw) mw) [],uS 19 (fII "int.__le__" m2 mw true) [],uS 20 (fWPT (Pw w b1 b2) f (wd (L2+1) c2) (v.pb)) [23,25,27,29,31,33,35,37,39],uS 21 (fWPop (Pw w b1 b2) f [.ref a0] a1) [11,13],uS 34 (fLenS (wd (L1+1) c1) m1) [],uS 36 (fLenS (wd (Lw+1) cw) mw) [],uS 38 (fII "int.__le__" m1 mw true) [],uS 39 (fWPT (Pw w b1 b2) f (wd (L1+1) c1) (v.pb.concat (.str (wd (L2+1) c2) t2))) [23,25,27,29,31,33,35,37,39],uS 40 (fWPop (Pw w b1 b2) f [] a0) [11,13],uS 53 (fLenS (wd (L0+1) c0) m0) [],uS 55 (fLenS (wd (Lw+1) cw) mw) [],uS 57 (fII "int.__le__" m0 mw true) [],uS 58 (fWPT (Pw w b1 b2) f (wd (L0+1) c0) ((v.pb.concat (.str (wd (L2+1) c2) t2)).concat (.str (wd (L1+1) c1) t1))) [23,25,27,29,31,33,35,37,39],uS 59 (fWPop0 (Pw w b1 b2) f) [11,13],uS 74 (fam1 fun _ os=>kLenB (Pw w b1 b2) f.A f.D f.ti f.t0 f.ed (epN os 0) f.gl []) [11,13,15,17],uS 76 (fAppend ⟨v.lw⟩) [9],uS 77 (fWPush (Pw w b1 b2) f [] (wd (Lw+1) cw)) [11,13],uS 82 (fam1 fun _ os=>kStr (Pw w b1 b2) f.A f.D f.ti f.t0 f.ed (epN os 0) f.gs [⟨adN os 4,tokV (vN os 4 0),tw,Lw+1,cw⟩]) [11,13,19,21,28],uS 86 (fAppend ⟨v.lk⟩) [7]] 87 (kk33 (Pw w b1 b2) f v a0 z0 t0 L0 c0 a1 z1 t1 L1 c1 a2 z2 t2 L2 c2 Lw cw tw) [1,3,5,7,9,11,13,15,17,19,21,23,25,27,29,31,33,35,37,39,28] ⟨fNextL_ok (by simpa using hk),(fWPop_ok (hz3 (by simp))).mono le42_84,fLenS_ok hm2 (wdl hl2),fLenS_ok hmw (wdl hlw),int_le_ok hle2,(fWPT_ok (hpb 0 (by decide) _ (by simp))).mono le42_84,(fWPop_ok (hz3 (by simp))).mono le42_84,fLenS_ok hm1 (wdl hl1),fLenS_ok hmw (wdl hlw),int_le_ok hle1,(fWPT_ok (hpb 1 (by decide) _ (by simp))).mono le42_84,(fWPop_ok (hz3 (by simp))).mono le42_84,fLenS_ok hm0 (wdl hl0),fLenS_ok hmw (wdl hlw),int_le_ok hle0,(fWPT_ok (hpb 2 (by decide) _ (by simp))).mono le42_84,fWPop0_ok.mono le42_84,fam1_ok fun _ _=>HL _ 0,fAppend_ok hlw2,(fWPush_ok (hz4 (by simp))).mono le42_84,fam1_ok fun _ _=>(HS _ 0 _ _).mono le42_84,fAppend_ok hlk,trivial⟩
end Mine
namespace Mine
theorem kStrI_all (w:World) (b1 b2:Bool) (A D:Addr) (ti t0:Tok) (ed ep:Nat) (a:Addr) (z t:Tok) (L c:Nat) (h:L=1∨L=2∨L=3):(kStrI (Pw w b1 b2) A D ti t0 ed ep ⟨a,z,t,L,c⟩).Ok2 w b1 b2 42:=by
 rcases h with rfl | rfl | rfl
 ·exact kStrI_ok1 w b1 b2 A D ti t0 ed ep a z t c
 ·exact kStrI_ok2 w b1 b2 A D ti t0 ed ep a z t c
 ·exact kStrI_ok3 w b1 b2 A D ti t0 ed ep a z t c
noncomputable def wkNeed0 (P:Params) (f:WF) (k1 k2 k3 k4 k5:Tok) (fe el ew ep:Nat) (pb:List Value) (epb:Nat):List (Addr×Obj) :=
 (f.L,{cls:=.type "frame",data:=.dict ⟨[ent P "words" k1 (.ref f.W),ent P "pile" k2 (.ref (f.A+213)),ent P "line" k3 (.ref f.l.X),ent P "looks" k4 (.ref f.LK),ent P "lows" k5 (.ref f.LW)]⟩ fe}) ::
 (f.I,lisIt (.ref f.W) 0 0)::(f.W,lsO f.its f.esw)::(f.LK,lsO [] el)::(f.LW,lsO [] ew)::(pileNeed P f.A f.D f.ti f.t0 f.ed [] ep++(77,tabE)::(84,tabE)::lexNeed P f.l f.ss f.ess f.n f.tn pb epb)
noncomputable def tl2 (os:List (Addr×Obj)) (i:Nat):List Value:=match (oN os i).data with
 | .fields ⟨_::_::r⟩=>r
 | _=>[]
noncomputable def gcN (os:List (Addr×Obj)) (i:Nat):Gc:=⟨adN os i,tokV (vN os i 0),tokV (vN os i 1),tl2 os i⟩
noncomputable def wk0f (f:WF) (os:List (Addr×Obj)):WF:={f with gl:=gcN os 8,gs:=gcN os 10,kt:=fun j=>tokV (keyN os 0 j)}
noncomputable def wk0p (os:List (Addr×Obj)) (L c:Nat) (tw:Tok):Pc:=⟨adN os 20,tokV (vN os 20 0),tw,L,c⟩
noncomputable def wk0v (pb:List Value) (os:List (Addr×Obj)) (px:List (Nat→Nat)) (L c:Nat):WS :=
 ⟨vN os 0 5,vN os 0 6,vN os 0 7,epN os 0,1,[.str (wd L c) (pxN px 1 8)],[.int 0 (tokV (vN os 4 0))],epN os 3,epN os 4,epN os 5,pb,epN os 19⟩
noncomputable def wk0K (P:Params) (f:WF) (pb:List Value) (L c:Nat) (tw:Tok):Code→List (Addr×Obj)→List (Nat→Nat)→Pt:=fun _ os px=>wkPt P (wk0f f os) (wk0v pb os px L c) [wk0p os L c tw]
noncomputable def hsWk0:List Nat:=hD 100 0x1c000000b0400071c71c100134b0000002c00002c00002c124000000b04000924924104104104120410210410410408410410410210410410208208034b0000002c00002c00002c10410c3
noncomputable def plWk0:List Nat:=hD 21 0xc8e17dd6d95d54ce44a3cd2c91c50c1
theorem wk0_ok (w:World) (b1 b2:Bool) (f:WF) (k1 k2 k3 k4 k5:Tok) (fe el ew ep:Nat) (pb:List Value) (epb:Nat) (L c:Nat) (tw:Tok) (hL:L=1∨L=2∨L=3) (hk:f.its[0]?=some (.str (wd L c) tw)) :
  Way (Mo w b1 b2) (Kt w b1 b2) 126 ⟨wkC (Pw w b1 b2) f,wkNeed0 (Pw w b1 b2) f k1 k2 k3 k4 k5 fe el ew ep pb epb⟩ (fun z:StI=>wk0K (Pw w b1 b2) f pb L c tw z.1 z.2.1 z.2.2) (fun z=>evs plWk0 (wk0K (Pw w b1 b2) f pb L c tw z.1 z.2.1 z.2.2).need):=by
 have hz:([]:List Value).length≤sizeLine:=by rw [sizeLine_eq]; decide
 exact Way.of2b 42 hsWk0 [uS 1 (fNextL ⟨f.its⟩ 0 (.str (wd L c) tw)) [3,5],uS 2 (fWPop0 (Pw w b1 b2) f) [11,13],uS 18 (fam1 fun _ os=>kLenI (Pw w b1 b2) f.A f.D f.ti f.t0 f.ed (epN os 0)) [11,13,15],uS 20 (fAppend ⟨[]⟩) [9],uS 21 (fWPush (Pw w b1 b2) f [] (wd L c)) [11,13],
  uS 26 (fam1 fun _ os=>kStrI (Pw w b1 b2) f.A f.D f.ti f.t0 f.ed (epN os 0) ⟨adN os 3,tokV (vN os 3 0),tw,L,c⟩) [11,13,17,12],uS 30 (fAppend ⟨[]⟩) [7]] 31 (wk0K (Pw w b1 b2) f pb L c tw) plWk0
  ⟨fNextL_ok (by simpa using hk),fWPop0_ok,fam1_ok fun _ _=>kLenI_ok _ _ _ _ _ _ _ _ _,fAppend_ok hz,fWPush_ok hz,fam1_ok fun _ _=>kStrI_all _ _ _ _ _ _ _ _ _ _ _ _ _ _ hL,fAppend_ok hz,trivial⟩
end Mine
namespace Mine
structure WI where
 f:WF
 v:WS
 ps:List Pc
noncomputable def WI.pt (P:Params) (z:WI):Pt:=wkPt P z.f z.v z.ps
noncomputable def lcs:List Pc→List (Nat×Nat)
 | []=>[]
 | p::l=>(p.L,p.c)::lcs l
noncomputable def tK (ps:List (Nat×Nat)) (w:Nat×Nat):List (Nat×Nat):=ps.filter fun q=>Nat.blt w.1 q.1
noncomputable def tP (ps:List (Nat×Nat)) (w:Nat×Nat):List (Nat×Nat):=tK ps w++[w]
noncomputable def tH (ps:List (Nat×Nat)) (w:Nat×Nat):List (Nat×Nat):=(ps.filter fun q=>Nat.ble q.1 w.1).reverse
noncomputable def lnP:List (Nat×Nat)→Nat
 | []=>0
 | q::l=>q.1+lnP l
noncomputable def sgP:List (Nat×Nat)→List Nat
 | []=>[]
 | q::l=>rep q.1 q.2++sgP l
noncomputable def txP (ps:List (Nat×Nat)):Str:=⟨⟨sgP ps⟩⟩
noncomputable def wdP (q:Nat×Nat):Str:=wd q.1 q.2
noncomputable def nlV (its:List Value) (ns:List Int) (f:Nat→Tok):List Value:=match ns with
 | []=>its
 | n::ns=>nlV (its.concat (.int n (f 0))) ns fun j=>f (j+1)
noncomputable def consT (t:Tok) (f:Nat→Tok):Nat→Tok
 | 0=>t
 | j+1=>f j
theorem glV_append:∀ (a b:List Str) (its:List Value) (f g:Nat→Tok),∃ h,glV (glV its a f) b g=glV its (a++b) h
 | [],b,its,f,g=>⟨g,rfl⟩
 | x::a,b,its,f,g=>by
  obtain ⟨h,e⟩:=glV_append a b (its.concat (.str x (f 0))) (fun j=>f (j+1)) g
  exact ⟨consT (f 0) h,e⟩
theorem nlV_append:∀ (a b:List Int) (its:List Value) (f g:Nat→Tok),∃ h,nlV (nlV its a f) b g=nlV its (a++b) h
 | [],b,its,f,g=>⟨g,rfl⟩
 | x::a,b,its,f,g=>by
  obtain ⟨h,e⟩:=nlV_append a b (its.concat (.int x (f 0))) (fun j=>f (j+1)) g
  exact ⟨consT (f 0) h,e⟩
theorem glV_length:∀ (a:List Str) (its:List Value) (f:Nat→Tok),(glV its a f).length=its.length+a.length
 | [],_,_=>rfl
 | x::a,its,f=>by rw [glV,glV_length a]; simp; omega
theorem nlV_length:∀ (a:List Int) (its:List Value) (f:Nat→Tok),(nlV its a f).length=its.length+a.length
 | [],_,_=>rfl
 | x::a,its,f=>by rw [nlV,nlV_length a]; simp; omega
noncomputable def wP (ps:List (Nat×Nat)):List (Nat×Nat)→List (Nat×Nat)
 | []=>ps
 | w::ws=>wP (tP ps w) ws
noncomputable def wLk (ps:List (Nat×Nat)):List (Nat×Nat)→List Str
 | []=>[]
 | w::ws=>txP (tP ps w)::wLk (tP ps w) ws
noncomputable def wLw (ps:List (Nat×Nat)):List (Nat×Nat)→List Int
 | []=>[]
 | w::ws=>(lnP (tK ps w):Nat)::wLw (tP ps w) ws
noncomputable def wH (ps:List (Nat×Nat)):List (Nat×Nat)→List Str
 | []=>[]
 | w::ws=>(tH ps w).map wdP++wH (tP ps w) ws
structure Trail (ws:List (Nat×Nat)) (z z':WI):Prop where
 f:z'.f=z.f
 k:z'.v.k=z.v.k+(ws.length:Nat)
 ps:lcs z'.ps=wP (lcs z.ps) ws
 lk:∃ f,z'.v.lk=glV z.v.lk (wLk (lcs z.ps) ws) f
 lw:∃ f,z'.v.lw=nlV z.v.lw (wLw (lcs z.ps) ws) f
 pb:∃ f,z'.v.pb=glV z.v.pb (wH (lcs z.ps) ws) f
theorem Trail.cons {w:Nat×Nat} {ws:List (Nat×Nat)} {z z' z'':WI} (a:Trail [w] z z') (b:Trail ws z' z''):Trail (w::ws) z z'':=by
 have hp:lcs z'.ps=tP (lcs z.ps) w:=a.ps
 refine ⟨b.f.trans a.f,?_,?_,?_,?_,?_⟩
 ·rw [b.k,a.k]; simp; omega
 ·rw [b.ps,hp]; rfl
 ·obtain ⟨f,e⟩:=a.lk
  obtain ⟨g,e'⟩:=b.lk
  rw [e',e,hp]
  exact glV_append _ _ _ _ _
 ·obtain ⟨f,e⟩:=a.lw
  obtain ⟨g,e'⟩:=b.lw
  rw [e',e,hp]
  exact nlV_append _ _ _ _ _
 ·obtain ⟨f,e⟩:=a.pb
  obtain ⟨g,e'⟩:=b.pb
  rw [e',e,hp]
  have:wH (lcs z.ps) (w::ws)=wH (lcs z.ps) [w]++wH (tP (lcs z.ps) w) ws:=by simp [wH]
  rw [this]
  exact glV_append _ _ _ _ _
noncomputable def came (z z':WI):List Addr:=(z'.ps.map (·.a)).filter fun a=>!(z.ps.map (·.a)).contains a
noncomputable def valid (l:List (Nat×Nat)):Prop:=l.map (·.1)∈([[1],[2],[3],[2,1],[3,1],[3,2],[3,2,1]]:List (List Nat))
theorem Way.refl {M:Model} {kt:Addr→Option Obj} {x:Nat} {ι:Type} {A:Pt} {B:ι→Pt} {nw:ι→List Addr} (i:ι) (h:B i=A) (n:nw i=[]):Way M kt x A B nw:=by
 intro Γ p s R hc hr hl hk hA fin
 refine fin i Γ p s (by rw [h]; exact hc) hr hl hk (by rw [h]; exact hA) ⟨fun b o e m=>⟨e,by rw [h]; exact m⟩,.refl _,rfl,rfl,Nat.le_refl _,fun a ha=>?_⟩
 rw [n] at ha; cases ha
end Mine
namespace Mine
noncomputable def wkV (v:WS) (os:List (Addr×Obj)) (px:List (Nat→Nat)) (vw vh vp:Value) (low:List Pc) (pb:List Value) (ps:List Pc):WS :=
 ⟨vw,vh,vp,epN os 0,v.k+1,v.lk.concat (.str ⟨⟨pcStr ps⟩⟩ (pxN px 1 0)),v.lw.concat (.int (pcLen low:Nat) (pxN px 4 0)),epN os 3,epN os 4,epN os 5,pb,epN os 19⟩
noncomputable def ptP:List (Nat×Nat)→Str
 | []=>st0
 | q::l=>match l with
  | []=>wdP q
  | _::_=>ptP l
structure Ended (w:Nat×Nat) (ps:List (Nat×Nat)) (z:WI):Prop where
 vw:∃ t,z.v.vw=.str (wdP w) t
 vh:∃ t,z.v.vh=.str st0 t
 vp:∃ t,z.v.vp=.str (ptP (tK ps w)) t
theorem slb {n:Nat} (h:n≤100):n≤sizeLine:=by rw [sizeLine_eq]; omega
theorem slp {v:WS} (h:v.pb.length≤100):∀ n,n<3→∀ l:List Value,l.length≤v.pb.length+n→l.length≤sizeLine:=fun n hn l hl=>by rw [sizeLine_eq]; omega
theorem wkT1_1 (w:World) (b1 b2:Bool) (f:WF) (v:WS) (a0:Addr) (z0 t0:Tok) (c0:Nat) (cw:Nat) (tw:Tok) (hk:f.its[v.k.toNat]?=some (.str (wd 1 cw) tw)) (hpb:v.pb.length≤100) (hlk:v.lk.length≤100) (hlw:v.lw.length≤100) :
  Way (Mo w b1 b2) (Kt w b1 b2) 126 (WI.pt (Pw w b1 b2) (⟨f,v,[⟨a0,z0,t0,1,c0⟩]⟩:WI)) (fun k:{z':WI // Trail [(1,cw)] (⟨f,v,[⟨a0,z0,t0,1,c0⟩]⟩:WI) z'∧Ended (1,cw) (lcs [⟨a0,z0,t0,1,c0⟩]) z'}=>k.1.pt (Pw w b1 b2)) (fun k=>came (⟨f,v,[⟨a0,z0,t0,1,c0⟩]⟩:WI) k.1):=by
 refine (wk11_ok w b1 b2 f v a0 z0 t0 0 c0 0 cw tw 1 rfl (by decide) 1 rfl (by decide) (by decide) hk (fun ep _=>kLenB0_ok w b1 b2 _ _ _ _ _ ep _) (fun ep _ b z=>kStr1_ok w b1 b2 _ _ _ _ _ ep _  b z tw cw) (slp hpb) (slb hlk) (slb hlw)).mono fun z=>⟨⟨⟨f,wkV v z.2.1 z.2.2 (.str (wd 1 cw) tw) (.str st0 (pxN z.2.2 5 1)) (.str st0 (pxN z.2.2 5 2)) [] ((v.pb).concat (.str (wd 1 c0) t0)) [⟨adN z.2.1 20,tokV (vN z.2.1 20 0),tw,1,cw⟩],[⟨adN z.2.1 20,tokV (vN z.2.1 20 0),tw,1,cw⟩]⟩,⟨rfl,rfl,rfl,⟨fun _=>pxN z.2.2 1 0,rfl⟩,⟨fun _=>pxN z.2.2 4 0,rfl⟩,⟨fun j=>match j with | 0=>t0 | _=>0,rfl⟩⟩,⟨_,rfl⟩,⟨_,rfl⟩,⟨_,rfl⟩⟩,rfl,fun a ha=>?_⟩
 obtain ⟨m,n⟩:=List.mem_filter.mp ha
 show a∈[adN z.2.1 20]
 have m:a∈[adN z.2.1 20]:=m
 simp only [List.mem_cons,List.not_mem_nil,or_false] at m
 subst m
 exact List.Mem.head _
theorem wkT1_2 (w:World) (b1 b2:Bool) (f:WF) (v:WS) (a0:Addr) (z0 t0:Tok) (c0:Nat) (cw:Nat) (tw:Tok) (hk:f.its[v.k.toNat]?=some (.str (wd 2 cw) tw)) (hpb:v.pb.length≤100) (hlk:v.lk.length≤100) (hlw:v.lw.length≤100) :
  Way (Mo w b1 b2) (Kt w b1 b2) 126 (WI.pt (Pw w b1 b2) (⟨f,v,[⟨a0,z0,t0,1,c0⟩]⟩:WI)) (fun k:{z':WI // Trail [(2,cw)] (⟨f,v,[⟨a0,z0,t0,1,c0⟩]⟩:WI) z'∧Ended (2,cw) (lcs [⟨a0,z0,t0,1,c0⟩]) z'}=>k.1.pt (Pw w b1 b2)) (fun k=>came (⟨f,v,[⟨a0,z0,t0,1,c0⟩]⟩:WI) k.1):=by
 refine (wk11_ok w b1 b2 f v a0 z0 t0 0 c0 1 cw tw 2 rfl (by decide) 1 rfl (by decide) (by decide) hk (fun ep _=>kLenB0_ok w b1 b2 _ _ _ _ _ ep _) (fun ep _ b z=>kStr2_ok w b1 b2 _ _ _ _ _ ep _  b z tw cw) (slp hpb) (slb hlk) (slb hlw)).mono fun z=>⟨⟨⟨f,wkV v z.2.1 z.2.2 (.str (wd 2 cw) tw) (.str st0 (pxN z.2.2 5 1)) (.str st0 (pxN z.2.2 5 2)) [] ((v.pb).concat (.str (wd 1 c0) t0)) [⟨adN z.2.1 20,tokV (vN z.2.1 20 0),tw,2,cw⟩],[⟨adN z.2.1 20,tokV (vN z.2.1 20 0),tw,2,cw⟩]⟩,⟨rfl,rfl,rfl,⟨fun _=>pxN z.2.2 1 0,rfl⟩,⟨fun _=>pxN z.2.2 4 0,rfl⟩,⟨fun j=>match j with | 0=>t0 | _=>0,rfl⟩⟩,⟨_,rfl⟩,⟨_,rfl⟩,⟨_,rfl⟩⟩,rfl,fun a ha=>?_⟩
 obtain ⟨m,n⟩:=List.mem_filter.mp ha
 show a∈[adN z.2.1 20]
 have m:a∈[adN z.2.1 20]:=m
 simp only [List.mem_cons,List.not_mem_nil,or_false] at m
 subst m
 exact List.Mem.head _
theorem wkT1_3 (w:World) (b1 b2:Bool) (f:WF) (v:WS) (a0:Addr) (z0 t0:Tok) (c0:Nat) (cw:Nat) (tw:Tok) (hk:f.its[v.k.toNat]?=some (.str (wd 3 cw) tw)) (hpb:v.pb.length≤100) (hlk:v.lk.length≤100) (hlw:v.lw.length≤100) :
  Way (Mo w b1 b2) (Kt w b1 b2) 126 (WI.pt (Pw w b1 b2) (⟨f,v,[⟨a0,z0,t0,1,c0⟩]⟩:WI)) (fun k:{z':WI // Trail [(3,cw)] (⟨f,v,[⟨a0,z0,t0,1,c0⟩]⟩:WI) z'∧Ended (3,cw) (lcs [⟨a0,z0,t0,1,c0⟩]) z'}=>k.1.pt (Pw w b1 b2)) (fun k=>came (⟨f,v,[⟨a0,z0,t0,1,c0⟩]⟩:WI) k.1):=by
 refine (wk11_ok w b1 b2 f v a0 z0 t0 0 c0 2 cw tw 3 rfl (by decide) 1 rfl (by decide) (by decide) hk (fun ep _=>kLenB0_ok w b1 b2 _ _ _ _ _ ep _) (fun ep _ b z=>kStr3_ok w b1 b2 _ _ _ _ _ ep _  b z tw cw) (slp hpb) (slb hlk) (slb hlw)).mono fun z=>⟨⟨⟨f,wkV v z.2.1 z.2.2 (.str (wd 3 cw) tw) (.str st0 (pxN z.2.2 5 1)) (.str st0 (pxN z.2.2 5 2)) [] ((v.pb).concat (.str (wd 1 c0) t0)) [⟨adN z.2.1 20,tokV (vN z.2.1 20 0),tw,3,cw⟩],[⟨adN z.2.1 20,tokV (vN z.2.1 20 0),tw,3,cw⟩]⟩,⟨rfl,rfl,rfl,⟨fun _=>pxN z.2.2 1 0,rfl⟩,⟨fun _=>pxN z.2.2 4 0,rfl⟩,⟨fun j=>match j with | 0=>t0 | _=>0,rfl⟩⟩,⟨_,rfl⟩,⟨_,rfl⟩,⟨_,rfl⟩⟩,rfl,fun a ha=>?_⟩
 obtain ⟨m,n⟩:=List.mem_filter.mp ha
 show a∈[adN z.2.1 20]
 have m:a∈[adN z.2.1 20]:=m
 simp only [List.mem_cons,List.not_mem_nil,or_false] at m
 subst m
 exact List.Mem.head _
theorem wkT2_1 (w:World) (b1 b2:Bool) (f:WF) (v:WS) (a0:Addr) (z0 t0:Tok) (c0:Nat) (cw:Nat) (tw:Tok) (hk:f.its[v.k.toNat]?=some (.str (wd 1 cw) tw)) (hpb:v.pb.length≤100) (hlk:v.lk.length≤100) (hlw:v.lw.length≤100) :
  Way (Mo w b1 b2) (Kt w b1 b2) 126 (WI.pt (Pw w b1 b2) (⟨f,v,[⟨a0,z0,t0,2,c0⟩]⟩:WI)) (fun k:{z':WI // Trail [(1,cw)] (⟨f,v,[⟨a0,z0,t0,2,c0⟩]⟩:WI) z'∧Ended (1,cw) (lcs [⟨a0,z0,t0,2,c0⟩]) z'}=>k.1.pt (Pw w b1 b2)) (fun k=>came (⟨f,v,[⟨a0,z0,t0,2,c0⟩]⟩:WI) k.1):=by
 refine (wk10_ok w b1 b2 f v a0 z0 t0 1 c0 0 cw tw 1 rfl (by decide) 2 rfl (by decide) (by decide) hk (fun ep a=>kLenB2_ok w b1 b2 _ _ _ _ _ ep _ a z0 t0 c0) (fun ep a b z=>kStr21_ok w b1 b2 _ _ _ _ _ ep _ a z0 t0 c0 b z tw cw) (slp hpb) (slb hlk) (slb hlw)).mono fun z=>⟨⟨⟨f,wkV v z.2.1 z.2.2 (.str (wd 1 cw) tw) (.str st0 z0) (.str (wd 2 c0) t0) [⟨adN z.2.1 20,z0,t0,2,c0⟩] (v.pb) [⟨adN z.2.1 20,z0,t0,2,c0⟩,⟨adN z.2.1 21,tokV (vN z.2.1 21 0),tw,1,cw⟩],[⟨adN z.2.1 20,z0,t0,2,c0⟩,⟨adN z.2.1 21,tokV (vN z.2.1 21 0),tw,1,cw⟩]⟩,⟨rfl,rfl,rfl,⟨fun _=>pxN z.2.2 1 0,rfl⟩,⟨fun _=>pxN z.2.2 4 0,rfl⟩,⟨fun _=>0,rfl⟩⟩,⟨_,rfl⟩,⟨_,rfl⟩,⟨_,rfl⟩⟩,rfl,fun a ha=>?_⟩
 obtain ⟨m,n⟩:=List.mem_filter.mp ha
 show a∈[adN z.2.1 20,adN z.2.1 21]
 have m:a∈[adN z.2.1 20,adN z.2.1 21]:=m
 simp only [List.mem_cons,List.not_mem_nil,or_false] at m
 rcases m with rfl | rfl
 ·exact List.Mem.head _
 ·exact List.Mem.tail _ (List.Mem.head _)
theorem wkT2_2 (w:World) (b1 b2:Bool) (f:WF) (v:WS) (a0:Addr) (z0 t0:Tok) (c0:Nat) (cw:Nat) (tw:Tok) (hk:f.its[v.k.toNat]?=some (.str (wd 2 cw) tw)) (hpb:v.pb.length≤100) (hlk:v.lk.length≤100) (hlw:v.lw.length≤100) :
  Way (Mo w b1 b2) (Kt w b1 b2) 126 (WI.pt (Pw w b1 b2) (⟨f,v,[⟨a0,z0,t0,2,c0⟩]⟩:WI)) (fun k:{z':WI // Trail [(2,cw)] (⟨f,v,[⟨a0,z0,t0,2,c0⟩]⟩:WI) z'∧Ended (2,cw) (lcs [⟨a0,z0,t0,2,c0⟩]) z'}=>k.1.pt (Pw w b1 b2)) (fun k=>came (⟨f,v,[⟨a0,z0,t0,2,c0⟩]⟩:WI) k.1):=by
 refine (wk11_ok w b1 b2 f v a0 z0 t0 1 c0 1 cw tw 2 rfl (by decide) 2 rfl (by decide) (by decide) hk (fun ep _=>kLenB0_ok w b1 b2 _ _ _ _ _ ep _) (fun ep _ b z=>kStr2_ok w b1 b2 _ _ _ _ _ ep _  b z tw cw) (slp hpb) (slb hlk) (slb hlw)).mono fun z=>⟨⟨⟨f,wkV v z.2.1 z.2.2 (.str (wd 2 cw) tw) (.str st0 (pxN z.2.2 5 1)) (.str st0 (pxN z.2.2 5 2)) [] ((v.pb).concat (.str (wd 2 c0) t0)) [⟨adN z.2.1 20,tokV (vN z.2.1 20 0),tw,2,cw⟩],[⟨adN z.2.1 20,tokV (vN z.2.1 20 0),tw,2,cw⟩]⟩,⟨rfl,rfl,rfl,⟨fun _=>pxN z.2.2 1 0,rfl⟩,⟨fun _=>pxN z.2.2 4 0,rfl⟩,⟨fun j=>match j with | 0=>t0 | _=>0,rfl⟩⟩,⟨_,rfl⟩,⟨_,rfl⟩,⟨_,rfl⟩⟩,rfl,fun a ha=>?_⟩
 obtain ⟨m,n⟩:=List.mem_filter.mp ha
 show a∈[adN z.2.1 20]
 have m:a∈[adN z.2.1 20]:=m
 simp only [List.mem_cons,List.not_mem_nil,or_false] at m
 subst m
 exact List.Mem.head _
theorem wkT2_3 (w:World) (b1 b2:Bool) (f:WF) (v:WS) (a0:Addr) (z0 t0:Tok) (c0:Nat) (cw:Nat) (tw:Tok) (hk:f.its[v.k.toNat]?=some (.str (wd 3 cw) tw)) (hpb:v.pb.length≤100) (hlk:v.lk.length≤100) (hlw:v.lw.length≤100) :
  Way (Mo w b1 b2) (Kt w b1 b2) 126 (WI.pt (Pw w b1 b2) (⟨f,v,[⟨a0,z0,t0,2,c0⟩]⟩:WI)) (fun k:{z':WI // Trail [(3,cw)] (⟨f,v,[⟨a0,z0,t0,2,c0⟩]⟩:WI) z'∧Ended (3,cw) (lcs [⟨a0,z0,t0,2,c0⟩]) z'}=>k.1.pt (Pw w b1 b2)) (fun k=>came (⟨f,v,[⟨a0,z0,t0,2,c0⟩]⟩:WI) k.1):=by
 refine (wk11_ok w b1 b2 f v a0 z0 t0 1 c0 2 cw tw 3 rfl (by decide) 2 rfl (by decide) (by decide) hk (fun ep _=>kLenB0_ok w b1 b2 _ _ _ _ _ ep _) (fun ep _ b z=>kStr3_ok w b1 b2 _ _ _ _ _ ep _  b z tw cw) (slp hpb) (slb hlk) (slb hlw)).mono fun z=>⟨⟨⟨f,wkV v z.2.1 z.2.2 (.str (wd 3 cw) tw) (.str st0 (pxN z.2.2 5 1)) (.str st0 (pxN z.2.2 5 2)) [] ((v.pb).concat (.str (wd 2 c0) t0)) [⟨adN z.2.1 20,tokV (vN z.2.1 20 0),tw,3,cw⟩],[⟨adN z.2.1 20,tokV (vN z.2.1 20 0),tw,3,cw⟩]⟩,⟨rfl,rfl,rfl,⟨fun _=>pxN z.2.2 1 0,rfl⟩,⟨fun _=>pxN z.2.2 4 0,rfl⟩,⟨fun j=>match j with | 0=>t0 | _=>0,rfl⟩⟩,⟨_,rfl⟩,⟨_,rfl⟩,⟨_,rfl⟩⟩,rfl,fun a ha=>?_⟩
 obtain ⟨m,n⟩:=List.mem_filter.mp ha
 show a∈[adN z.2.1 20]
 have m:a∈[adN z.2.1 20]:=m
 simp only [List.mem_cons,List.not_mem_nil,or_false] at m
 subst m
 exact List.Mem.head _
theorem wkT3_1 (w:World) (b1 b2:Bool) (f:WF) (v:WS) (a0:Addr) (z0 t0:Tok) (c0:Nat) (cw:Nat) (tw:Tok) (hk:f.its[v.k.toNat]?=some (.str (wd 1 cw) tw)) (hpb:v.pb.length≤100) (hlk:v.lk.length≤100) (hlw:v.lw.length≤100) :
  Way (Mo w b1 b2) (Kt w b1 b2) 126 (WI.pt (Pw w b1 b2) (⟨f,v,[⟨a0,z0,t0,3,c0⟩]⟩:WI)) (fun k:{z':WI // Trail [(1,cw)] (⟨f,v,[⟨a0,z0,t0,3,c0⟩]⟩:WI) z'∧Ended (1,cw) (lcs [⟨a0,z0,t0,3,c0⟩]) z'}=>k.1.pt (Pw w b1 b2)) (fun k=>came (⟨f,v,[⟨a0,z0,t0,3,c0⟩]⟩:WI) k.1):=by
 refine (wk10_ok w b1 b2 f v a0 z0 t0 2 c0 0 cw tw 1 rfl (by decide) 3 rfl (by decide) (by decide) hk (fun ep a=>kLenB3_ok w b1 b2 _ _ _ _ _ ep _ a z0 t0 c0) (fun ep a b z=>kStr31_ok w b1 b2 _ _ _ _ _ ep _ a z0 t0 c0 b z tw cw) (slp hpb) (slb hlk) (slb hlw)).mono fun z=>⟨⟨⟨f,wkV v z.2.1 z.2.2 (.str (wd 1 cw) tw) (.str st0 z0) (.str (wd 3 c0) t0) [⟨adN z.2.1 20,z0,t0,3,c0⟩] (v.pb) [⟨adN z.2.1 20,z0,t0,3,c0⟩,⟨adN z.2.1 21,tokV (vN z.2.1 21 0),tw,1,cw⟩],[⟨adN z.2.1 20,z0,t0,3,c0⟩,⟨adN z.2.1 21,tokV (vN z.2.1 21 0),tw,1,cw⟩]⟩,⟨rfl,rfl,rfl,⟨fun _=>pxN z.2.2 1 0,rfl⟩,⟨fun _=>pxN z.2.2 4 0,rfl⟩,⟨fun _=>0,rfl⟩⟩,⟨_,rfl⟩,⟨_,rfl⟩,⟨_,rfl⟩⟩,rfl,fun a ha=>?_⟩
 obtain ⟨m,n⟩:=List.mem_filter.mp ha
 show a∈[adN z.2.1 20,adN z.2.1 21]
 have m:a∈[adN z.2.1 20,adN z.2.1 21]:=m
 simp only [List.mem_cons,List.not_mem_nil,or_false] at m
 rcases m with rfl | rfl
 ·exact List.Mem.head _
 ·exact List.Mem.tail _ (List.Mem.head _)
theorem wkT3_2 (w:World) (b1 b2:Bool) (f:WF) (v:WS) (a0:Addr) (z0 t0:Tok) (c0:Nat) (cw:Nat) (tw:Tok) (hk:f.its[v.k.toNat]?=some (.str (wd 2 cw) tw)) (hpb:v.pb.length≤100) (hlk:v.lk.length≤100) (hlw:v.lw.length≤100) :
  Way (Mo w b1 b2) (Kt w b1 b2) 126 (WI.pt (Pw w b1 b2) (⟨f,v,[⟨a0,z0,t0,3,c0⟩]⟩:WI)) (fun k:{z':WI // Trail [(2,cw)] (⟨f,v,[⟨a0,z0,t0,3,c0⟩]⟩:WI) z'∧Ended (2,cw) (lcs [⟨a0,z0,t0,3,c0⟩]) z'}=>k.1.pt (Pw w b1 b2)) (fun k=>came (⟨f,v,[⟨a0,z0,t0,3,c0⟩]⟩:WI) k.1):=by
 refine (wk10_ok w b1 b2 f v a0 z0 t0 2 c0 1 cw tw 2 rfl (by decide) 3 rfl (by decide) (by decide) hk (fun ep a=>kLenB3_ok w b1 b2 _ _ _ _ _ ep _ a z0 t0 c0) (fun ep a b z=>kStr32_ok w b1 b2 _ _ _ _ _ ep _ a z0 t0 c0 b z tw cw) (slp hpb) (slb hlk) (slb hlw)).mono fun z=>⟨⟨⟨f,wkV v z.2.1 z.2.2 (.str (wd 2 cw) tw) (.str st0 z0) (.str (wd 3 c0) t0) [⟨adN z.2.1 20,z0,t0,3,c0⟩] (v.pb) [⟨adN z.2.1 20,z0,t0,3,c0⟩,⟨adN z.2.1 21,tokV (vN z.2.1 21 0),tw,2,cw⟩],[⟨adN z.2.1 20,z0,t0,3,c0⟩,⟨adN z.2.1 21,tokV (vN z.2.1 21 0),tw,2,cw⟩]⟩,⟨rfl,rfl,rfl,⟨fun _=>pxN z.2.2 1 0,rfl⟩,⟨fun _=>pxN z.2.2 4 0,rfl⟩,⟨fun _=>0,rfl⟩⟩,⟨_,rfl⟩,⟨_,rfl⟩,⟨_,rfl⟩⟩,rfl,fun a ha=>?_⟩
 obtain ⟨m,n⟩:=List.mem_filter.mp ha
 show a∈[adN z.2.1 20,adN z.2.1 21]
 have m:a∈[adN z.2.1 20,adN z.2.1 21]:=m
 simp only [List.mem_cons,List.not_mem_nil,or_false] at m
 rcases m with rfl | rfl
 ·exact List.Mem.head _
 ·exact List.Mem.tail _ (List.Mem.head _)
theorem wkT3_3 (w:World) (b1 b2:Bool) (f:WF) (v:WS) (a0:Addr) (z0 t0:Tok) (c0:Nat) (cw:Nat) (tw:Tok) (hk:f.its[v.k.toNat]?=some (.str (wd 3 cw) tw)) (hpb:v.pb.length≤100) (hlk:v.lk.length≤100) (hlw:v.lw.length≤100) :
  Way (Mo w b1 b2) (Kt w b1 b2) 126 (WI.pt (Pw w b1 b2) (⟨f,v,[⟨a0,z0,t0,3,c0⟩]⟩:WI)) (fun k:{z':WI // Trail [(3,cw)] (⟨f,v,[⟨a0,z0,t0,3,c0⟩]⟩:WI) z'∧Ended (3,cw) (lcs [⟨a0,z0,t0,3,c0⟩]) z'}=>k.1.pt (Pw w b1 b2)) (fun k=>came (⟨f,v,[⟨a0,z0,t0,3,c0⟩]⟩:WI) k.1):=by
 refine (wk11_ok w b1 b2 f v a0 z0 t0 2 c0 2 cw tw 3 rfl (by decide) 3 rfl (by decide) (by decide) hk (fun ep _=>kLenB0_ok w b1 b2 _ _ _ _ _ ep _) (fun ep _ b z=>kStr3_ok w b1 b2 _ _ _ _ _ ep _  b z tw cw) (slp hpb) (slb hlk) (slb hlw)).mono fun z=>⟨⟨⟨f,wkV v z.2.1 z.2.2 (.str (wd 3 cw) tw) (.str st0 (pxN z.2.2 5 1)) (.str st0 (pxN z.2.2 5 2)) [] ((v.pb).concat (.str (wd 3 c0) t0)) [⟨adN z.2.1 20,tokV (vN z.2.1 20 0),tw,3,cw⟩],[⟨adN z.2.1 20,tokV (vN z.2.1 20 0),tw,3,cw⟩]⟩,⟨rfl,rfl,rfl,⟨fun _=>pxN z.2.2 1 0,rfl⟩,⟨fun _=>pxN z.2.2 4 0,rfl⟩,⟨fun j=>match j with | 0=>t0 | _=>0,rfl⟩⟩,⟨_,rfl⟩,⟨_,rfl⟩,⟨_,rfl⟩⟩,rfl,fun a ha=>?_⟩
 obtain ⟨m,n⟩:=List.mem_filter.mp ha
 show a∈[adN z.2.1 20]
 have m:a∈[adN z.2.1 20]:=m
 simp only [List.mem_cons,List.not_mem_nil,or_false] at m
 subst m
 exact List.Mem.head _
theorem wkT21_1 (w:World) (b1 b2:Bool) (f:WF) (v:WS) (a0:Addr) (z0 t0:Tok) (c0:Nat) (a1:Addr) (z1 t1:Tok) (c1:Nat) (cw:Nat) (tw:Tok) (hk:f.its[v.k.toNat]?=some (.str (wd 1 cw) tw)) (hpb:v.pb.length≤100) (hlk:v.lk.length≤100) (hlw:v.lw.length≤100) :
  Way (Mo w b1 b2) (Kt w b1 b2) 126 (WI.pt (Pw w b1 b2) (⟨f,v,[⟨a0,z0,t0,2,c0⟩,⟨a1,z1,t1,1,c1⟩]⟩:WI)) (fun k:{z':WI // Trail [(1,cw)] (⟨f,v,[⟨a0,z0,t0,2,c0⟩,⟨a1,z1,t1,1,c1⟩]⟩:WI) z'∧Ended (1,cw) (lcs [⟨a0,z0,t0,2,c0⟩,⟨a1,z1,t1,1,c1⟩]) z'}=>k.1.pt (Pw w b1 b2)) (fun k=>came (⟨f,v,[⟨a0,z0,t0,2,c0⟩,⟨a1,z1,t1,1,c1⟩]⟩:WI) k.1):=by
 refine (wk21_ok w b1 b2 f v a0 z0 t0 1 c0 a1 z1 t1 0 c1 0 cw tw 1 rfl (by decide) 2 rfl (by decide) (by decide) 1 rfl (by decide) (by decide) hk (fun ep a=>kLenB2_ok w b1 b2 _ _ _ _ _ ep _ a z0 t0 c0) (fun ep a b z=>kStr21_ok w b1 b2 _ _ _ _ _ ep _ a z0 t0 c0 b z tw cw) (slp hpb) (slb hlk) (slb hlw)).mono fun z=>⟨⟨⟨f,wkV v z.2.1 z.2.2 (.str (wd 1 cw) tw) (.str st0 z0) (.str (wd 2 c0) t0) [⟨adN z.2.1 20,z0,t0,2,c0⟩] ((v.pb).concat (.str (wd 1 c1) t1)) [⟨adN z.2.1 20,z0,t0,2,c0⟩,⟨adN z.2.1 21,tokV (vN z.2.1 21 0),tw,1,cw⟩],[⟨adN z.2.1 20,z0,t0,2,c0⟩,⟨adN z.2.1 21,tokV (vN z.2.1 21 0),tw,1,cw⟩]⟩,⟨rfl,rfl,rfl,⟨fun _=>pxN z.2.2 1 0,rfl⟩,⟨fun _=>pxN z.2.2 4 0,rfl⟩,⟨fun j=>match j with | 0=>t1 | _=>0,rfl⟩⟩,⟨_,rfl⟩,⟨_,rfl⟩,⟨_,rfl⟩⟩,rfl,fun a ha=>?_⟩
 obtain ⟨m,n⟩:=List.mem_filter.mp ha
 show a∈[adN z.2.1 20,adN z.2.1 21]
 have m:a∈[adN z.2.1 20,adN z.2.1 21]:=m
 simp only [List.mem_cons,List.not_mem_nil,or_false] at m
 rcases m with rfl | rfl
 ·exact List.Mem.head _
 ·exact List.Mem.tail _ (List.Mem.head _)
theorem wkT21_2 (w:World) (b1 b2:Bool) (f:WF) (v:WS) (a0:Addr) (z0 t0:Tok) (c0:Nat) (a1:Addr) (z1 t1:Tok) (c1:Nat) (cw:Nat) (tw:Tok) (hk:f.its[v.k.toNat]?=some (.str (wd 2 cw) tw)) (hpb:v.pb.length≤100) (hlk:v.lk.length≤100) (hlw:v.lw.length≤100) :
  Way (Mo w b1 b2) (Kt w b1 b2) 126 (WI.pt (Pw w b1 b2) (⟨f,v,[⟨a0,z0,t0,2,c0⟩,⟨a1,z1,t1,1,c1⟩]⟩:WI)) (fun k:{z':WI // Trail [(2,cw)] (⟨f,v,[⟨a0,z0,t0,2,c0⟩,⟨a1,z1,t1,1,c1⟩]⟩:WI) z'∧Ended (2,cw) (lcs [⟨a0,z0,t0,2,c0⟩,⟨a1,z1,t1,1,c1⟩]) z'}=>k.1.pt (Pw w b1 b2)) (fun k=>came (⟨f,v,[⟨a0,z0,t0,2,c0⟩,⟨a1,z1,t1,1,c1⟩]⟩:WI) k.1):=by
 refine (wk22_ok w b1 b2 f v a0 z0 t0 1 c0 a1 z1 t1 0 c1 1 cw tw 2 rfl (by decide) 2 rfl (by decide) (by decide) 1 rfl (by decide) (by decide) hk (fun ep _=>kLenB0_ok w b1 b2 _ _ _ _ _ ep _) (fun ep _ b z=>kStr2_ok w b1 b2 _ _ _ _ _ ep _  b z tw cw) (slp hpb) (slb hlk) (slb hlw)).mono fun z=>⟨⟨⟨f,wkV v z.2.1 z.2.2 (.str (wd 2 cw) tw) (.str st0 (pxN z.2.2 5 1)) (.str st0 (pxN z.2.2 5 2)) [] (((v.pb).concat (.str (wd 1 c1) t1)).concat (.str (wd 2 c0) t0)) [⟨adN z.2.1 20,tokV (vN z.2.1 20 0),tw,2,cw⟩],[⟨adN z.2.1 20,tokV (vN z.2.1 20 0),tw,2,cw⟩]⟩,⟨rfl,rfl,rfl,⟨fun _=>pxN z.2.2 1 0,rfl⟩,⟨fun _=>pxN z.2.2 4 0,rfl⟩,⟨fun j=>match j with | 0=>t1 | 1=>t0 | _=>0,rfl⟩⟩,⟨_,rfl⟩,⟨_,rfl⟩,⟨_,rfl⟩⟩,rfl,fun a ha=>?_⟩
 obtain ⟨m,n⟩:=List.mem_filter.mp ha
 show a∈[adN z.2.1 20]
 have m:a∈[adN z.2.1 20]:=m
 simp only [List.mem_cons,List.not_mem_nil,or_false] at m
 subst m
 exact List.Mem.head _
theorem wkT21_3 (w:World) (b1 b2:Bool) (f:WF) (v:WS) (a0:Addr) (z0 t0:Tok) (c0:Nat) (a1:Addr) (z1 t1:Tok) (c1:Nat) (cw:Nat) (tw:Tok) (hk:f.its[v.k.toNat]?=some (.str (wd 3 cw) tw)) (hpb:v.pb.length≤100) (hlk:v.lk.length≤100) (hlw:v.lw.length≤100) :
  Way (Mo w b1 b2) (Kt w b1 b2) 126 (WI.pt (Pw w b1 b2) (⟨f,v,[⟨a0,z0,t0,2,c0⟩,⟨a1,z1,t1,1,c1⟩]⟩:WI)) (fun k:{z':WI // Trail [(3,cw)] (⟨f,v,[⟨a0,z0,t0,2,c0⟩,⟨a1,z1,t1,1,c1⟩]⟩:WI) z'∧Ended (3,cw) (lcs [⟨a0,z0,t0,2,c0⟩,⟨a1,z1,t1,1,c1⟩]) z'}=>k.1.pt (Pw w b1 b2)) (fun k=>came (⟨f,v,[⟨a0,z0,t0,2,c0⟩,⟨a1,z1,t1,1,c1⟩]⟩:WI) k.1):=by
 refine (wk22_ok w b1 b2 f v a0 z0 t0 1 c0 a1 z1 t1 0 c1 2 cw tw 3 rfl (by decide) 2 rfl (by decide) (by decide) 1 rfl (by decide) (by decide) hk (fun ep _=>kLenB0_ok w b1 b2 _ _ _ _ _ ep _) (fun ep _ b z=>kStr3_ok w b1 b2 _ _ _ _ _ ep _  b z tw cw) (slp hpb) (slb hlk) (slb hlw)).mono fun z=>⟨⟨⟨f,wkV v z.2.1 z.2.2 (.str (wd 3 cw) tw) (.str st0 (pxN z.2.2 5 1)) (.str st0 (pxN z.2.2 5 2)) [] (((v.pb).concat (.str (wd 1 c1) t1)).concat (.str (wd 2 c0) t0)) [⟨adN z.2.1 20,tokV (vN z.2.1 20 0),tw,3,cw⟩],[⟨adN z.2.1 20,tokV (vN z.2.1 20 0),tw,3,cw⟩]⟩,⟨rfl,rfl,rfl,⟨fun _=>pxN z.2.2 1 0,rfl⟩,⟨fun _=>pxN z.2.2 4 0,rfl⟩,⟨fun j=>match j with | 0=>t1 | 1=>t0 | _=>0,rfl⟩⟩,⟨_,rfl⟩,⟨_,rfl⟩,⟨_,rfl⟩⟩,rfl,fun a ha=>?_⟩
 obtain ⟨m,n⟩:=List.mem_filter.mp ha
 show a∈[adN z.2.1 20]
 have m:a∈[adN z.2.1 20]:=m
 simp only [List.mem_cons,List.not_mem_nil,or_false] at m
 subst m
 exact List.Mem.head _
theorem wkT31_1 (w:World) (b1 b2:Bool) (f:WF) (v:WS) (a0:Addr) (z0 t0:Tok) (c0:Nat) (a1:Addr) (z1 t1:Tok) (c1:Nat) (cw:Nat) (tw:Tok) (hk:f.its[v.k.toNat]?=some (.str (wd 1 cw) tw)) (hpb:v.pb.length≤100) (hlk:v.lk.length≤100) (hlw:v.lw.length≤100) :
  Way (Mo w b1 b2) (Kt w b1 b2) 126 (WI.pt (Pw w b1 b2) (⟨f,v,[⟨a0,z0,t0,3,c0⟩,⟨a1,z1,t1,1,c1⟩]⟩:WI)) (fun k:{z':WI // Trail [(1,cw)] (⟨f,v,[⟨a0,z0,t0,3,c0⟩,⟨a1,z1,t1,1,c1⟩]⟩:WI) z'∧Ended (1,cw) (lcs [⟨a0,z0,t0,3,c0⟩,⟨a1,z1,t1,1,c1⟩]) z'}=>k.1.pt (Pw w b1 b2)) (fun k=>came (⟨f,v,[⟨a0,z0,t0,3,c0⟩,⟨a1,z1,t1,1,c1⟩]⟩:WI) k.1):=by
 refine (wk21_ok w b1 b2 f v a0 z0 t0 2 c0 a1 z1 t1 0 c1 0 cw tw 1 rfl (by decide) 3 rfl (by decide) (by decide) 1 rfl (by decide) (by decide) hk (fun ep a=>kLenB3_ok w b1 b2 _ _ _ _ _ ep _ a z0 t0 c0) (fun ep a b z=>kStr31_ok w b1 b2 _ _ _ _ _ ep _ a z0 t0 c0 b z tw cw) (slp hpb) (slb hlk) (slb hlw)).mono fun z=>⟨⟨⟨f,wkV v z.2.1 z.2.2 (.str (wd 1 cw) tw) (.str st0 z0) (.str (wd 3 c0) t0) [⟨adN z.2.1 20,z0,t0,3,c0⟩] ((v.pb).concat (.str (wd 1 c1) t1)) [⟨adN z.2.1 20,z0,t0,3,c0⟩,⟨adN z.2.1 21,tokV (vN z.2.1 21 0),tw,1,cw⟩],[⟨adN z.2.1 20,z0,t0,3,c0⟩,⟨adN z.2.1 21,tokV (vN z.2.1 21 0),tw,1,cw⟩]⟩,⟨rfl,rfl,rfl,⟨fun _=>pxN z.2.2 1 0,rfl⟩,⟨fun _=>pxN z.2.2 4 0,rfl⟩,⟨fun j=>match j with | 0=>t1 | _=>0,rfl⟩⟩,⟨_,rfl⟩,⟨_,rfl⟩,⟨_,rfl⟩⟩,rfl,fun a ha=>?_⟩
 obtain ⟨m,n⟩:=List.mem_filter.mp ha
 show a∈[adN z.2.1 20,adN z.2.1 21]
 have m:a∈[adN z.2.1 20,adN z.2.1 21]:=m
 simp only [List.mem_cons,List.not_mem_nil,or_false] at m
 rcases m with rfl | rfl
 ·exact List.Mem.head _
 ·exact List.Mem.tail _ (List.Mem.head _)
theorem wkT31_2 (w:World) (b1 b2:Bool) (f:WF) (v:WS) (a0:Addr) (z0 t0:Tok) (c0:Nat) (a1:Addr) (z1 t1:Tok) (c1:Nat) (cw:Nat) (tw:Tok) (hk:f.its[v.k.toNat]?=some (.str (wd 2 cw) tw)) (hpb:v.pb.length≤100) (hlk:v.lk.length≤100) (hlw:v.lw.length≤100) :
  Way (Mo w b1 b2) (Kt w b1 b2) 126 (WI.pt (Pw w b1 b2) (⟨f,v,[⟨a0,z0,t0,3,c0⟩,⟨a1,z1,t1,1,c1⟩]⟩:WI)) (fun k:{z':WI // Trail [(2,cw)] (⟨f,v,[⟨a0,z0,t0,3,c0⟩,⟨a1,z1,t1,1,c1⟩]⟩:WI) z'∧Ended (2,cw) (lcs [⟨a0,z0,t0,3,c0⟩,⟨a1,z1,t1,1,c1⟩]) z'}=>k.1.pt (Pw w b1 b2)) (fun k=>came (⟨f,v,[⟨a0,z0,t0,3,c0⟩,⟨a1,z1,t1,1,c1⟩]⟩:WI) k.1):=by
 refine (wk21_ok w b1 b2 f v a0 z0 t0 2 c0 a1 z1 t1 0 c1 1 cw tw 2 rfl (by decide) 3 rfl (by decide) (by decide) 1 rfl (by decide) (by decide) hk (fun ep a=>kLenB3_ok w b1 b2 _ _ _ _ _ ep _ a z0 t0 c0) (fun ep a b z=>kStr32_ok w b1 b2 _ _ _ _ _ ep _ a z0 t0 c0 b z tw cw) (slp hpb) (slb hlk) (slb hlw)).mono fun z=>⟨⟨⟨f,wkV v z.2.1 z.2.2 (.str (wd 2 cw) tw) (.str st0 z0) (.str (wd 3 c0) t0) [⟨adN z.2.1 20,z0,t0,3,c0⟩] ((v.pb).concat (.str (wd 1 c1) t1)) [⟨adN z.2.1 20,z0,t0,3,c0⟩,⟨adN z.2.1 21,tokV (vN z.2.1 21 0),tw,2,cw⟩],[⟨adN z.2.1 20,z0,t0,3,c0⟩,⟨adN z.2.1 21,tokV (vN z.2.1 21 0),tw,2,cw⟩]⟩,⟨rfl,rfl,rfl,⟨fun _=>pxN z.2.2 1 0,rfl⟩,⟨fun _=>pxN z.2.2 4 0,rfl⟩,⟨fun j=>match j with | 0=>t1 | _=>0,rfl⟩⟩,⟨_,rfl⟩,⟨_,rfl⟩,⟨_,rfl⟩⟩,rfl,fun a ha=>?_⟩
 obtain ⟨m,n⟩:=List.mem_filter.mp ha
 show a∈[adN z.2.1 20,adN z.2.1 21]
 have m:a∈[adN z.2.1 20,adN z.2.1 21]:=m
 simp only [List.mem_cons,List.not_mem_nil,or_false] at m
 rcases m with rfl | rfl
 ·exact List.Mem.head _
 ·exact List.Mem.tail _ (List.Mem.head _)
theorem wkT31_3 (w:World) (b1 b2:Bool) (f:WF) (v:WS) (a0:Addr) (z0 t0:Tok) (c0:Nat) (a1:Addr) (z1 t1:Tok) (c1:Nat) (cw:Nat) (tw:Tok) (hk:f.its[v.k.toNat]?=some (.str (wd 3 cw) tw)) (hpb:v.pb.length≤100) (hlk:v.lk.length≤100) (hlw:v.lw.length≤100) :
  Way (Mo w b1 b2) (Kt w b1 b2) 126 (WI.pt (Pw w b1 b2) (⟨f,v,[⟨a0,z0,t0,3,c0⟩,⟨a1,z1,t1,1,c1⟩]⟩:WI)) (fun k:{z':WI // Trail [(3,cw)] (⟨f,v,[⟨a0,z0,t0,3,c0⟩,⟨a1,z1,t1,1,c1⟩]⟩:WI) z'∧Ended (3,cw) (lcs [⟨a0,z0,t0,3,c0⟩,⟨a1,z1,t1,1,c1⟩]) z'}=>k.1.pt (Pw w b1 b2)) (fun k=>came (⟨f,v,[⟨a0,z0,t0,3,c0⟩,⟨a1,z1,t1,1,c1⟩]⟩:WI) k.1):=by
 refine (wk22_ok w b1 b2 f v a0 z0 t0 2 c0 a1 z1 t1 0 c1 2 cw tw 3 rfl (by decide) 3 rfl (by decide) (by decide) 1 rfl (by decide) (by decide) hk (fun ep _=>kLenB0_ok w b1 b2 _ _ _ _ _ ep _) (fun ep _ b z=>kStr3_ok w b1 b2 _ _ _ _ _ ep _  b z tw cw) (slp hpb) (slb hlk) (slb hlw)).mono fun z=>⟨⟨⟨f,wkV v z.2.1 z.2.2 (.str (wd 3 cw) tw) (.str st0 (pxN z.2.2 5 1)) (.str st0 (pxN z.2.2 5 2)) [] (((v.pb).concat (.str (wd 1 c1) t1)).concat (.str (wd 3 c0) t0)) [⟨adN z.2.1 20,tokV (vN z.2.1 20 0),tw,3,cw⟩],[⟨adN z.2.1 20,tokV (vN z.2.1 20 0),tw,3,cw⟩]⟩,⟨rfl,rfl,rfl,⟨fun _=>pxN z.2.2 1 0,rfl⟩,⟨fun _=>pxN z.2.2 4 0,rfl⟩,⟨fun j=>match j with | 0=>t1 | 1=>t0 | _=>0,rfl⟩⟩,⟨_,rfl⟩,⟨_,rfl⟩,⟨_,rfl⟩⟩,rfl,fun a ha=>?_⟩
 obtain ⟨m,n⟩:=List.mem_filter.mp ha
 show a∈[adN z.2.1 20]
 have m:a∈[adN z.2.1 20]:=m
 simp only [List.mem_cons,List.not_mem_nil,or_false] at m
 subst m
 exact List.Mem.head _
theorem wkT32_1 (w:World) (b1 b2:Bool) (f:WF) (v:WS) (a0:Addr) (z0 t0:Tok) (c0:Nat) (a1:Addr) (z1 t1:Tok) (c1:Nat) (cw:Nat) (tw:Tok) (hk:f.its[v.k.toNat]?=some (.str (wd 1 cw) tw)) (hpb:v.pb.length≤100) (hlk:v.lk.length≤100) (hlw:v.lw.length≤100) :
  Way (Mo w b1 b2) (Kt w b1 b2) 126 (WI.pt (Pw w b1 b2) (⟨f,v,[⟨a0,z0,t0,3,c0⟩,⟨a1,z1,t1,2,c1⟩]⟩:WI)) (fun k:{z':WI // Trail [(1,cw)] (⟨f,v,[⟨a0,z0,t0,3,c0⟩,⟨a1,z1,t1,2,c1⟩]⟩:WI) z'∧Ended (1,cw) (lcs [⟨a0,z0,t0,3,c0⟩,⟨a1,z1,t1,2,c1⟩]) z'}=>k.1.pt (Pw w b1 b2)) (fun k=>came (⟨f,v,[⟨a0,z0,t0,3,c0⟩,⟨a1,z1,t1,2,c1⟩]⟩:WI) k.1):=by
 refine (wk20_ok w b1 b2 f v a0 z0 t0 2 c0 a1 z1 t1 1 c1 0 cw tw 1 rfl (by decide) 2 rfl (by decide) (by decide) hk (fun ep a=>kLenB32_ok w b1 b2 _ _ _ _ _ ep _ a0 z0 t0 c0 a z1 t1 c1) (fun ep a b z=>kStr321_ok w b1 b2 _ _ _ _ _ ep _ a0 z0 t0 c0 a z1 t1 c1 b z tw cw) (slp hpb) (slb hlk) (slb hlw)).mono fun z=>⟨⟨⟨f,wkV v z.2.1 z.2.2 (.str (wd 1 cw) tw) (.str st0 z1) (.str (wd 2 c1) t1) [⟨a0,z0,t0,3,c0⟩,⟨adN z.2.1 21,z1,t1,2,c1⟩] (v.pb) [⟨a0,z0,t0,3,c0⟩,⟨adN z.2.1 21,z1,t1,2,c1⟩,⟨adN z.2.1 22,tokV (vN z.2.1 22 0),tw,1,cw⟩],[⟨a0,z0,t0,3,c0⟩,⟨adN z.2.1 21,z1,t1,2,c1⟩,⟨adN z.2.1 22,tokV (vN z.2.1 22 0),tw,1,cw⟩]⟩,⟨rfl,rfl,rfl,⟨fun _=>pxN z.2.2 1 0,rfl⟩,⟨fun _=>pxN z.2.2 4 0,rfl⟩,⟨fun _=>0,rfl⟩⟩,⟨_,rfl⟩,⟨_,rfl⟩,⟨_,rfl⟩⟩,rfl,fun a ha=>?_⟩
 obtain ⟨m,n⟩:=List.mem_filter.mp ha
 show a∈[adN z.2.1 21,adN z.2.1 22]
 have m:a∈[a0,adN z.2.1 21,adN z.2.1 22]:=m
 simp only [List.mem_cons,List.not_mem_nil,or_false] at m
 rcases m with rfl | rfl | rfl
 ·simp at n
 ·exact List.Mem.head _
 ·exact List.Mem.tail _ (List.Mem.head _)
theorem wkT32_2 (w:World) (b1 b2:Bool) (f:WF) (v:WS) (a0:Addr) (z0 t0:Tok) (c0:Nat) (a1:Addr) (z1 t1:Tok) (c1:Nat) (cw:Nat) (tw:Tok) (hk:f.its[v.k.toNat]?=some (.str (wd 2 cw) tw)) (hpb:v.pb.length≤100) (hlk:v.lk.length≤100) (hlw:v.lw.length≤100) :
  Way (Mo w b1 b2) (Kt w b1 b2) 126 (WI.pt (Pw w b1 b2) (⟨f,v,[⟨a0,z0,t0,3,c0⟩,⟨a1,z1,t1,2,c1⟩]⟩:WI)) (fun k:{z':WI // Trail [(2,cw)] (⟨f,v,[⟨a0,z0,t0,3,c0⟩,⟨a1,z1,t1,2,c1⟩]⟩:WI) z'∧Ended (2,cw) (lcs [⟨a0,z0,t0,3,c0⟩,⟨a1,z1,t1,2,c1⟩]) z'}=>k.1.pt (Pw w b1 b2)) (fun k=>came (⟨f,v,[⟨a0,z0,t0,3,c0⟩,⟨a1,z1,t1,2,c1⟩]⟩:WI) k.1):=by
 refine (wk21_ok w b1 b2 f v a0 z0 t0 2 c0 a1 z1 t1 1 c1 1 cw tw 2 rfl (by decide) 3 rfl (by decide) (by decide) 2 rfl (by decide) (by decide) hk (fun ep a=>kLenB3_ok w b1 b2 _ _ _ _ _ ep _ a z0 t0 c0) (fun ep a b z=>kStr32_ok w b1 b2 _ _ _ _ _ ep _ a z0 t0 c0 b z tw cw) (slp hpb) (slb hlk) (slb hlw)).mono fun z=>⟨⟨⟨f,wkV v z.2.1 z.2.2 (.str (wd 2 cw) tw) (.str st0 z0) (.str (wd 3 c0) t0) [⟨adN z.2.1 20,z0,t0,3,c0⟩] ((v.pb).concat (.str (wd 2 c1) t1)) [⟨adN z.2.1 20,z0,t0,3,c0⟩,⟨adN z.2.1 21,tokV (vN z.2.1 21 0),tw,2,cw⟩],[⟨adN z.2.1 20,z0,t0,3,c0⟩,⟨adN z.2.1 21,tokV (vN z.2.1 21 0),tw,2,cw⟩]⟩,⟨rfl,rfl,rfl,⟨fun _=>pxN z.2.2 1 0,rfl⟩,⟨fun _=>pxN z.2.2 4 0,rfl⟩,⟨fun j=>match j with | 0=>t1 | _=>0,rfl⟩⟩,⟨_,rfl⟩,⟨_,rfl⟩,⟨_,rfl⟩⟩,rfl,fun a ha=>?_⟩
 obtain ⟨m,n⟩:=List.mem_filter.mp ha
 show a∈[adN z.2.1 20,adN z.2.1 21]
 have m:a∈[adN z.2.1 20,adN z.2.1 21]:=m
 simp only [List.mem_cons,List.not_mem_nil,or_false] at m
 rcases m with rfl | rfl
 ·exact List.Mem.head _
 ·exact List.Mem.tail _ (List.Mem.head _)
theorem wkT32_3 (w:World) (b1 b2:Bool) (f:WF) (v:WS) (a0:Addr) (z0 t0:Tok) (c0:Nat) (a1:Addr) (z1 t1:Tok) (c1:Nat) (cw:Nat) (tw:Tok) (hk:f.its[v.k.toNat]?=some (.str (wd 3 cw) tw)) (hpb:v.pb.length≤100) (hlk:v.lk.length≤100) (hlw:v.lw.length≤100) :
  Way (Mo w b1 b2) (Kt w b1 b2) 126 (WI.pt (Pw w b1 b2) (⟨f,v,[⟨a0,z0,t0,3,c0⟩,⟨a1,z1,t1,2,c1⟩]⟩:WI)) (fun k:{z':WI // Trail [(3,cw)] (⟨f,v,[⟨a0,z0,t0,3,c0⟩,⟨a1,z1,t1,2,c1⟩]⟩:WI) z'∧Ended (3,cw) (lcs [⟨a0,z0,t0,3,c0⟩,⟨a1,z1,t1,2,c1⟩]) z'}=>k.1.pt (Pw w b1 b2)) (fun k=>came (⟨f,v,[⟨a0,z0,t0,3,c0⟩,⟨a1,z1,t1,2,c1⟩]⟩:WI) k.1):=by
 refine (wk22_ok w b1 b2 f v a0 z0 t0 2 c0 a1 z1 t1 1 c1 2 cw tw 3 rfl (by decide) 3 rfl (by decide) (by decide) 2 rfl (by decide) (by decide) hk (fun ep _=>kLenB0_ok w b1 b2 _ _ _ _ _ ep _) (fun ep _ b z=>kStr3_ok w b1 b2 _ _ _ _ _ ep _  b z tw cw) (slp hpb) (slb hlk) (slb hlw)).mono fun z=>⟨⟨⟨f,wkV v z.2.1 z.2.2 (.str (wd 3 cw) tw) (.str st0 (pxN z.2.2 5 1)) (.str st0 (pxN z.2.2 5 2)) [] (((v.pb).concat (.str (wd 2 c1) t1)).concat (.str (wd 3 c0) t0)) [⟨adN z.2.1 20,tokV (vN z.2.1 20 0),tw,3,cw⟩],[⟨adN z.2.1 20,tokV (vN z.2.1 20 0),tw,3,cw⟩]⟩,⟨rfl,rfl,rfl,⟨fun _=>pxN z.2.2 1 0,rfl⟩,⟨fun _=>pxN z.2.2 4 0,rfl⟩,⟨fun j=>match j with | 0=>t1 | 1=>t0 | _=>0,rfl⟩⟩,⟨_,rfl⟩,⟨_,rfl⟩,⟨_,rfl⟩⟩,rfl,fun a ha=>?_⟩
 obtain ⟨m,n⟩:=List.mem_filter.mp ha
 show a∈[adN z.2.1 20]
 have m:a∈[adN z.2.1 20]:=m
 simp only [List.mem_cons,List.not_mem_nil,or_false] at m
 subst m
 exact List.Mem.head _
theorem wkT321_1 (w:World) (b1 b2:Bool) (f:WF) (v:WS) (a0:Addr) (z0 t0:Tok) (c0:Nat) (a1:Addr) (z1 t1:Tok) (c1:Nat) (a2:Addr) (z2 t2:Tok) (c2:Nat) (cw:Nat) (tw:Tok) (hk:f.its[v.k.toNat]?=some (.str (wd 1 cw) tw)) (hpb:v.pb.length≤100) (hlk:v.lk.length≤100) (hlw:v.lw.length≤100) :
  Way (Mo w b1 b2) (Kt w b1 b2) 126 (WI.pt (Pw w b1 b2) (⟨f,v,[⟨a0,z0,t0,3,c0⟩,⟨a1,z1,t1,2,c1⟩,⟨a2,z2,t2,1,c2⟩]⟩:WI)) (fun k:{z':WI // Trail [(1,cw)] (⟨f,v,[⟨a0,z0,t0,3,c0⟩,⟨a1,z1,t1,2,c1⟩,⟨a2,z2,t2,1,c2⟩]⟩:WI) z'∧Ended (1,cw) (lcs [⟨a0,z0,t0,3,c0⟩,⟨a1,z1,t1,2,c1⟩,⟨a2,z2,t2,1,c2⟩]) z'}=>k.1.pt (Pw w b1 b2)) (fun k=>came (⟨f,v,[⟨a0,z0,t0,3,c0⟩,⟨a1,z1,t1,2,c1⟩,⟨a2,z2,t2,1,c2⟩]⟩:WI) k.1):=by
 refine (wk31_ok w b1 b2 f v a0 z0 t0 2 c0 a1 z1 t1 1 c1 a2 z2 t2 0 c2 0 cw tw 1 rfl (by decide) 2 rfl (by decide) (by decide) 1 rfl (by decide) (by decide) hk (fun ep a=>kLenB32_ok w b1 b2 _ _ _ _ _ ep _ a0 z0 t0 c0 a z1 t1 c1) (fun ep a b z=>kStr321_ok w b1 b2 _ _ _ _ _ ep _ a0 z0 t0 c0 a z1 t1 c1 b z tw cw) (slp hpb) (slb hlk) (slb hlw)).mono fun z=>⟨⟨⟨f,wkV v z.2.1 z.2.2 (.str (wd 1 cw) tw) (.str st0 z1) (.str (wd 2 c1) t1) [⟨a0,z0,t0,3,c0⟩,⟨adN z.2.1 21,z1,t1,2,c1⟩] ((v.pb).concat (.str (wd 1 c2) t2)) [⟨a0,z0,t0,3,c0⟩,⟨adN z.2.1 21,z1,t1,2,c1⟩,⟨adN z.2.1 22,tokV (vN z.2.1 22 0),tw,1,cw⟩],[⟨a0,z0,t0,3,c0⟩,⟨adN z.2.1 21,z1,t1,2,c1⟩,⟨adN z.2.1 22,tokV (vN z.2.1 22 0),tw,1,cw⟩]⟩,⟨rfl,rfl,rfl,⟨fun _=>pxN z.2.2 1 0,rfl⟩,⟨fun _=>pxN z.2.2 4 0,rfl⟩,⟨fun j=>match j with | 0=>t2 | _=>0,rfl⟩⟩,⟨_,rfl⟩,⟨_,rfl⟩,⟨_,rfl⟩⟩,rfl,fun a ha=>?_⟩
 obtain ⟨m,n⟩:=List.mem_filter.mp ha
 show a∈[adN z.2.1 21,adN z.2.1 22]
 have m:a∈[a0,adN z.2.1 21,adN z.2.1 22]:=m
 simp only [List.mem_cons,List.not_mem_nil,or_false] at m
 rcases m with rfl | rfl | rfl
 ·simp at n
 ·exact List.Mem.head _
 ·exact List.Mem.tail _ (List.Mem.head _)
theorem wkT321_2 (w:World) (b1 b2:Bool) (f:WF) (v:WS) (a0:Addr) (z0 t0:Tok) (c0:Nat) (a1:Addr) (z1 t1:Tok) (c1:Nat) (a2:Addr) (z2 t2:Tok) (c2:Nat) (cw:Nat) (tw:Tok) (hk:f.its[v.k.toNat]?=some (.str (wd 2 cw) tw)) (hpb:v.pb.length≤100) (hlk:v.lk.length≤100) (hlw:v.lw.length≤100) :
  Way (Mo w b1 b2) (Kt w b1 b2) 126 (WI.pt (Pw w b1 b2) (⟨f,v,[⟨a0,z0,t0,3,c0⟩,⟨a1,z1,t1,2,c1⟩,⟨a2,z2,t2,1,c2⟩]⟩:WI)) (fun k:{z':WI // Trail [(2,cw)] (⟨f,v,[⟨a0,z0,t0,3,c0⟩,⟨a1,z1,t1,2,c1⟩,⟨a2,z2,t2,1,c2⟩]⟩:WI) z'∧Ended (2,cw) (lcs [⟨a0,z0,t0,3,c0⟩,⟨a1,z1,t1,2,c1⟩,⟨a2,z2,t2,1,c2⟩]) z'}=>k.1.pt (Pw w b1 b2)) (fun k=>came (⟨f,v,[⟨a0,z0,t0,3,c0⟩,⟨a1,z1,t1,2,c1⟩,⟨a2,z2,t2,1,c2⟩]⟩:WI) k.1):=by
 refine (wk32_ok w b1 b2 f v a0 z0 t0 2 c0 a1 z1 t1 1 c1 a2 z2 t2 0 c2 1 cw tw 2 rfl (by decide) 3 rfl (by decide) (by decide) 2 rfl (by decide) (by decide) 1 rfl (by decide) (by decide) hk (fun ep a=>kLenB3_ok w b1 b2 _ _ _ _ _ ep _ a z0 t0 c0) (fun ep a b z=>kStr32_ok w b1 b2 _ _ _ _ _ ep _ a z0 t0 c0 b z tw cw) (slp hpb) (slb hlk) (slb hlw)).mono fun z=>⟨⟨⟨f,wkV v z.2.1 z.2.2 (.str (wd 2 cw) tw) (.str st0 z0) (.str (wd 3 c0) t0) [⟨adN z.2.1 20,z0,t0,3,c0⟩] (((v.pb).concat (.str (wd 1 c2) t2)).concat (.str (wd 2 c1) t1)) [⟨adN z.2.1 20,z0,t0,3,c0⟩,⟨adN z.2.1 21,tokV (vN z.2.1 21 0),tw,2,cw⟩],[⟨adN z.2.1 20,z0,t0,3,c0⟩,⟨adN z.2.1 21,tokV (vN z.2.1 21 0),tw,2,cw⟩]⟩,⟨rfl,rfl,rfl,⟨fun _=>pxN z.2.2 1 0,rfl⟩,⟨fun _=>pxN z.2.2 4 0,rfl⟩,⟨fun j=>match j with | 0=>t2 | 1=>t1 | _=>0,rfl⟩⟩,⟨_,rfl⟩,⟨_,rfl⟩,⟨_,rfl⟩⟩,rfl,fun a ha=>?_⟩
 obtain ⟨m,n⟩:=List.mem_filter.mp ha
 show a∈[adN z.2.1 20,adN z.2.1 21]
 have m:a∈[adN z.2.1 20,adN z.2.1 21]:=m
 simp only [List.mem_cons,List.not_mem_nil,or_false] at m
 rcases m with rfl | rfl
 ·exact List.Mem.head _
 ·exact List.Mem.tail _ (List.Mem.head _)
theorem wkT321_3 (w:World) (b1 b2:Bool) (f:WF) (v:WS) (a0:Addr) (z0 t0:Tok) (c0:Nat) (a1:Addr) (z1 t1:Tok) (c1:Nat) (a2:Addr) (z2 t2:Tok) (c2:Nat) (cw:Nat) (tw:Tok) (hk:f.its[v.k.toNat]?=some (.str (wd 3 cw) tw)) (hpb:v.pb.length≤100) (hlk:v.lk.length≤100) (hlw:v.lw.length≤100) :
  Way (Mo w b1 b2) (Kt w b1 b2) 126 (WI.pt (Pw w b1 b2) (⟨f,v,[⟨a0,z0,t0,3,c0⟩,⟨a1,z1,t1,2,c1⟩,⟨a2,z2,t2,1,c2⟩]⟩:WI)) (fun k:{z':WI // Trail [(3,cw)] (⟨f,v,[⟨a0,z0,t0,3,c0⟩,⟨a1,z1,t1,2,c1⟩,⟨a2,z2,t2,1,c2⟩]⟩:WI) z'∧Ended (3,cw) (lcs [⟨a0,z0,t0,3,c0⟩,⟨a1,z1,t1,2,c1⟩,⟨a2,z2,t2,1,c2⟩]) z'}=>k.1.pt (Pw w b1 b2)) (fun k=>came (⟨f,v,[⟨a0,z0,t0,3,c0⟩,⟨a1,z1,t1,2,c1⟩,⟨a2,z2,t2,1,c2⟩]⟩:WI) k.1):=by
 refine (wk33_ok w b1 b2 f v a0 z0 t0 2 c0 a1 z1 t1 1 c1 a2 z2 t2 0 c2 2 cw tw 3 rfl (by decide) 3 rfl (by decide) (by decide) 2 rfl (by decide) (by decide) 1 rfl (by decide) (by decide) hk (fun ep _=>kLenB0_ok w b1 b2 _ _ _ _ _ ep _) (fun ep _ b z=>kStr3_ok w b1 b2 _ _ _ _ _ ep _  b z tw cw) (slp hpb) (slb hlk) (slb hlw)).mono fun z=>⟨⟨⟨f,wkV v z.2.1 z.2.2 (.str (wd 3 cw) tw) (.str st0 (pxN z.2.2 5 1)) (.str st0 (pxN z.2.2 5 2)) [] ((((v.pb).concat (.str (wd 1 c2) t2)).concat (.str (wd 2 c1) t1)).concat (.str (wd 3 c0) t0)) [⟨adN z.2.1 20,tokV (vN z.2.1 20 0),tw,3,cw⟩],[⟨adN z.2.1 20,tokV (vN z.2.1 20 0),tw,3,cw⟩]⟩,⟨rfl,rfl,rfl,⟨fun _=>pxN z.2.2 1 0,rfl⟩,⟨fun _=>pxN z.2.2 4 0,rfl⟩,⟨fun j=>match j with | 0=>t2 | 1=>t1 | 2=>t0 | _=>0,rfl⟩⟩,⟨_,rfl⟩,⟨_,rfl⟩,⟨_,rfl⟩⟩,rfl,fun a ha=>?_⟩
 obtain ⟨m,n⟩:=List.mem_filter.mp ha
 show a∈[adN z.2.1 20]
 have m:a∈[adN z.2.1 20]:=m
 simp only [List.mem_cons,List.not_mem_nil,or_false] at m
 subst m
 exact List.Mem.head _
end Mine
namespace Mine
noncomputable def Con.framed (C:Con) (L:List (Addr×Obj)):Con:=⟨C.c,C.need++L,fun xs=>C.give xs++L.map (·.2),C.new,C.res⟩
theorem Con.Ok.framed {M:Model} {kt:Addr→Option Obj} {x:Nat} {C:Con} (h:C.Ok M kt x) (L:List (Addr×Obj)):(C.framed L).Ok M kt x:=by
 intro Γ p s R hc hr hl hk hn hkn hnd hR
 have hn:∀ q∈C.need++L,s.heap.get? q.1=some q.2:=hn
 have hkn:∀ q∈C.need++L,kt q.1=none:=hkn
 have hnd:((C.need++L).map (·.1)).Nodup:=hnd
 rw [List.map_append,List.nodup_append] at hnd
 refine h Γ p s R hc hr hl hk (fun q hq=>hn q (List.mem_append_left _ hq)) (fun q hq=>hkn q (List.mem_append_left _ hq)) hnd.1 fun xs s' T=>hR xs s' ⟨fun b o e m=>?_,?_,fun q hq=>?_,T.new,T.nd,T.gens,T.drawn,T.os,T.size⟩
 ·refine T.keep b o e fun m'=>m ?_
  show b∈(C.need++L).map (·.1)
  rw [List.map_append]; exact List.mem_append_left _ m'
 ·show (C.give xs++L.map (·.2)).length=(C.need++L).length
  rw [List.length_append,List.length_append,T.len,List.length_map]
 ·have hq:q∈((C.need++L).map (·.1)).zip (C.give xs++L.map (·.2)):=hq
  rw [List.map_append,List.zip_append (by rw [List.length_map,T.len])] at hq
  rcases List.mem_append.mp hq with m | m
  ·exact T.give q m
  ·have m:=mem_zip_map m
   refine T.keep q.1 q.2 (hn q (List.mem_append_right _ m)) fun m'=>?_
   exact hnd.2.2 _ m' _ (List.mem_map.mpr ⟨q,m,rfl⟩) rfl
noncomputable def wkFix (P:Params) (f:WF) (v:WS) (its:List Value):List (Addr×Obj) :=
 (f.L,wkFr P f v)::(f.I,lisIt (.ref f.W) v.k 0)::(f.W,lsO f.its f.esw)::(f.LK,lsO v.lk v.el)::(f.LW,lsO v.lw v.ew)::(pileNeed P f.A f.D f.ti f.t0 f.ed its v.ep ++
  (77,tabO 72 19 f.gl.g)::(f.gl.g,genO qLen f.gl.t0 f.gl.t1 f.gl.rest)::(84,tabO 75 32 f.gs.g)::(f.gs.g,genO qStr f.gs.t0 f.gs.t1 f.gs.rest)::lexNeed P f.l f.ss f.ess f.n f.tn v.pb v.epb)
theorem wkFix_is (P:Params) (f:WF) (v:WS) (ps:List Pc):wkNeed P f v ps=wkFix P f v (pcV ps)++pcN ps:=by
 unfold wkNeed wkFix
 simp only [List.cons_append,List.append_assoc]
noncomputable def kWkE (P:Params) (f:WF) (v:WS) (its:List Value):Con :=
 ⟨wkC P f,wkFix P f v its,fun _=>(wkFr P f v)::(lisIt .none v.k 0)::((wkFix P f v its).map (·.2)).drop 2,fun _=>[],fun _=>.ok .next⟩
theorem kWkE_ok (w:World) (b1 b2:Bool) (f:WF) (v:WS) (its:List Value) (h:f.its[v.k.toNat]?=none):(kWkE (Pw w b1 b2) f v its).Ok2 w b1 b2 126 :=
 Con.of2 84 [3,3,4] [uS 1 (fNextLE ⟨f.its⟩ v.k) [3,5]] [] (fun _ _ _ j=>0) ⟨fNextLE_ok (by simpa using h),trivial⟩
inductive Shape:List Pc→Prop
 | s1 (a0 z0 t0 c0):Shape [⟨a0,z0,t0,1,c0⟩]
 | s2 (a0 z0 t0 c0):Shape [⟨a0,z0,t0,2,c0⟩]
 | s3 (a0 z0 t0 c0):Shape [⟨a0,z0,t0,3,c0⟩]
 | s21 (a0 z0 t0 c0 a1 z1 t1 c1):Shape [⟨a0,z0,t0,2,c0⟩,⟨a1,z1,t1,1,c1⟩]
 | s31 (a0 z0 t0 c0 a1 z1 t1 c1):Shape [⟨a0,z0,t0,3,c0⟩,⟨a1,z1,t1,1,c1⟩]
 | s32 (a0 z0 t0 c0 a1 z1 t1 c1):Shape [⟨a0,z0,t0,3,c0⟩,⟨a1,z1,t1,2,c1⟩]
 | s321 (a0 z0 t0 c0 a1 z1 t1 c1 a2 z2 t2 c2):Shape [⟨a0,z0,t0,3,c0⟩,⟨a1,z1,t1,2,c1⟩,⟨a2,z2,t2,1,c2⟩]
theorem shape_of (ps:List Pc) (h:valid (lcs ps)):Shape ps:=by
 unfold valid at h
 match ps,h with
 | [],h=>simp [lcs] at h
 | [⟨a0,z0,t0,L0,c0⟩],h =>
  simp [lcs] at h
  rcases h with rfl | rfl | rfl
  ·exact .s1 ..
  ·exact .s2 ..
  ·exact .s3 ..
 | [⟨a0,z0,t0,L0,c0⟩,⟨a1,z1,t1,L1,c1⟩],h =>
  simp [lcs] at h
  rcases h with ⟨rfl,rfl⟩ | ⟨rfl,rfl⟩ | ⟨rfl,rfl⟩
  ·exact .s21 ..
  ·exact .s31 ..
  ·exact .s32 ..
 | [⟨a0,z0,t0,L0,c0⟩,⟨a1,z1,t1,L1,c1⟩,⟨a2,z2,t2,L2,c2⟩],h =>
  simp [lcs] at h
  obtain ⟨rfl,rfl,rfl⟩:=h
  exact .s321 ..
 | _::_::_::_::_,h=>simp [lcs] at h
theorem wkTurn (w:World) (b1 b2:Bool) (z:WI) (L c:Nat) (tw:Tok) (hv:valid (lcs z.ps)) (hL:L=1∨L=2∨L=3) (hk:z.f.its[z.v.k.toNat]?=some (.str (wd L c) tw)) (hpb:z.v.pb.length≤100) (hlk:z.v.lk.length≤100) (hlw:z.v.lw.length≤100) :
  Way (Mo w b1 b2) (Kt w b1 b2) 126 (WI.pt (Pw w b1 b2) z) (fun k:{z':WI // Trail [(L,c)] z z'∧Ended (L,c) (lcs z.ps) z'}=>k.1.pt (Pw w b1 b2)) (fun k=>came z k.1):=by
 obtain ⟨f,v,ps⟩:=z
 cases shape_of ps hv<;>rcases hL with rfl | rfl | rfl
 ·exact wkT1_1 w b1 b2 f v _ _ _ _ _ _ hk hpb hlk hlw
 ·exact wkT1_2 w b1 b2 f v _ _ _ _ _ _ hk hpb hlk hlw
 ·exact wkT1_3 w b1 b2 f v _ _ _ _ _ _ hk hpb hlk hlw
 ·exact wkT2_1 w b1 b2 f v _ _ _ _ _ _ hk hpb hlk hlw
 ·exact wkT2_2 w b1 b2 f v _ _ _ _ _ _ hk hpb hlk hlw
 ·exact wkT2_3 w b1 b2 f v _ _ _ _ _ _ hk hpb hlk hlw
 ·exact wkT3_1 w b1 b2 f v _ _ _ _ _ _ hk hpb hlk hlw
 ·exact wkT3_2 w b1 b2 f v _ _ _ _ _ _ hk hpb hlk hlw
 ·exact wkT3_3 w b1 b2 f v _ _ _ _ _ _ hk hpb hlk hlw
 ·exact wkT21_1 w b1 b2 f v _ _ _ _ _ _ _ _ _ _ hk hpb hlk hlw
 ·exact wkT21_2 w b1 b2 f v _ _ _ _ _ _ _ _ _ _ hk hpb hlk hlw
 ·exact wkT21_3 w b1 b2 f v _ _ _ _ _ _ _ _ _ _ hk hpb hlk hlw
 ·exact wkT31_1 w b1 b2 f v _ _ _ _ _ _ _ _ _ _ hk hpb hlk hlw
 ·exact wkT31_2 w b1 b2 f v _ _ _ _ _ _ _ _ _ _ hk hpb hlk hlw
 ·exact wkT31_3 w b1 b2 f v _ _ _ _ _ _ _ _ _ _ hk hpb hlk hlw
 ·exact wkT32_1 w b1 b2 f v _ _ _ _ _ _ _ _ _ _ hk hpb hlk hlw
 ·exact wkT32_2 w b1 b2 f v _ _ _ _ _ _ _ _ _ _ hk hpb hlk hlw
 ·exact wkT32_3 w b1 b2 f v _ _ _ _ _ _ _ _ _ _ hk hpb hlk hlw
 ·exact wkT321_1 w b1 b2 f v _ _ _ _ _ _ _ _ _ _ _ _ _ _ hk hpb hlk hlw
 ·exact wkT321_2 w b1 b2 f v _ _ _ _ _ _ _ _ _ _ _ _ _ _ hk hpb hlk hlw
 ·exact wkT321_3 w b1 b2 f v _ _ _ _ _ _ _ _ _ _ _ _ _ _ hk hpb hlk hlw
noncomputable def validDec (l:List (Nat×Nat)):Decidable (valid l):=by unfold valid; infer_instance
theorem valid_turn {l:List (Nat×Nat)} {L c:Nat} (hv:valid l) (hL:L=1∨L=2∨L=3):valid (tP l (L,c))∧(tH l (L,c)).length≤3:=by
 unfold valid at hv
 have:∃ ps:List Pc,lcs ps=l:=by
  clear hv
  induction l with
  | nil=>exact ⟨[],rfl⟩
  | cons q l ih=>obtain ⟨ps,e⟩:=ih; exact ⟨⟨0,0,0,q.1,q.2⟩::ps,by rw [lcs,e]⟩
 obtain ⟨ps,rfl⟩:=this
 cases shape_of ps hv<;>rcases hL with rfl | rfl | rfl <;>
  exact ⟨@of_decide_eq_true _ (validDec _) (by rfl),Nat.le_of_ble_eq_true rfl⟩
end Mine
namespace Mine
theorem Trail.nil (z:WI):Trail [] z z:=⟨rfl,by simp,rfl,⟨fun _=>0,rfl⟩,⟨fun _=>0,rfl⟩,⟨fun _=>0,rfl⟩⟩
theorem came_self (z:WI):came z z=[]:=by
 unfold came
 rw [List.filter_eq_nil_iff]
 intro a ha
 simpa using ha
theorem wP_append:∀ (a b:List (Nat×Nat)) (ps:List (Nat×Nat)),wP ps (a++b)=wP (wP ps a) b
 | [],_,_=>rfl
 | _::a,b,ps=>wP_append a b _
theorem wLk_append:∀ (a b:List (Nat×Nat)) (ps:List (Nat×Nat)),wLk ps (a++b)=wLk ps a++wLk (wP ps a) b
 | [],_,_=>rfl
 | _::a,b,ps=>by simp only [List.cons_append,wLk,wP]; rw [wLk_append a b]
theorem wLw_append:∀ (a b:List (Nat×Nat)) (ps:List (Nat×Nat)),wLw ps (a++b)=wLw ps a++wLw (wP ps a) b
 | [],_,_=>rfl
 | _::a,b,ps=>by simp only [List.cons_append,wLw,wP]; rw [wLw_append a b]
theorem wH_append:∀ (a b:List (Nat×Nat)) (ps:List (Nat×Nat)),wH ps (a++b)=wH ps a++wH (wP ps a) b
 | [],_,_=>rfl
 | _::a,b,ps=>by simp only [List.cons_append,wH,wP]; rw [wH_append a b,List.append_assoc]
theorem Trail.append {ws ws':List (Nat×Nat)} {z z' z'':WI} (a:Trail ws z z') (b:Trail ws' z' z''):Trail (ws++ws') z z'':=by
 refine ⟨b.f.trans a.f,?_,?_,?_,?_,?_⟩
 ·rw [b.k,a.k]; simp; omega
 ·rw [b.ps,a.ps,wP_append]
 ·obtain ⟨f,e⟩:=a.lk
  obtain ⟨g,e'⟩:=b.lk
  rw [e',e,a.ps,wLk_append]
  exact glV_append _ _ _ _ _
 ·obtain ⟨f,e⟩:=a.lw
  obtain ⟨g,e'⟩:=b.lw
  rw [e',e,a.ps,wLw_append]
  exact nlV_append _ _ _ _ _
 ·obtain ⟨f,e⟩:=a.pb
  obtain ⟨g,e'⟩:=b.pb
  rw [e',e,a.ps,wH_append]
  exact glV_append _ _ _ _ _
noncomputable def okW (q:Nat×Nat):Prop:=q.1=1∨q.1=2∨q.1=3
theorem came_trans {z z' z'':WI} {a:Addr} (h:a∈(came z z'').filter fun a=>!(came z z').contains a):a∈came z' z'':=by
 unfold came at *
 simp only [List.mem_filter,Bool.not_eq_true',List.contains_eq_mem,decide_eq_false_iff_not] at *
 exact ⟨h.1.1,fun m=>h.2 ⟨m,h.1.2⟩⟩
theorem valid_wP:∀ {ws:List (Nat×Nat)} {ps:List (Nat×Nat)},(∀ q∈ws,okW q)→valid ps→valid (wP ps ws)
 | [],_,_,h=>h
 | w::ws,ps,hw,h=>valid_wP (ws:=ws) (fun q hq=>hw q (.tail _ hq)) (valid_turn (c:=w.2) h (hw w (.head _))).1
theorem wkTrail (w:World) (b1 b2:Bool):∀ (ws:List (Nat×Nat)) (z:WI),(∀ q∈ws,okW q)→valid (lcs z.ps)→(∀ j (h:j<ws.length),∃ t,z.f.its[(z.v.k+(j:Nat)).toNat]?=some (.str (wdP ws[j]) t)) →
  z.v.pb.length+3*ws.length≤100→z.v.lk.length+ws.length≤100→z.v.lw.length+ws.length≤100 →
  Way (Mo w b1 b2) (Kt w b1 b2) 126 (WI.pt (Pw w b1 b2) z) (fun k:{z':WI // Trail ws z z'}=>k.1.pt (Pw w b1 b2)) (fun k=>came z k.1)
 | [],z,_,_,_,_,_,_=>Way.refl ⟨z,Trail.nil z⟩ rfl (came_self z)
 | q::ws,z,hw,hv,hk,h1,h2,h3=>by
  obtain ⟨t,ht⟩:=hk 0 (Nat.succ_pos _)
  have h1':z.v.pb.length+3*(ws.length+1)≤100:=h1
  have h2':z.v.lk.length+(ws.length+1)≤100:=h2
  have h3':z.v.lw.length+(ws.length+1)≤100:=h3
  have T:=wkTurn w b1 b2 z q.1 q.2 t hv (hw q (.head _)) (by simpa [wdP] using ht) (by omega) (by omega) (by omega)
  refine Way.trans T fun i=>?_
  obtain ⟨z',tr,en⟩:=i
  have vt:=valid_turn (c:=q.2) hv (hw q (.head _))
  have hps:lcs z'.ps=tP (lcs z.ps) q:=tr.ps
  have ih:=wkTrail w b1 b2 ws z' (fun x hx=>hw x (.tail _ hx)) (by rw [hps]; exact vt.1) (fun j hj=>by
   obtain ⟨t,e⟩:=hk (j+1) (Nat.succ_lt_succ hj)
   refine ⟨t,?_⟩
   rw [tr.f,tr.k]
   have:z.v.k+(([(q.1,q.2)]:List (Nat×Nat)).length:Nat)+(j:Int)=z.v.k+((j+1:Nat):Int):=by simp; omega
   rw [this]
   simpa using e)
   (by obtain ⟨f,e⟩:=tr.pb; rw [e,glV_length]; simp only [wH,List.length_append,List.length_map,List.length_nil]; have:=vt.2; omega)
   (by obtain ⟨f,e⟩:=tr.lk; rw [e,glV_length]; simp only [wLk,List.length_cons,List.length_nil]; omega)
   (by obtain ⟨f,e⟩:=tr.lw; rw [e,nlV_length]; simp only [wLw,List.length_cons,List.length_nil]; omega)
  exact ih.mono fun k=>⟨⟨k.1,tr.cons k.2⟩,rfl,fun a ha=>came_trans ha⟩
structure First (f:WF) (w:Nat×Nat) (pb:List Value) (z:WI):Prop where
 f:∃ gl gs kt,z.f={f with gl:=gl,gs:=gs,kt:=kt}
 k:z.v.k=1
 ps:lcs z.ps=[w]
 lk:∃ t,z.v.lk=[.str (wdP w) t]
 lw:∃ t,z.v.lw=[.int 0 t]
 pb:z.v.pb=pb
theorem wkFirst (w:World) (b1 b2:Bool) (f:WF) (k1 k2 k3 k4 k5:Tok) (fe el ew ep:Nat) (pb:List Value) (epb:Nat) (q:Nat×Nat) (tw:Tok) (hL:okW q) (hk:f.its[0]?=some (.str (wdP q) tw)) :
  Way (Mo w b1 b2) (Kt w b1 b2) 126 ⟨wkC (Pw w b1 b2) f,wkNeed0 (Pw w b1 b2) f k1 k2 k3 k4 k5 fe el ew ep pb epb⟩ (fun k:{z':WI // First f q pb z'}=>k.1.pt (Pw w b1 b2)) (fun k=>k.1.ps.map (·.a)):=by
 refine (wk0_ok w b1 b2 f k1 k2 k3 k4 k5 fe el ew ep pb epb q.1 q.2 tw hL hk).mono fun z=>⟨⟨⟨wk0f f z.2.1,wk0v pb z.2.1 z.2.2 q.1 q.2,[wk0p z.2.1 q.1 q.2 tw]⟩,⟨_,_,_,rfl⟩,rfl,rfl,⟨_,rfl⟩,⟨_,rfl⟩,rfl⟩,rfl,fun a ha=>?_⟩
 show a∈[adN z.2.1 8,adN z.2.1 10,adN z.2.1 20]
 have ha:a∈[adN z.2.1 20]:=ha
 rw [List.mem_singleton.mp ha]
 simp
structure Walked (f:WF) (w0 w1 w2 w3 w4:Nat×Nat) (pb:List Value) (z:WI):Prop where
 f:∃ gl gs kt,z.f={f with gl:=gl,gs:=gs,kt:=kt}
 k:z.v.k=5
 ps:lcs z.ps=wP [w0] [w1,w2,w3,w4]
 lk:∃ f,z.v.lk=glV [] (wdP w0::wLk [w0] [w1,w2,w3,w4]) f
 lw:∃ f,z.v.lw=nlV [] (0::wLw [w0] [w1,w2,w3,w4]) f
 pb:∃ f,z.v.pb=glV pb (wH [w0] [w1,w2,w3,w4]) f
 e:Ended w4 (wP [w0] [w1,w2,w3]) z
theorem wkAll (w:World) (b1 b2:Bool) (f:WF) (k1 k2 k3 k4 k5:Tok) (fe el ew ep:Nat) (pb:List Value) (epb:Nat) (w0 w1 w2 w3 w4:Nat×Nat) (t:Nat→Tok) (h0:okW w0) (h1:okW w1) (h2:okW w2) (h3:okW w3) (h4:okW w4) (hits:f.its=[.str (wdP w0) (t 0),.str (wdP w1) (t 1),.str (wdP w2) (t 2),.str (wdP w3) (t 3),.str (wdP w4) (t 4)]) (hpb:pb.length≤50) :
  Way (Mo w b1 b2) (Kt w b1 b2) 126 ⟨wkC (Pw w b1 b2) f,wkNeed0 (Pw w b1 b2) f k1 k2 k3 k4 k5 fe el ew ep pb epb⟩ (fun k:{z':WI // Walked f w0 w1 w2 w3 w4 pb z'}=>k.1.pt (Pw w b1 b2)) (fun k=>k.1.ps.map (·.a)):=by
 refine Way.trans (wkFirst w b1 b2 f k1 k2 k3 k4 k5 fe el ew ep pb epb w0 (t 0) h0 (by rw [hits]; rfl)) fun i=>?_
 obtain ⟨z,S⟩:=i
 obtain ⟨gl,gs,kt,hf⟩:=S.f
 obtain ⟨tk,hlk⟩:=S.lk
 obtain ⟨tw,hlw⟩:=S.lw
 have hzits:z.f.its=f.its:=by rw [hf]
 have v0:valid (lcs z.ps):=by
  rw [S.ps]; unfold valid
  rcases h0 with h | h | h<;>simp [h]
 have T:=wkTrail w b1 b2 [w1,w2,w3] z (by intro q hq; simp at hq; rcases hq with rfl | rfl | rfl<;>assumption) v0
  (fun j hj=>by
   rw [hzits,hits,S.k]
   have:j=0∨j=1∨j=2:=by simp at hj; omega
   rcases this with rfl | rfl | rfl
   ·exact ⟨t 1,rfl⟩
   ·exact ⟨t 2,rfl⟩
   ·exact ⟨t 3,rfl⟩)
  (by rw [S.pb]; simp; omega) (by rw [hlk]; simp) (by rw [hlw]; simp)
 refine Way.trans (nw:=fun k:{z':WI // Trail [w1,w2,w3] z z'}=>came z k.1) T fun i=>?_
 obtain ⟨z',tr⟩:=i
 have hp':lcs z'.ps=wP [w0] [w1,w2,w3]:=by rw [tr.ps,S.ps]
 have v1:valid (lcs z'.ps):=by rw [tr.ps]; exact valid_wP (by intro q hq; simp at hq; rcases hq with rfl | rfl | rfl<;>assumption) v0
 have U:=wkTurn w b1 b2 z' w4.1 w4.2 (t 4) v1 h4 (by
   rw [tr.f,hzits,hits,tr.k,S.k]
   rfl)
  (by
   obtain ⟨g,e⟩:=tr.pb
   rw [e,glV_length,S.pb]
   have a1:=(valid_turn (c:=w1.2) v0 h1)
   have a2:=(valid_turn (c:=w2.2) a1.1 h2)
   have a3:=(valid_turn (c:=w3.2) a2.1 h3)
   simp only [wH,List.length_append,List.length_map,List.length_nil]
   have e1:(tH (lcs z.ps) w1).length≤3:=a1.2
   have e2:(tH (tP (lcs z.ps) w1) w2).length≤3:=a2.2
   have e3:(tH (tP (tP (lcs z.ps) w1) w2) w3).length≤3:=a3.2
   omega)
  (by obtain ⟨g,e⟩:=tr.lk; rw [e,glV_length,hlk]; simp [wLk])
  (by obtain ⟨g,e⟩:=tr.lw; rw [e,nlV_length,hlw]; simp [wLw])
 refine U.mono fun k=>⟨⟨k.1,?_⟩,rfl,fun a ha=>?_⟩
 ·obtain ⟨tr',en⟩:=k.2
  have tr2:Trail [w1,w2,w3,w4] z k.1:=Trail.append tr tr'
  refine ⟨⟨gl,gs,kt,by rw [tr2.f,hf]⟩,?_,?_,?_,?_,?_,?_⟩
  ·rw [tr2.k,S.k]; rfl
  ·rw [tr2.ps,S.ps]
  ·obtain ⟨g,e⟩:=tr2.lk
   rw [e,hlk,S.ps]
   exact ⟨consT tk g,rfl⟩
  ·obtain ⟨g,e⟩:=tr2.lw
   rw [e,hlw,S.ps]
   exact ⟨consT tw g,rfl⟩
  ·obtain ⟨g,e⟩:=tr2.pb
   rw [e,S.pb,S.ps]
   exact ⟨g,rfl⟩
  ·rw [← hp']
   exact en
 ·exact came_trans ha
end Mine
namespace Mine
theorem zip_self {q:Addr×Obj}:∀ {l:List (Addr×Obj)},q∈l→q∈(l.map (·.1)).zip (l.map (·.2))
 | _::_,h=>by
  rcases List.mem_cons.mp h with rfl | h
  ·exact .head _
  ·exact .tail _ (zip_self h)
theorem Way.con2 {M:Model} {kt:Addr→Option Obj} {x:Nat} {ι:Type} {A:Pt} {B:ι→Pt} {nw:ι→List Addr} {C:Con} (K:ι→Con) (f:ι→(Nat→Nat)→Nat→Nat) (hA:A=⟨C.c,C.need⟩) (W:Way M kt x A B nw) (hK:∀ i,(K i).Ok M kt x) (hc:∀ i,B i=⟨(K i).c,(K i).need⟩)
  (hres:∀ i xs,C.res (f i xs)=(K i).res xs) (hgive:∀ i xs,∀ q∈zipObj C.need (C.give (f i xs)),q∈zipObj (K i).need ((K i).give xs))
  (hnew:∀ i xs,∀ q∈C.new (f i xs),q∈zipObj (K i).need ((K i).give xs)∧q.1∈nw i) (hnn:∀ i xs,((K i).need.map (·.1)).Nodup→((C.new (f i xs)).map (·.1)).Nodup) (hlen:∀ xs,(C.give xs).length=C.need.length):C.Ok M kt x:=by
 intro Γ p s R hcode hroom hlim hkt hneed hkn hnd hR
 subst hA
 refine W Γ p s R hcode hroom hlim hkt ⟨hneed,hkn,hnd⟩ fun i Γ' p' s' hc' hr' hl' hk' hB S=>?_
 have e:=hc i
 rw [e] at hc' hB S
 obtain ⟨n1,n2,n3⟩:=hB
 refine hK i Γ' p' s' R hc' hr' hl' hk' n1 n2 n3 fun xs s'' T=>?_
 rw [← hres]
 refine hR (f i xs) s'' ⟨fun b o e m=>?_,hlen _,fun q hq=>?_,fun q hq=>?_,hnn i xs n3,S.gens.trans T.gens,T.drawn.trans S.drawn,T.os.trans S.os,Nat.le_trans S.size T.size⟩
 ·obtain ⟨e1,m1⟩:=S.keep b o e m
  exact T.keep b o e1 m1
 ·rw [← zipObj_zip] at hq
  have:=hgive i xs q hq
  rw [zipObj_zip] at this
  exact T.give q this
 ·obtain ⟨a,b⟩:=hnew i xs q hq
  rw [zipObj_zip] at a
  exact ⟨T.give q a,S.nw _ b⟩
noncomputable def enc (s f g h:Nat→Nat) (n:Nat):Nat:=match n % 4 with
 | 0=>s (n / 4)
 | 1=>f (n / 4)
 | 2=>g (n / 4)
 | _=>h (n / 4)
noncomputable def tk (r:Nat) (xs:Nat→Nat) (j:Nat):Nat:=xs (4*j+r)
theorem tk0 (s f g h:Nat→Nat):tk 0 (enc s f g h)=s:=by
 funext j; unfold tk enc
 have a:(4*j+0) % 4=0:=by omega
 have b:(4*j+0) / 4=j:=by omega
 rw [a,b]
 rfl
theorem tk1 (s f g h:Nat→Nat):tk 1 (enc s f g h)=f:=by
 funext j; unfold tk enc
 have a:(4*j+1) % 4=1:=by omega
 have b:(4*j+1) / 4=j:=by omega
 rw [a,b]
 rfl
theorem tk2 (s f g h:Nat→Nat):tk 2 (enc s f g h)=g:=by
 funext j; unfold tk enc
 have a:(4*j+2) % 4=2:=by omega
 have b:(4*j+2) / 4=j:=by omega
 rw [a,b]
 rfl
theorem tk3 (s f g h:Nat→Nat):tk 3 (enc s f g h)=h:=by
 funext j; unfold tk enc
 have a:(4*j+3) % 4=3:=by omega
 have b:(4*j+3) / 4=j:=by omega
 rw [a,b]
 rfl
noncomputable def pcOf (s:Nat→Nat) (i:Nat):List (Nat×Nat)→List Pc
 | []=>[]
 | q::l=>⟨s i,s (i+1),s (i+2),q.1,q.2⟩::pcOf s (i+3) l
noncomputable def pcNth:List Pc→Nat→Pc
 | [],_=>⟨0,0,0,0,0⟩
 | p::_,0=>p
 | _::l,i+1=>pcNth l i
noncomputable def pcS (t:Nat→Nat) (n:Nat) (ps:List Pc) (m:Nat):Nat:=match Nat.blt m n with
 | true=>t m
 | false=>match (m-n) % 3 with
  | 0=>(pcNth ps ((m-n) / 3)).a
  | 1=>(pcNth ps ((m-n) / 3)).t0
  | _=>(pcNth ps ((m-n) / 3)).t
theorem pcS_0 {t:Nat→Nat} {n:Nat} {ps:List Pc} {i:Nat}:pcS t n ps (n+3*i)=(pcNth ps i).a:=by
 unfold pcS
 have h:Nat.blt (n+3*i) n=false:=by
  cases e:Nat.blt (n+3*i) n with
  | false=>rfl
  | true=>have:=Nat.blt_eq.mp e; omega
 have a:(n+3*i-n) % 3=0:=by omega
 have b:(n+3*i-n) / 3=i:=by omega
 rw [h,a,b]
 rfl
theorem pcS_1 {t:Nat→Nat} {n:Nat} {ps:List Pc} {i:Nat}:pcS t n ps (n+3*i+1)=(pcNth ps i).t0:=by
 unfold pcS
 have h:Nat.blt (n+3*i+1) n=false:=by
  cases e:Nat.blt (n+3*i+1) n with
  | false=>rfl
  | true=>have:=Nat.blt_eq.mp e; omega
 have a:(n+3*i+1-n) % 3=1:=by omega
 have b:(n+3*i+1-n) / 3=i:=by omega
 rw [h,a,b]
 rfl
theorem pcS_2 {t:Nat→Nat} {n:Nat} {ps:List Pc} {i:Nat}:pcS t n ps (n+3*i+2)=(pcNth ps i).t:=by
 unfold pcS
 have h:Nat.blt (n+3*i+2) n=false:=by
  cases e:Nat.blt (n+3*i+2) n with
  | false=>rfl
  | true=>have:=Nat.blt_eq.mp e; omega
 have a:(n+3*i+2-n) % 3=2:=by omega
 have b:(n+3*i+2-n) / 3=i:=by omega
 rw [h,a,b]
 rfl
theorem pcOf_from {t:Nat→Nat} {n:Nat} {qs:List Pc}:∀ (ps:List Pc) (i:Nat),(∀ j,j<ps.length→pcNth qs (i+j)=pcNth ps j)→pcOf (pcS t n qs) (n+3*i) (lcs ps)=ps
 | [],_,_=>rfl
 | p::l,i,h=>by
  have h0:pcNth qs i=p:=h 0 (Nat.succ_pos _)
  have ih:=pcOf_from (t:=t) (n:=n) (qs:=qs) l (i+1) fun j hj=>by
   have:=h (j+1) (Nat.succ_lt_succ hj)
   rw [show i+1+j=i+(j+1) by omega]
   exact this
  show _::pcOf _ (n+3*i+3) (lcs l)=_
  rw [pcS_0,pcS_1,pcS_2,h0,show n+3*i+3=n+3*(i+1) by omega,ih]
theorem pcOf_is {t:Nat→Nat} {n:Nat} {ps:List Pc}:pcOf (pcS t n ps) n (lcs ps)=ps:=pcOf_from (n:=n) ps 0 fun j _=>by rw [Nat.zero_add]
end Mine
namespace Mine
noncomputable def wlFr (P:Params) (f:WF) (s:Nat→Nat) (vw vp:Str):Obj:={cls:=.type "frame",data:=.dict ⟨dE P (fun j=>s (j+8)) 0 [("words",.ref f.W),("pile",.ref (f.A+213)),("line",.ref f.l.X),("looks",.ref f.LK),("lows",.ref f.LW),("word",.str vw (s 5)),("white",.str st0 (s 6)),("part",.str vp (s 7))]⟩ (s 4)}
noncomputable def wlGive (P:Params) (f:WF) (pb:List Value) (looks:List Str) (lows:List Int) (hid:List Str) (vw vp:Str) (its:List Value) (s a b c:Nat→Nat):List Obj :=
 wlFr P f s vw vp::lisIt .none 5 0::lsO f.its f.esw::lsO (glV [] looks a) (s 0)::lsO (nlV [] lows b) (s 1) ::
  {cls:=.ref 115,dict:=some f.D,data:=.seq ⟨its⟩ (s 2)}::pileD P f.ti f.t0 f.ed::tabO 72 19 (s 16)::tabO 75 32 (s 17)::(lexNeed P f.l f.ss f.ess f.n f.tn (glV pb hid c) (s 3)).map (·.2)
noncomputable def kWL (P:Params) (f:WF) (k1 k2 k3 k4 k5:Tok) (fe el ew ep:Nat) (pb:List Value) (epb:Nat) (looks:List Str) (lows:List Int) (hid:List Str) (vw vp:Str) (fin:List (Nat×Nat)):Con :=
 ⟨wkC P f,wkNeed0 P f k1 k2 k3 k4 k5 fe el ew ep pb epb,fun xs=>wlGive P f pb looks lows hid vw vp (pcV (pcOf (tk 0 xs) 18 fin)) (tk 0 xs) (tk 1 xs) (tk 2 xs) (tk 3 xs),fun xs=>pcN (pcOf (tk 0 xs) 18 fin),fun _=>.ok .next⟩
noncomputable def wlS (el ew ep epb fe t5 t6 t7:Nat) (kt:Nat→Tok) (a b:Addr) (m:Nat):Nat:=match m with
 | 0=>el | 1=>ew | 2=>ep | 3=>epb | 4=>fe | 5=>t5 | 6=>t6 | 7=>t7 | 8=>kt 0 | 9=>kt 1 | 10=>kt 2 | 11=>kt 3 | 12=>kt 4 | 13=>kt 5 | 14=>kt 6 | 15=>kt 7 | 16=>a | _=>b
theorem wl_zip (P:Params) (f:WF) (k1 k2 k3 k4 k5:Tok) (fe el ew ep:Nat) (pb:List Value) (epb:Nat) (looks:List Str) (lows:List Int) (hid:List Str) (vw vp:Str) (its:List Value) (vel vew vep vepb vfe t5 t6 t7:Nat) (kt:Nat→Tok) (gl gs:Gc) (ps:List Pc) (fa fb fc:Nat→Nat) :
  zipObj (wkNeed0 P f k1 k2 k3 k4 k5 fe el ew ep pb epb) (wlGive P f pb looks lows hid vw vp its (pcS (wlS vel vew vep vepb vfe t5 t6 t7 kt gl.g gs.g) 18 ps) fa fb fc) =
   pickNew [0,1,2,3,4,5,6,7,9,11,12,13,14,15,16,17,18,19] (zipObj (wkFix P {f with gl:=gl,gs:=gs,kt:=kt} ⟨.str vw t5,.str st0 t6,.str vp t7,vfe,5,glV [] looks fa,nlV [] lows fb,vel,vew,vep,glV pb hid fc,vepb⟩ its)
    ((kWkE P {f with gl:=gl,gs:=gs,kt:=kt} ⟨.str vw t5,.str st0 t6,.str vp t7,vfe,5,glV [] looks fa,nlV [] lows fb,vel,vew,vep,glV pb hid fc,vepb⟩ its).give fun _=>0)):=by kernel_rfl
theorem wk_len (P:Params) (f:WF) (v:WS) (its:List Value):((wkFix P f v its).map (·.1)).length=((kWkE P f v its).give fun _=>0).length:=by kernel_rfl
noncomputable def kWK (P:Params) (z:WI):Con:=(kWkE P z.f z.v (pcV z.ps)).framed (pcN z.ps)
theorem kWL_pt (P:Params) (f:WF) (k1 k2 k3 k4 k5:Tok) (fe el ew ep:Nat) (pb:List Value) (epb:Nat) (looks:List Str) (lows:List Int) (hid:List Str) (vw vp:Str) (fin:List (Nat×Nat)):(⟨wkC P f,wkNeed0 P f k1 k2 k3 k4 k5 fe el ew ep pb epb⟩:Pt)=⟨(kWL P f k1 k2 k3 k4 k5 fe el ew ep pb epb looks lows hid vw vp fin).c,(kWL P f k1 k2 k3 k4 k5 fe el ew ep pb epb looks lows hid vw vp fin).need⟩:=by kernel_rfl
theorem kWK_pt (P:Params) (z:WI):z.pt P=⟨(kWK P z).c,(kWK P z).need⟩:=by
 have e:=wkFix_is P z.f z.v z.ps
 have a:z.pt P=Pt.mk (wkC P z.f) (wkNeed P z.f z.v z.ps):=by kernel_rfl
 rw [a,e]
 kernel_rfl
theorem wl_len (P:Params) (f:WF) (k1 k2 k3 k4 k5:Tok) (fe el ew ep:Nat) (pb:List Value) (epb:Nat) (looks:List Str) (lows:List Int) (hid:List Str) (vw vp:Str) (its:List Value) (s a b c:Nat→Nat):(wlGive P f pb looks lows hid vw vp its s a b c).length=(wkNeed0 P f k1 k2 k3 k4 k5 fe el ew ep pb epb).length:=by kernel_rfl
theorem kWL_ok (w:World) (b1 b2:Bool) (f:WF) (k1 k2 k3 k4 k5:Tok) (fe el ew ep:Nat) (pb:List Value) (epb:Nat) (w0 w1 w2 w3 w4:Nat×Nat) (t:Nat→Tok) (h0:okW w0) (h1:okW w1) (h2:okW w2) (h3:okW w3) (h4:okW w4) (hits:f.its=[.str (wdP w0) (t 0),.str (wdP w1) (t 1),.str (wdP w2) (t 2),.str (wdP w3) (t 3),.str (wdP w4) (t 4)]) (hpb:pb.length≤50) :
  (kWL (Pw w b1 b2) f k1 k2 k3 k4 k5 fe el ew ep pb epb (wdP w0::wLk [w0] [w1,w2,w3,w4]) (0::wLw [w0] [w1,w2,w3,w4]) (wH [w0] [w1,w2,w3,w4]) (wdP w4) (ptP (tK (wP [w0] [w1,w2,w3]) w4)) (wP [w0] [w1,w2,w3,w4])).Ok2 w b1 b2 126:=by
 have W:=wkAll w b1 b2 f k1 k2 k3 k4 k5 fe el ew ep pb epb w0 w1 w2 w3 w4 t h0 h1 h2 h3 h4 hits hpb
 have all:∀ i:{z':WI // Walked f w0 w1 w2 w3 w4 pb z'},∃ xs',zipObj (wkNeed0 (Pw w b1 b2) f k1 k2 k3 k4 k5 fe el ew ep pb epb) (wlGive (Pw w b1 b2) f pb (wdP w0::wLk [w0] [w1,w2,w3,w4]) (0::wLw [w0] [w1,w2,w3,w4]) (wH [w0] [w1,w2,w3,w4]) (wdP w4) (ptP (tK (wP [w0] [w1,w2,w3]) w4)) (pcV (pcOf (tk 0 xs') 18 (wP [w0] [w1,w2,w3,w4]))) (tk 0 xs') (tk 1 xs') (tk 2 xs') (tk 3 xs')) =
   pickNew [0,1,2,3,4,5,6,7,9,11,12,13,14,15,16,17,18,19] (zipObj (wkFix (Pw w b1 b2) i.1.f i.1.v (pcV i.1.ps)) ((kWkE (Pw w b1 b2) i.1.f i.1.v (pcV i.1.ps)).give fun _=>0))∧pcOf (tk 0 xs') 18 (wP [w0] [w1,w2,w3,w4])=i.1.ps:=fun i=>by
  obtain ⟨⟨F,v,ps⟩,S⟩:=i
  obtain ⟨gl,gs,kt,hf⟩:=S.f
  obtain ⟨fa,ha⟩:=S.lk
  obtain ⟨fb,hb⟩:=S.lw
  obtain ⟨fc,hc⟩:=S.pb
  obtain ⟨t5,e5⟩:=S.e.vw
  obtain ⟨t6,e6⟩:=S.e.vh
  obtain ⟨t7,e7⟩:=S.e.vp
  have hk:v.k=5:=S.k
  have hps:lcs ps=wP [w0] [w1,w2,w3,w4]:=S.ps
  have hf:F=_:=hf
  obtain ⟨vw,vh,vp,vfe,k,lk,lw,vel,vew,vep,vpb,vepb⟩:=v
  dsimp only at ha hb hc e5 e6 e7 hk
  subst hf; subst ha; subst hb; subst hc; subst e5; subst e6; subst e7; subst hk
  refine ⟨enc (pcS (wlS vel vew vep vepb vfe t5 t6 t7 kt gl.g gs.g) 18 ps) fa fb fc,?_,?_⟩
  ·rw [tk0,tk1,tk2,tk3,← hps,pcOf_is]
   exact wl_zip _ f k1 k2 k3 k4 k5 fe el ew ep pb epb _ _ _ _ _ _ vel vew vep vepb vfe t5 t6 t7 kt gl gs ps fa fb fc
  ·rw [tk0,← hps,pcOf_is]
 refine Way.con2 (A:=⟨wkC (Pw w b1 b2) f,wkNeed0 (Pw w b1 b2) f k1 k2 k3 k4 k5 fe el ew ep pb epb⟩) (B:=fun k:{z':WI // Walked f w0 w1 w2 w3 w4 pb z'}=>k.1.pt (Pw w b1 b2)) (nw:=fun k=>k.1.ps.map (·.a)) (fun i=>kWK (Pw w b1 b2) i.1) (fun i _=>Classical.choose (all i)) ?_ W (fun i=>?_) (fun i=>?_) (fun _ _=>?_) (fun i xs q hq=>?_) (fun i xs q hq=>?_) (fun i xs nd=>?_) (fun xs=>?_)
 ·exact kWL_pt _ _ _ _ _ _ _ _ _ _ _ _ _ _ _ _ _ _ _
 ·refine (kWkE_ok w b1 b2 i.1.f i.1.v (pcV i.1.ps) ?_).framed _
  obtain ⟨gl,gs,kt,hf⟩:=i.2.f
  rw [i.2.k,hf]
  show f.its[5]?=none
  rw [hits]; rfl
 ·exact kWK_pt _ _
 ·rfl
 ·have e:=(Classical.choose_spec (all i)).1
  have hq':=hq
  replace hq':q∈pickNew [0,1,2,3,4,5,6,7,9,11,12,13,14,15,16,17,18,19] (zipObj (wkFix (Pw w b1 b2) i.1.f i.1.v (pcV i.1.ps)) ((kWkE (Pw w b1 b2) i.1.f i.1.v (pcV i.1.ps)).give fun _=>0)):=by rw [← e]; exact hq
  obtain ⟨j,_,ej⟩:=pickNew_mem hq'
  have hm:=nth_mem ej
  rw [zipObj_zip] at hm ⊢
  show q∈((wkFix (Pw w b1 b2) i.1.f i.1.v (pcV i.1.ps)++pcN i.1.ps).map (·.1)).zip ((kWkE (Pw w b1 b2) i.1.f i.1.v (pcV i.1.ps)).give (fun _=>0)++(pcN i.1.ps).map (·.2))
  rw [List.map_append,List.zip_append (wk_len _ _ _ _)]
  exact List.mem_append_left _ hm
 ·have e:=(Classical.choose_spec (all i)).2
  have hq:q∈pcN (pcOf _ 18 _):=hq
  rw [e] at hq
  refine ⟨?_,?_⟩
  ·rw [zipObj_zip]
   show q∈((wkFix (Pw w b1 b2) i.1.f i.1.v (pcV i.1.ps)++pcN i.1.ps).map (·.1)).zip ((kWkE (Pw w b1 b2) i.1.f i.1.v (pcV i.1.ps)).give (fun _=>0)++(pcN i.1.ps).map (·.2))
   rw [List.map_append,List.zip_append (wk_len _ _ _ _)]
   exact List.mem_append_right _ (zip_self hq)
  ·generalize i.1.ps=ps at hq
   induction ps with
   | nil=>cases hq
   | cons p l ih =>
    rcases List.mem_cons.mp hq with rfl | hq
    ·exact .head _
    ·exact .tail _ (ih hq)
 ·have e:=(Classical.choose_spec (all i)).2
  show ((pcN (pcOf _ 18 _)).map (·.1)).Nodup
  rw [e]
  have nd:((wkFix (Pw w b1 b2) i.1.f i.1.v (pcV i.1.ps)++pcN i.1.ps).map (·.1)).Nodup:=nd
  rw [List.map_append,List.nodup_append] at nd
  exact nd.2.1
 ·exact wl_len (Pw w b1 b2) f k1 k2 k3 k4 k5 fe el ew ep pb epb _ _ _ _ _ _ _ _ _ _
end Mine
namespace Mine
noncomputable def sh3 (xs:Nat→Nat) (j:Nat):Nat:=xs (j+3)
noncomputable def waNeed (P:Params) (A D:Addr) (ti t0:Tok) (ed ep:Nat) (W:Addr) (its:List Value) (esw:Nat) (l:LA) (ss:List Value) (ess:Nat) (n:Int) (tn:Tok) (pb:List Value) (epb:Nat):List (Addr×Obj) :=
 (W,lsO its esw)::(pileNeed P A D ti t0 ed [] ep++(77,tabE)::(84,tabE)::lexNeed P l ss ess n tn pb epb)
noncomputable def waGive (P:Params) (A D:Addr) (ti t0:Tok) (ed:Nat) (its:List Value) (esw:Nat) (l:LA) (ss:List Value) (ess:Nat) (n:Int) (tn:Tok) (pb:List Value) (hid:List Str) (fin:List (Nat×Nat)) (s c:Nat→Nat):List Obj :=
 lsO its esw::{cls:=.ref 115,dict:=some D,data:=.seq ⟨pcV (pcOf s 18 fin)⟩ (s 2)}::pileD P ti t0 ed::tabO 72 19 (s 16)::tabO 75 32 (s 17)::(lexNeed P l ss ess n tn (glV pb hid c) (s 3)).map (·.2)
noncomputable def kWalk (P:Params) (A D:Addr) (ti t0:Tok) (ed ep:Nat) (W:Addr) (its:List Value) (esw:Nat) (l:LA) (ss:List Value) (ess:Nat) (n:Int) (tn:Tok) (pb:List Value) (epb:Nat) (looks:List Str) (lows:List Int) (hid:List Str) (fin:List (Nat×Nat)):Con :=
 ⟨.call (.ref 192) ⟨[.ref W,.ref (A+213),.ref l.X],[]⟩,waNeed P A D ti t0 ed ep W its esw l ss ess n tn pb epb,fun xs=>waGive P A D ti t0 ed its esw l ss ess n tn pb hid fin (tk 0 (sh3 xs)) (tk 3 (sh3 xs)),
  fun xs=>(xs 2,tpO [.ref (xs 0),.ref (xs 1)])::(xs 0,lsO (glV [] looks (tk 1 (sh3 xs))) (tk 0 (sh3 xs) 0))::(xs 1,lsO (nlV [] lows (tk 2 (sh3 xs))) (tk 0 (sh3 xs) 1))::pcN (pcOf (tk 0 (sh3 xs)) 18 fin),fun xs=>.ok (.ret (.ref (xs 2)))⟩
noncomputable def waF (os:List (Addr×Obj)) (A D:Addr) (ti t0:Tok) (ed:Nat) (its:List Value) (esw:Nat) (l:LA) (ss:List Value) (ess:Nat) (n:Int) (tn:Tok):WF:=⟨adN os 0,adN os 1,adN os 2,adN os 3,adN os 4,A,D,ti,t0,ed,⟨0,0,0,[]⟩,⟨0,0,0,[]⟩,l,ss,ess,n,tn,fun _=>0,its,esw⟩
noncomputable def fWL (P:Params) (A D:Addr) (ti t0:Tok) (ed ep:Nat) (its:List Value) (esw:Nat) (l:LA) (ss:List Value) (ess:Nat) (n:Int) (tn:Tok) (pb:List Value) (epb:Nat) (looks:List Str) (lows:List Int) (hid:List Str) (vw vp:Str) (fin:List (Nat×Nat)):Fam:=fam1 fun _ os =>
 kWL P (waF os A D ti t0 ed its esw l ss ess n tn) (tokV (keyN os 0 0)) (tokV (keyN os 0 1)) (tokV (keyN os 0 2)) (tokV (keyN os 0 3)) (tokV (keyN os 0 4)) (epN os 0) (epN os 3) (epN os 4) ep pb epb looks lows hid vw vp fin
noncomputable def hsWalk:List Nat:=hD 19 0x2088041042082082082082082000
noncomputable def pkWalk (N T:Nat) (sg:Sg) (n:Nat):Nat:=match n with
 | 0=>N+213+1
 | 1=>N+213+2
 | 2=>sg 0 0+213
 | n+3=>sg 0 (n+2)
noncomputable def plWalk:List Nat:=hD 18 0x6d95d54d13cd2c91c50c6101202
theorem kWalk1_ok (w:World) (b1 b2:Bool) (A D:Addr) (ti t0:Tok) (ed ep:Nat) (W:Addr) (its:List Value) (esw:Nat) (l:LA) (ss:List Value) (ess:Nat) (n:Int) (tn:Tok) (pb:List Value) (epb:Nat) (looks:List Str) (lows:List Int) (hid:List Str) (vw vp:Str) (q0:Nat×Nat)
  (H:(fWL (Pw w b1 b2) A D ti t0 ed ep its esw l ss ess n tn pb epb looks lows hid vw vp [q0]).Ok2 w b1 b2 126) :
  (kWalk (Pw w b1 b2) A D ti t0 ed ep W its esw l ss ess n tn pb epb looks lows hid [q0]).Ok2 w b1 b2 168:=by
 exact Con.of2b 126 hsWalk [⟨3,fWL (Pw w b1 b2) A D ti t0 ed ep its esw l ss ess n tn pb epb looks lows hid vw vp [q0],plWalk,false⟩] [0,4,3,1] pkWalk ⟨H,trivial⟩
theorem kWalk2_ok (w:World) (b1 b2:Bool) (A D:Addr) (ti t0:Tok) (ed ep:Nat) (W:Addr) (its:List Value) (esw:Nat) (l:LA) (ss:List Value) (ess:Nat) (n:Int) (tn:Tok) (pb:List Value) (epb:Nat) (looks:List Str) (lows:List Int) (hid:List Str) (vw vp:Str) (q0 q1:Nat×Nat)
  (H:(fWL (Pw w b1 b2) A D ti t0 ed ep its esw l ss ess n tn pb epb looks lows hid vw vp [q0,q1]).Ok2 w b1 b2 126) :
  (kWalk (Pw w b1 b2) A D ti t0 ed ep W its esw l ss ess n tn pb epb looks lows hid [q0,q1]).Ok2 w b1 b2 168:=by
 exact Con.of2b 126 hsWalk [⟨3,fWL (Pw w b1 b2) A D ti t0 ed ep its esw l ss ess n tn pb epb looks lows hid vw vp [q0,q1],plWalk,false⟩] [0,5,4,1,2] pkWalk ⟨H,trivial⟩
theorem kWalk3_ok (w:World) (b1 b2:Bool) (A D:Addr) (ti t0:Tok) (ed ep:Nat) (W:Addr) (its:List Value) (esw:Nat) (l:LA) (ss:List Value) (ess:Nat) (n:Int) (tn:Tok) (pb:List Value) (epb:Nat) (looks:List Str) (lows:List Int) (hid:List Str) (vw vp:Str) (q0 q1 q2:Nat×Nat)
  (H:(fWL (Pw w b1 b2) A D ti t0 ed ep its esw l ss ess n tn pb epb looks lows hid vw vp [q0,q1,q2]).Ok2 w b1 b2 126) :
  (kWalk (Pw w b1 b2) A D ti t0 ed ep W its esw l ss ess n tn pb epb looks lows hid [q0,q1,q2]).Ok2 w b1 b2 168:=by
 exact Con.of2b 126 hsWalk [⟨3,fWL (Pw w b1 b2) A D ti t0 ed ep its esw l ss ess n tn pb epb looks lows hid vw vp [q0,q1,q2],plWalk,false⟩] [0,6,5,1,2,3] pkWalk ⟨H,trivial⟩
theorem fWL_ok (w:World) (b1 b2:Bool) (A D:Addr) (ti t0:Tok) (ed ep:Nat) (esw:Nat) (l:LA) (ss:List Value) (ess:Nat) (n:Int) (tn:Tok) (pb:List Value) (epb:Nat) (w0 w1 w2 w3 w4:Nat×Nat) (t:Nat→Tok) (h0:okW w0) (h1:okW w1) (h2:okW w2) (h3:okW w3) (h4:okW w4) (hpb:pb.length≤50) :
  (fWL (Pw w b1 b2) A D ti t0 ed ep [.str (wdP w0) (t 0),.str (wdP w1) (t 1),.str (wdP w2) (t 2),.str (wdP w3) (t 3),.str (wdP w4) (t 4)] esw l ss ess n tn pb epb (wdP w0::wLk [w0] [w1,w2,w3,w4]) (0::wLw [w0] [w1,w2,w3,w4]) (wH [w0] [w1,w2,w3,w4]) (wdP w4) (ptP (tK (wP [w0] [w1,w2,w3]) w4)) (wP [w0] [w1,w2,w3,w4])).Ok2 w b1 b2 126 :=
 fam1_ok fun _ os=>kWL_ok w b1 b2 (waF os A D ti t0 ed _ esw l ss ess n tn) _ _ _ _ _ _ _ _ ep pb epb w0 w1 w2 w3 w4 t h0 h1 h2 h3 h4 rfl hpb
end Mine
namespace Mine
noncomputable def lw1 (c:Nat):Nat:=match Nat.ble 90 c with
 | true=>c
 | false=>c+32
theorem low_let {c:Nat} (h:isLet c):lowS (sg1 c)=sg1 (lw1 c):=by
 rcases h with h | h
 ·obtain ⟨e,_⟩:=let_small h
  rw [e]
  have:lw1 c=c:=by unfold lw1; have:Nat.ble 90 c=true:=Nat.ble_eq.mpr (by omega); rw [this]
  rw [this]
 ·obtain ⟨e,_⟩:=let_great h
  rw [e]
  have b:Nat.ble 90 c=false:=by
   cases z:Nat.ble 90 c with
   | false=>rfl
   | true=>have:=Nat.ble_eq.mp z; omega
  have:lw1 c=sw c:=by unfold lw1 sw; rw [b]
  rw [this]
noncomputable def kSub (x y:Nat) (t u:Tok) (r:Int):Con:=⟨.call (.ref 28) ⟨[.str (sg1 x) t,.str (sg1 y) u],[]⟩,[],fun _=>[],fun _=>[],fun xs=>.ok (.ret (.int r (xs 0)))⟩
noncomputable def hsSub0:List Nat:=hD 8 0x82082082000
noncomputable def hsSub1:List Nat:=hD 11 0x82082082082000
theorem sg_ne {x y:Nat} (h:x≠y):((sg1 x).cps.toList==(sg1 y).cps.toList)=false:=by
 cases e:((sg1 x).cps.toList==(sg1 y).cps.toList) with
 | false=>rfl
 | true =>
  have:=beq_iff_eq.mp e
  have:x+1=y+1:=(List.cons.inj this).1
  exact absurd (Nat.succ.inj this) h
theorem sg_eq (x:Nat):((sg1 x).cps.toList==(sg1 x).cps.toList)=true:=by simp
theorem kSub_ok0 (w:World) (b1 b2:Bool) (x:Nat) (t u:Tok):(kSub x x t u 0).Ok2 w b1 b2 42:=by
 exact Con.of2b 0 hsSub0 [uS 2 (fSS "str.__eq__" (sg1 x) (sg1 x) true) []] [] (fun N T sg _=>sg 0 1) ⟨str_eq_ok (sg_eq x),trivial⟩
theorem kSub_ok1 (w:World) (b1 b2:Bool) (x y:Nat) (t u:Tok) (hx:isLet x) (hy:isLet y) (h:x≠y) (e:lw1 x=lw1 y):(kSub x y t u 1).Ok2 w b1 b2 42:=by
 have e2:((sg1 (lw1 x)).cps.toList==(sg1 (lw1 y)).cps.toList)=true:=by rw [e]; exact sg_eq _
 exact Con.of2b 0 hsSub1 [uS 2 (fSS "str.__eq__" (sg1 x) (sg1 y) false) [],uS 4 (fCase "str.lower" (sg1 x) (sg1 (lw1 x))) [],uS 6 (fCase "str.lower" (sg1 y) (sg1 (lw1 y))) [],uS 8 (fSS "str.__eq__" (sg1 (lw1 x)) (sg1 (lw1 y)) true) []] [] (fun N T sg _=>200)
  ⟨str_eq_ok (sg_ne h),fLow_ok (low_let hx).symm (sz1 _),fLow_ok (low_let hy).symm (sz1 _),str_eq_ok e2,trivial⟩
theorem kSub_ok2 (w:World) (b1 b2:Bool) (x y:Nat) (t u:Tok) (hx:isLet x) (hy:isLet y) (h:x≠y) (e:lw1 x≠lw1 y):(kSub x y t u 2).Ok2 w b1 b2 42:=by
 exact Con.of2b 0 hsSub1 [uS 2 (fSS "str.__eq__" (sg1 x) (sg1 y) false) [],uS 4 (fCase "str.lower" (sg1 x) (sg1 (lw1 x))) [],uS 6 (fCase "str.lower" (sg1 y) (sg1 (lw1 y))) [],uS 8 (fSS "str.__eq__" (sg1 (lw1 x)) (sg1 (lw1 y)) false) []] [] (fun N T sg _=>198)
  ⟨str_eq_ok (sg_ne h),fLow_ok (low_let hx).symm (sz1 _),fLow_ok (low_let hy).symm (sz1 _),str_eq_ok (sg_ne e),trivial⟩
noncomputable def subC (x y:Nat):Int:=if x=y then 0 else if lw1 x=lw1 y then 1 else 2
theorem kSub_ok (w:World) (b1 b2:Bool) (x y:Nat) (t u:Tok) (hx:isLet x) (hy:isLet y):(kSub x y t u (subC x y)).Ok2 w b1 b2 42:=by
 unfold subC
 by_cases h:x=y
 ·subst h; rw [if_pos rfl]; exact kSub_ok0 w b1 b2 x t u
 ·rw [if_neg h]
  by_cases e:lw1 x=lw1 y
  ·rw [if_pos e]; exact kSub_ok1 w b1 b2 x y t u hx hy h e
  ·rw [if_neg e]; exact kSub_ok2 w b1 b2 x y t u hx hy h e
noncomputable def fSub (x y:Nat) (r:Int):Fam:=fam1 fun c _=>kSub x y (argT c 0) (argT c 1) r
theorem fSub_ok {w:World} {b1 b2:Bool} {x y:Nat} {r:Int} (hx:isLet x) (hy:isLet y) (h:subC x y=r):(fSub x y r).Ok2 w b1 b2 42:=by subst h; exact fam1_ok fun _ _=>kSub_ok w b1 b2 x y _ _ hx hy
noncomputable def kMin2 (a b:Int) (t u:Tok) (r:Int):Con:=⟨.builtin "min" ⟨[.int a t,.int b u],[]⟩,[],fun _=>[],fun _=>[],fun xs=>.ok (.ret (.int r (xs 0)))⟩
noncomputable def kMax2 (a b:Int) (t u:Tok) (r:Int):Con:=⟨.builtin "max" ⟨[.int a t,.int b u],[]⟩,[],fun _=>[],fun _=>[],fun xs=>.ok (.ret (.int r (xs 0)))⟩
noncomputable def hsMinT:List Nat:=hD 38 0x18618a104084104106186184102104104186186104084104106102082
noncomputable def hsMinF:List Nat:=hD 35 0x6186284102104104184102104104186186104084104106102082
theorem kMin2_ok (w:World) (b1 b2:Bool) (a b:Int) (t u:Tok):(kMin2 a b t u (min a b)).Ok2 w b1 b2 42:=by
 by_cases h:b<a
 ·rw [show min a b=b by omega]
  exact Con.of2b 0 hsMinT [uS 9 (fII "int.__lt__" b a true) []] [] (fun _ _ _ _=>u) ⟨int_lt_ok (by simpa using h),trivial⟩
 ·rw [show min a b=a by omega]
  exact Con.of2b 0 hsMinF [uS 9 (fII "int.__lt__" b a false) []] [] (fun _ _ _ _=>t) ⟨int_lt_ok (by simpa using h),trivial⟩
theorem kMax2_ok (w:World) (b1 b2:Bool) (a b:Int) (t u:Tok):(kMax2 a b t u (max a b)).Ok2 w b1 b2 42:=by
 by_cases h:b > a
 ·rw [show max a b=b by omega]
  exact Con.of2b 0 hsMinT [uS 9 (fII "int.__gt__" b a true) []] [] (fun _ _ _ _=>u) ⟨int_gt_ok (by simpa using h),trivial⟩
 ·rw [show max a b=a by omega]
  exact Con.of2b 0 hsMinF [uS 9 (fII "int.__gt__" b a false) []] [] (fun _ _ _ _=>t) ⟨int_gt_ok (by simpa using h),trivial⟩
noncomputable def fMin2 (a b r:Int):Fam:=fam1 fun c _=>kMin2 a b (argT c 0) (argT c 1) r
noncomputable def fMax2 (a b r:Int):Fam:=fam1 fun c _=>kMax2 a b (argT c 0) (argT c 1) r
theorem fMin2_ok {w:World} {b1 b2:Bool} {a b r:Int} (h:min a b=r):(fMin2 a b r).Ok2 w b1 b2 42:=by subst h; exact fam1_ok fun _ _=>kMin2_ok w b1 b2 a b _ _
theorem fMax2_ok {w:World} {b1 b2:Bool} {a b r:Int} (h:max a b=r):(fMax2 a b r).Ok2 w b1 b2 42:=by subst h; exact fam1_ok fun _ _=>kMax2_ok w b1 b2 a b _ _
noncomputable def iL (ns:List Int) (f:Nat→Tok):List Value:=match ns with
 | []=>[]
 | n::ns=>.int n (f 0)::iL ns fun j=>f (j+1)
noncomputable def row0 (k:Int):Nat→List Int
 | 0=>[]
 | n+1=>k::row0 (k+2) n
noncomputable def rgO (a b s:Int) (t u v:Tok):Obj:={cls:=.type "range",data:=.fields ⟨[.int a t,.int b u,.int s v]⟩}
noncomputable def kListR (r:Addr) (e:Int) (t u v:Tok) (n:Nat):Con:=⟨.builtin "type.__call__" ⟨[.type "list",.ref r],[]⟩,[(r,rgO 2 e 2 t u v)],fun _=>[rgO 2 e 2 t u v],fun xs=>[(xs 0,lsO (iL (row0 2 n) fun j=>xs (j+1)) (n+2))],fun xs=>.ok (.ret (.ref (xs 0)))⟩
noncomputable def hsLR1:List Nat:=hD 49 0x8104104102082104104104104102082082081041041041101041041041042082082082080
noncomputable def hsLR2:List Nat:=hD 61 0x8104104102082104104104104102082104104104104102082082081041041041101041041041042082082082080
noncomputable def hsLR3:List Nat:=hD 73 0x8104104102082104104104104102082104104104104102082104104104104102082082081041041041101041041041042082082082080
noncomputable def hsLR4:List Nat:=hD 85 0x8104104102082104104104104102082104104104104102082104104104104102082104104104104102082082081041041041101041041041042082082082080
noncomputable def hsLR5:List Nat:=hD 97 0x8104104102082104104104104102082104104104104102082104104104104102082104104104104102082104104104104102082082081041041041101041041041042082082082080
noncomputable def hsLR6:List Nat:=hD 109 0x8104104102082104104104104102082104104104104102082104104104104102082104104104104102082104104104104102082104104104104102082082081041041041101041041041042082082082080
theorem kListR_ok (w:World) (b1 b2:Bool) (r:Addr) (e:Int) (t u v:Tok) (n:Nat) (h1:1≤n) (h6:n≤6) (he:e=2*(n:Int)+2):(kListR r e t u v n).Ok2 w b1 b2 42:=by
 have:n=1∨n=2∨n=3∨n=4∨n=5∨n=6:=by omega
 rcases this with rfl | rfl | rfl | rfl | rfl | rfl
 ·have he:e=4:=by rw [he]; rfl
  subst he
  exact Con.of2b 0 hsLR1 [] [3] (fun N T _ j=>match j with | 0=>N+213 | j+1=>T+2+j) trivial
 ·have he:e=6:=by rw [he]; rfl
  subst he
  exact Con.of2b 0 hsLR2 [] [3] (fun N T _ j=>match j with | 0=>N+213 | j+1=>T+2+j) trivial
 ·have he:e=8:=by rw [he]; rfl
  subst he
  exact Con.of2b 0 hsLR3 [] [3] (fun N T _ j=>match j with | 0=>N+213 | j+1=>T+2+j) trivial
 ·have he:e=10:=by rw [he]; rfl
  subst he
  exact Con.of2b 0 hsLR4 [] [3] (fun N T _ j=>match j with | 0=>N+213 | j+1=>T+2+j) trivial
 ·have he:e=12:=by rw [he]; rfl
  subst he
  exact Con.of2b 0 hsLR5 [] [3] (fun N T _ j=>match j with | 0=>N+213 | j+1=>T+2+j) trivial
 ·have he:e=14:=by rw [he]; rfl
  subst he
  exact Con.of2b 0 hsLR6 [] [3] (fun N T _ j=>match j with | 0=>N+213 | j+1=>T+2+j) trivial
end Mine
namespace Mine
noncomputable def lvO (P:Params):Stmt:=stN (stsOf P 35) 15
noncomputable def lvI (P:Params):Stmt:=stN (forBody (lvO P)) 3
noncomputable def lvEnv (P:Params) (L:Addr):Env:=envAt P 35 "_levenshtein_distance.<locals>." L []
structure LW where
 ya:Str
 ta:Tok
 vb:Value
 vm:Value
 vp:Value
 vq:Value
 vi:Value
 cb:Nat
 tcb:Tok
noncomputable def lvFr (P:Params) (kt:Nat→Tok) (v:LW) (R:Addr) (rs:Int) (trs:Tok) (ds:Int) (tds:Tok) (mn:Int) (tmn:Tok) (ix:Int) (tix:Tok) (sx:Int) (tsx:Tok) (dx:Int) (tdx:Tok) (fe:Nat):Obj :=
 {cls:=.type "frame",data:=.dict ⟨dE P kt 0 [("a",.str v.ya v.ta),("b",v.vb),("max_cost",v.vm),("pre",v.vp),("post",v.vq),("row",.ref R),("result",.int rs trs),("bindex",v.vi),("bchar",.str (sg1 v.cb) v.tcb),("distance",.int ds tds),("minimum",.int mn tmn),("index",.int ix tix),("substitute",.int sx tsx),("insert_delete",.int dx tdx)]⟩ fe}
noncomputable def lvFr0 (P:Params) (kt:Nat→Tok) (v:LW) (R:Addr) (rs:Int) (trs:Tok) (ds:Int) (tds:Tok) (mn:Int) (tmn:Tok) (fe:Nat):Obj :=
 {cls:=.type "frame",data:=.dict ⟨dE P kt 0 [("a",.str v.ya v.ta),("b",v.vb),("max_cost",v.vm),("pre",v.vp),("post",v.vq),("row",.ref R),("result",.int rs trs),("bindex",v.vi),("bchar",.str (sg1 v.cb) v.tcb),("distance",.int ds tds),("minimum",.int mn tmn)]⟩ fe}
structure LE where
 rs:Int
 ds:Int
 mn:Int
 ix:Int
 sx:Int
 dx:Int
 row:List Int
 k:Int
noncomputable def kIn (P:Params) (kt:Nat→Tok) (v:LW) (L R I:Addr) (rs:Int) (trs:Tok) (ds:Int) (tds:Tok) (mn:Int) (tmn:Tok) (ix:Int) (tix:Tok) (sx:Int) (tsx:Tok) (dx:Int) (tdx:Tok) (fe:Nat) (its:Array Value) (er:Nat) (k nl:Int) (e:LE):Con :=
 ⟨forCode (lvI P) (.ref I) (lvEnv P L),[(L,lvFr P kt v R rs trs ds tds mn tmn ix tix sx tsx dx tdx fe),(R,{cls:=.type "list",data:=.seq its er}),(I,rgIt k nl)],
  fun xs=>[lvFr P kt v R e.rs (xs 0) e.ds (xs 1) e.mn (xs 2) e.ix (xs 3) e.sx (xs 4) e.dx (xs 5) fe,lsO (iL e.row fun j=>xs (j+9)) er,rgIt e.k 0],fun _=>[],fun _=>.ok .next⟩
noncomputable def kIn0 (P:Params) (kt:Nat→Tok) (v:LW) (L R I:Addr) (rs:Int) (trs:Tok) (ds:Int) (tds:Tok) (mn:Int) (tmn:Tok) (fe:Nat) (its:Array Value) (er:Nat) (k nl:Int) (e:LE):Con :=
 ⟨forCode (lvI P) (.ref I) (lvEnv P L),[(L,lvFr0 P kt v R rs trs ds tds mn tmn fe),(R,{cls:=.type "list",data:=.seq its er}),(I,rgIt k nl)],
  fun xs=>[lvFr P (fun j=>match j with | 11=>xs 6 | 12=>xs 7 | 13=>xs 8 | j=>kt j) v R e.rs (xs 0) e.ds (xs 1) e.mn (xs 2) e.ix (xs 3) e.sx (xs 4) e.dx (xs 5) (fe+3),lsO (iL e.row fun j=>xs (j+9)) er,rgIt e.k 0],fun _=>[],fun _=>.ok .next⟩
noncomputable def fIn (P:Params) (v:LW) (rs ds mn ix sx dx:Int) (its:Tok→Array Value) (k nl:Int) (e:LE):Fam:=fam1 fun _ os =>
 kIn P (fun j=>tokV (keyN os 0 j)) v (adN os 0) (adN os 1) (adN os 2) rs (tokV (vN os 0 6)) ds (tokV (vN os 0 9)) mn (tokV (vN os 0 10)) ix (tokV (vN os 0 11)) sx (tokV (vN os 0 12)) dx (tokV (vN os 0 13)) (epN os 0) (its (tokV (vN os 0 6))) (epN os 1) k nl e
theorem kInE_ok (w:World) (b1 b2:Bool) (kt:Nat→Tok) (v:LW) (L R I:Addr) (rs:Int) (trs:Tok) (ds:Int) (tds:Tok) (mn:Int) (tmn:Tok) (ix:Int) (tix:Tok) (sx:Int) (tsx:Tok) (dx:Int) (tdx:Tok) (fe:Nat) (row:List Int) (f:Nat→Tok) (er:Nat) (k:Int) :
  (kIn (Pw w b1 b2) kt v L R I rs trs ds tds mn tmn ix tix sx tsx dx tdx fe ⟨iL row f⟩ er k 0 ⟨rs,ds,mn,ix,sx,dx,row,k⟩).Ok2 w b1 b2 84 :=
 Con.of2 42 [5,5,4] [uS 1 (fNextRE k 0 1) [5]] [] (fun _ _ _ j=>match j with | 0=>trs | 1=>tds | 2=>tmn | 3=>tix | 4=>tsx | 5=>tdx | 6=>0 | 7=>0 | 8=>0 | j+9=>f j) ⟨fNextRE_ok (Int.le_refl 0),trivial⟩
noncomputable def hsInT:List Nat:=hD 44 0x410410430c30410410410400010400410000410c30c3041041001041001041145
noncomputable def hsInF:List Nat:=hD 41 0x10430c30410410410400010400410000410c30c3041041001041001041145
theorem kInT_ok (w:World) (b1 b2:Bool) (kt:Nat→Tok) (v:LW) (L R I:Addr) (rs:Int) (trs:Tok) (ds:Int) (tds:Tok) (mn:Int) (tmn:Tok) (ix:Int) (tix:Tok) (sx:Int) (tsx:Tok) (dx:Int) (tdx:Tok) (fe:Nat) (its:Array Value) (er:Nat) (k nl:Int) (e:LE)
  (c:Nat) (co su dv:Int) (tdv:Tok) (m1 id r:Int) (j:Nat) (hnl:0<nl) (hk:k=j) (hj:j<its.size) (hz:its.size≤sizeLine) (hk2:k<2 ^ 62) (hc:(seqIndex? k v.ya.length).bind (v.ya.cps[·]?)=some (c+1)) (hcb:isLet v.cb) (hcl:isLet c) (hco:subC v.cb c=co) (hsu:ds+co=su) (hdv:its[j]?=some (.int dv tdv)) (hm1:min rs dv=m1) (hid:m1+2=id) (hr:min id su=r) (hlt:decide (r<mn)=true)
  (ih:(fIn (Pw w b1 b2) v r dv r k su id (fun t=>its.setIfInBounds j (.int r t)) (k+1) (nl-1) e).Ok2 w b1 b2 84) :
  (kIn (Pw w b1 b2) kt v L R I rs trs ds tds mn tmn ix tix sx tsx dx tdx fe its er k nl e).Ok2 w b1 b2 84:=by
 have hk0:-(2 ^ 62)≤k:=by omega
 exact Con.of2b 42 hsInT [uS 1 (fNextR k nl 1) [5],uS 3 (fStrAt v.ya k (c+1)) [],uS 4 (fSub v.cb c co) [],uS 6 (fIIi "int.__add__" ds co su) [],uS 8 (fGetI its k (.int dv tdv)) [3],uS 10 (fMin2 rs dv m1) [],uS 12 (fIIi "int.__add__" m1 2 id) [],uS 14 (fMin2 id su r) [],uS 16 (fSetI its k j) [3],uS 18 (fII "int.__lt__" r mn true) [],⟨19,fIn (Pw w b1 b2) v r dv r k su id (fun t=>its.setIfInBounds j (.int r t)) (k+1) (nl-1) e,[1,3,5],true⟩] [] (fun _ _ sg j=>sg 10 (j+2))
  ⟨fNextR_ok hnl,fStrAt_ok hk0 hk2 hc,fSub_ok hcb hcl hco,int_add_ok hsu,fGetI_ok j hk hdv hz,fMin2_ok hm1,int_add_ok hid,fMin2_ok hr,fSetI_ok hk hj hz,int_lt_ok hlt,ih,trivial⟩
theorem kInF_ok (w:World) (b1 b2:Bool) (kt:Nat→Tok) (v:LW) (L R I:Addr) (rs:Int) (trs:Tok) (ds:Int) (tds:Tok) (mn:Int) (tmn:Tok) (ix:Int) (tix:Tok) (sx:Int) (tsx:Tok) (dx:Int) (tdx:Tok) (fe:Nat) (its:Array Value) (er:Nat) (k nl:Int) (e:LE)
  (c:Nat) (co su dv:Int) (tdv:Tok) (m1 id r:Int) (j:Nat) (hnl:0<nl) (hk:k=j) (hj:j<its.size) (hz:its.size≤sizeLine) (hk2:k<2 ^ 62) (hc:(seqIndex? k v.ya.length).bind (v.ya.cps[·]?)=some (c+1)) (hcb:isLet v.cb) (hcl:isLet c) (hco:subC v.cb c=co) (hsu:ds+co=su) (hdv:its[j]?=some (.int dv tdv)) (hm1:min rs dv=m1) (hid:m1+2=id) (hr:min id su=r) (hlt:decide (r<mn)=false)
  (ih:(fIn (Pw w b1 b2) v r dv mn k su id (fun t=>its.setIfInBounds j (.int r t)) (k+1) (nl-1) e).Ok2 w b1 b2 84) :
  (kIn (Pw w b1 b2) kt v L R I rs trs ds tds mn tmn ix tix sx tsx dx tdx fe its er k nl e).Ok2 w b1 b2 84:=by
 have hk0:-(2 ^ 62)≤k:=by omega
 exact Con.of2b 42 hsInF [uS 1 (fNextR k nl 1) [5],uS 3 (fStrAt v.ya k (c+1)) [],uS 4 (fSub v.cb c co) [],uS 6 (fIIi "int.__add__" ds co su) [],uS 8 (fGetI its k (.int dv tdv)) [3],uS 10 (fMin2 rs dv m1) [],uS 12 (fIIi "int.__add__" m1 2 id) [],uS 14 (fMin2 id su r) [],uS 16 (fSetI its k j) [3],uS 18 (fII "int.__lt__" r mn false) [],⟨19,fIn (Pw w b1 b2) v r dv mn k su id (fun t=>its.setIfInBounds j (.int r t)) (k+1) (nl-1) e,[1,3,5],true⟩] [] (fun _ _ sg j=>sg 10 (j+2))
  ⟨fNextR_ok hnl,fStrAt_ok hk0 hk2 hc,fSub_ok hcb hcl hco,int_add_ok hsu,fGetI_ok j hk hdv hz,fMin2_ok hm1,int_add_ok hid,fMin2_ok hr,fSetI_ok hk hj hz,int_lt_ok hlt,ih,trivial⟩
theorem kIn0T_ok (w:World) (b1 b2:Bool) (kt:Nat→Tok) (v:LW) (L R I:Addr) (rs:Int) (trs:Tok) (ds:Int) (tds:Tok) (mn:Int) (tmn:Tok) (fe:Nat) (its:Array Value) (er:Nat) (k nl:Int) (e:LE)
  (c:Nat) (co su dv:Int) (tdv:Tok) (m1 id r:Int) (j:Nat) (hnl:0<nl) (hk:k=j) (hj:j<its.size) (hz:its.size≤sizeLine) (hk2:k<2 ^ 62) (hc:(seqIndex? k v.ya.length).bind (v.ya.cps[·]?)=some (c+1)) (hcb:isLet v.cb) (hcl:isLet c) (hco:subC v.cb c=co) (hsu:ds+co=su) (hdv:its[j]?=some (.int dv tdv)) (hm1:min rs dv=m1) (hid:m1+2=id) (hr:min id su=r) (hlt:decide (r<mn)=true)
  (ih:(fIn (Pw w b1 b2) v r dv r k su id (fun t=>its.setIfInBounds j (.int r t)) (k+1) (nl-1) e).Ok2 w b1 b2 84) :
  (kIn0 (Pw w b1 b2) kt v L R I rs trs ds tds mn tmn fe its er k nl e).Ok2 w b1 b2 84:=by
 have hk0:-(2 ^ 62)≤k:=by omega
 exact Con.of2b 42 hsInT [uS 1 (fNextR k nl 1) [5],uS 3 (fStrAt v.ya k (c+1)) [],uS 4 (fSub v.cb c co) [],uS 6 (fIIi "int.__add__" ds co su) [],uS 8 (fGetI its k (.int dv tdv)) [3],uS 10 (fMin2 rs dv m1) [],uS 12 (fIIi "int.__add__" m1 2 id) [],uS 14 (fMin2 id su r) [],uS 16 (fSetI its k j) [3],uS 18 (fII "int.__lt__" r mn true) [],⟨19,fIn (Pw w b1 b2) v r dv r k su id (fun t=>its.setIfInBounds j (.int r t)) (k+1) (nl-1) e,[1,3,5],true⟩] [] (fun _ _ sg j=>match j with | 6=>sg 0 1 | 7=>sg 3 1 | 8=>sg 6 1 | j=>sg 10 (j+2))
  ⟨fNextR_ok hnl,fStrAt_ok hk0 hk2 hc,fSub_ok hcb hcl hco,int_add_ok hsu,fGetI_ok j hk hdv hz,fMin2_ok hm1,int_add_ok hid,fMin2_ok hr,fSetI_ok hk hj hz,int_lt_ok hlt,ih,trivial⟩
end Mine
namespace Mine
noncomputable def fL (p i j:Nat):Int:=2*(max i j:Nat)-(min (min i j) p:Nat)
noncomputable def gL (p i j:Nat):Int:=match j with
 | 0=>2*i
 | j+1=>fL p (i+1) (j+1)
theorem gL0 (p i:Nat):gL p i 0=2*i:=rfl
theorem gLs (p i j:Nat):gL p i (j+1)=fL p (i+1) (j+1):=rfl
noncomputable def mu (p i:Nat):Int:=(min i p:Nat)
theorem mu0 (p:Nat):mu p 0=0:=by unfold mu; rw [Nat.zero_min]; rfl
theorem mu_lt {p i:Nat} (h:i<p):mu p (i+1)=mu p i+1:=by
 unfold mu; rw [Nat.min_eq_left h,Nat.min_eq_left (Nat.le_of_lt h)]; rfl
theorem mu_s (p i:Nat):mu p i≤mu p (i+1)∧mu p (i+1)≤mu p i+1:=by
 by_cases h:i<p
 ·rw [mu_lt h]; omega
 ·unfold mu; rw [Nat.min_eq_right (by omega),Nat.min_eq_right (by omega)]; omega
theorem fL_a {i j:Nat} (p:Nat) (h:i≤j):fL p i j=2*j-mu p i:=by unfold fL mu; rw [Nat.max_eq_right h,Nat.min_eq_left h]
theorem fL_b {i j:Nat} (p:Nat) (h:j≤i):fL p i j=2*i-mu p j:=by unfold fL mu; rw [Nat.max_eq_left h,Nat.min_eq_right h]
theorem least2 {a b d r:Int} (h1:r≤a+2) (h2:r≤b+2) (h3:r≤d) (h:r=a+2∨r=b+2∨r=d):min (min a b+2) d=r:=by
 rw [Int.min_def,Int.min_def]
 split<;>split<;>omega
theorem lev_step (p i j:Nat) (c:Int) (h:c=1∨c=2) (h1:c=1→i<p∧j<p) (h2:i=j→i<p→c=1) :
  min (min (gL p i j) (fL p i (j+1))+2) (fL p i j+c)=gL p i (j+1):=by
 have si:=mu_s p i
 have sj:=mu_s p j
 have di:2-c≤mu p (i+1)-mu p i:=by rcases h with rfl | rfl; (rw [mu_lt (h1 rfl).1]; omega); exact Int.sub_nonneg_of_le si.1
 have dj:2-c≤mu p (j+1)-mu p j:=by rcases h with rfl | rfl; (rw [mu_lt (h1 rfl).2]; omega); exact Int.sub_nonneg_of_le sj.1
 have de:i=j→mu p (i+1)-mu p i=2-c:=fun e=>by
  rcases h with rfl | rfl
  ·rw [mu_lt (h1 rfl).1]; omega
  ·have:¬ i<p:=fun q=>absurd (h2 e q) (by decide)
   unfold mu; rw [Nat.min_eq_right (by omega),Nat.min_eq_right (by omega)]; omega
 have hc:0≤c:=by rcases h with rfl | rfl<;>decide
 rw [gLs]
 clear h h1 h2
 by_cases hij:i≤j
 ·clear sj dj
  rw [fL_a p (by omega:i≤j+1),fL_a p hij,fL_a p (by omega:i+1≤j+1)]
  by_cases e:i=j
  ·have de:=de e
   subst e
   have hg:2*(i:Int)+2-mu p (i+1)≤gL p i i+2:=by
    cases i with
    | zero=>rw [gL0]; rw [mu0] at si; omega
    | succ j=>rw [gLs,fL_b p (Nat.le_succ _)]; omega
   generalize gL p i i=z at *
   exact least2 (by omega) (by omega) (by omega) (.inr (.inr (by omega)))
  ·obtain ⟨k,rfl⟩:∃ k,j=k+1:=⟨j-1,by omega⟩
   clear de
   rw [gLs,fL_a p (by omega)]
   exact least2 (by omega) (by omega) (by omega) (.inl (by omega))
 ·clear de di si
  rw [fL_b p (by omega),fL_b p (by omega:j≤i),fL_b p (by omega:j+1≤i+1)]
  have hg:2*(i:Int)-mu p (j+1)≤gL p i j:=by
   cases j with
   | zero=>rw [gL0]; rw [mu0] at sj; omega
   | succ j=>rw [gLs,fL_b p (by omega)]; omega
  generalize gL p i j=z at *
  exact least2 (by omega) (by omega) (by omega) (.inr (.inl (by omega)))
noncomputable def mL (p i:Nat):Nat→Int
 | 0=>9223372036854775807
 | j+1=>if gL p i (j+1)<mL p i j then gL p i (j+1) else mL p i j
theorem mL_le (p i:Nat):∀ (j t:Nat),1≤t→t≤j→mL p i j≤fL p (i+1) t
 | 0,t,h1,h2=>by omega
 | j+1,t,h1,h2=>by
  unfold mL
  rw [gLs]
  by_cases q:t=j+1
  ·subst q; split<;>omega
  ·have:=mL_le p i j t h1 (by omega)
   split<;>omega
theorem mL_end (p i n m:Nat) (hn:1≤n) (him:i<m) (hnm:n≤m):mL p i n≤fL p m n:=by
 rw [fL_b p hnm]
 by_cases h:i+1≤n
 ·have:=mL_le p i n (i+1) (by omega) h
  rw [fL_a p (Nat.le_refl _)] at this
  have z:mu p (n)≤mu p (i+1)+(n-(i+1)):=by unfold mu; omega
  omega
 ·have:=mL_le p i n n hn (Nat.le_refl _)
  rw [fL_b p (by omega)] at this
  omega
theorem fL_end (p n m:Nat) (hnm:n≤m):2*((m:Int)-n)≤fL p m n:=by rw [fL_b p hnm]; have:mu p n≤n:=Int.ofNat_le.mpr (Nat.min_le_left ..); omega
noncomputable def rowL (p i:Nat) (j:Nat):Nat→List Int
 | 0=>[]
 | n+1=>fL p i (j+1)::rowL p i (j+1) n
noncomputable def RowOk (p i j n:Nat) (its:Array Value):Prop:=its.size=n∧∀ t,t<n→∃ tok,its[t]?=some (.int (if t<j then fL p (i+1) (t+1) else fL p i (t+1)) tok)
theorem RowOk.set {p i j n:Nat} {its:Array Value} (h:RowOk p i j n its) (hj:j<n) (t:Tok):RowOk p i (j+1) n (its.setIfInBounds j (.int (gL p i (j+1)) t)):=by
 refine ⟨by rw [Array.size_setIfInBounds]; exact h.1,fun u hu=>?_⟩
 by_cases q:u=j
 ·subst q
  refine ⟨t,?_⟩
  rw [if_pos (Nat.lt_succ_self _),gLs]
  simp [h.1,hu]
 ·obtain ⟨tok,e⟩:=h.2 u hu
  refine ⟨tok,?_⟩
  rw [Array.getElem?_setIfInBounds_ne (fun e=>q e.symm),e]
  by_cases a:u<j
  ·rw [if_pos a,if_pos (by omega)]
  ·rw [if_neg a,if_neg (by omega)]
theorem iL_get:∀ (ns:List Int) (f:Nat→Tok) (t:Nat),(iL ns f)[t]?=ns[t]?.map fun n=>Value.int n (f t)
 | [],f,t=>by simp [iL]
 | n::ns,f,0=>by simp [iL]
 | n::ns,f,t+1=>by simp only [iL,List.getElem?_cons_succ]; exact iL_get ns _ t
theorem rowL_get:∀ (n p i j t:Nat),(rowL p i j n)[t]?=if t<n then some (fL p i (j+t+1)) else none
 | 0,p,i,j,t=>by simp [rowL]
 | n+1,p,i,j,0=>by simp [rowL]
 | n+1,p,i,j,t+1=>by
  rw [rowL,List.getElem?_cons_succ,rowL_get n]
  by_cases h:t<n
  ·rw [if_pos h,if_pos (by omega)]; congr 2; omega
  ·rw [if_neg h,if_neg (by omega)]
theorem RowOk.done {p i n:Nat} {its:Array Value} (h:RowOk p i n n its):∃ f,its=⟨iL (rowL p (i+1) 0 n) f⟩:=by
 refine ⟨fun t=>match its[t]? with | some v=>tokV v | none=>0,?_⟩
 apply Array.ext'
 apply List.ext_getElem?
 intro t
 rw [Array.getElem?_toList]
 show _=(iL (rowL p (i+1) 0 n) _)[t]?
 rw [iL_get,rowL_get]
 by_cases q:t<n
 ·obtain ⟨tok,e⟩:=h.2 t q
  rw [if_pos q] at e
  rw [e,if_pos q]
  simp only [Option.map_some,tokV,Nat.zero_add]
 ·rw [if_neg q]
  simp only [Option.map_none]
  exact Array.getElem?_eq_none (by rw [h.1]; omega)
theorem at_tx {la:List Nat} {k:Int} {j c:Nat} (hk:k=j) (h:la[j]?=some c):(seqIndex? k (tx la).length).bind ((tx la).cps[·]?)=some (c+1):=by
 have hj:j<la.length:=by
  have:=List.getElem?_eq_some_iff.mp h
  exact this.1
 have hl:(tx la).length=la.length:=by show (⟨la.map (·+1)⟩:Array Nat).size=_; simp
 subst hk
 rw [hl]
 have:seqIndex? (j:Int) la.length=some j:=by
  have h0:¬ ((j:Int)<0):=by omega
  unfold seqIndex?
  simp [h0,hj]
 rw [this]
 show (⟨la.map (·+1)⟩:Array Nat)[j]?=_
 simp [h]
end Mine
namespace Mine
noncomputable def CostOk (p i n:Nat) (cb:Nat) (la:List Nat):Prop:=∀ j,j<n→∃ c,la[j]?=some c∧isLet c∧(subC cb c=1∨subC cb c=2)∧(subC cb c=1→i<p∧j<p)∧(i=j→i<p→subC cb c=1)
noncomputable def InOk (w:World) (b1 b2:Bool) (ya:Str) (cb:Nat) (p i n j:Nat):Prop:=∀ (k nl:Int),k=j→nl=n-j→∀ ix sx dx,∃ ix' sx' dx' kn,∀ v:LW,v.ya=ya→v.cb=cb→∀ its:Tok→Array Value,(∀ t,RowOk p i j n (its t)) →
 (fIn (Pw w b1 b2) v (gL p i j) (fL p i j) (mL p i j) ix sx dx its k nl ⟨gL p i n,fL p i n,mL p i n,ix',sx',dx',rowL p (i+1) 0 n,kn⟩).Ok2 w b1 b2 84
theorem inEnd (w:World) (b1 b2:Bool) (ya:Str) (cb:Nat) (p i n:Nat):InOk w b1 b2 ya cb p i n n:=by
 intro k nl hk hnl ix sx dx
 refine ⟨ix,sx,dx,k,fun v _ _ its H=>fam1_ok fun _ os=>?_⟩
 obtain ⟨f,e⟩:=(H (tokV (vN os 0 6))).done
 have:nl=0:=by omega
 subst this
 rw [e]
 exact kInE_ok w b1 b2 _ v _ _ _ _ _ _ _ _ _ _ _ _ _ _ _ _ _ f _ k
theorem inStep (w:World) (b1 b2:Bool) (cb:Nat) (p i n j:Nat) (la:List Nat) (hn:la.length=n) (h40:n≤40) (hcb:isLet cb) (hc:CostOk p i n cb la) (hj:j<n) (ih:InOk w b1 b2 (tx la) cb p i n (j+1)):InOk w b1 b2 (tx la) cb p i n j:=by
 intro k nl hk hnl ix sx dx
 obtain ⟨c,e1,e2,e3,e4,e5⟩:=hc j hj
 have hs:=lev_step p i j (subC cb c) e3 e4 e5
 obtain ⟨ix',sx',dx',kn,H⟩:=ih (k+1) (nl-1) (by rw [hk]; rfl) (by omega) k (fL p i j+subC cb c) (min (gL p i j) (fL p i (j+1))+2)
 refine ⟨ix',sx',dx',kn,fun v hya hcv its hits=>fam1_ok fun _ os=>?_⟩
 subst hcv
 have R:=hits (tokV (vN os 0 6))
 obtain ⟨tdv,hdv⟩:=R.2 j hj
 rw [if_neg (Nat.lt_irrefl j)] at hdv
 have H':=H v hya rfl (fun t=>(its (tokV (vN os 0 6))).setIfInBounds j (.int (gL p i (j+1)) t)) (fun t=>R.set hj t)
 have hz:(its (tokV (vN os 0 6))).size≤sizeLine:=by rw [R.1,sizeLine_eq]; omega
 have hjs:j<(its (tokV (vN os 0 6))).size:=by rw [R.1]; exact hj
 have hat:=at_tx hk e1
 rw [← hya] at hat
 by_cases lt:gL p i (j+1)<mL p i j
 ·have em:mL p i (j+1)=gL p i (j+1):=by unfold mL; rw [if_pos lt]
  rw [em] at H'
  exact kInT_ok w b1 b2 _ v _ _ _ _ _ _ _ _ _ _ _ _ _ _ _ _ _ _ k nl _ c _ _ _ tdv _ _ _ j (by omega) hk hjs hz (by omega) hat hcb e2 rfl rfl hdv rfl rfl hs (decide_eq_true lt) H'
 ·have em:mL p i (j+1)=mL p i j:=by conv=>lhs; unfold mL; rw [if_neg lt]
  rw [em] at H'
  exact kInF_ok w b1 b2 _ v _ _ _ _ _ _ _ _ _ _ _ _ _ _ _ _ _ _ k nl _ c _ _ _ tdv _ _ _ j (by omega) hk hjs hz (by omega) hat hcb e2 rfl rfl hdv rfl rfl hs (decide_eq_false lt) H'
theorem inAll (w:World) (b1 b2:Bool) (cb:Nat) (p i n:Nat) (la:List Nat) (hn:la.length=n) (h40:n≤40) (hcb:isLet cb) (hc:CostOk p i n cb la):∀ d j,j+d=n→InOk w b1 b2 (tx la) cb p i n j
 | 0,j,h=>by
  have:j=n:=by omega
  subst this
  exact inEnd w b1 b2 (tx la) cb p i j
 | d+1,j,h=>inStep w b1 b2 cb p i n j la hn h40 hcb hc (by omega) (inAll w b1 b2 cb p i n la hn h40 hcb hc d (j+1) (by omega))
theorem in0 (w:World) (b1 b2:Bool) (cb:Nat) (p i n:Nat) (la:List Nat) (hn:la.length=n) (h40:n≤40) (hcb:isLet cb) (hc:CostOk p i n cb la) (h0:0<n) (nl:Int) (hnl:nl=n) (hg:gL p i 1<9223372036854775807) (g0:Int) (hg0:g0=2*i) :
  ∃ ix' sx' dx' kn,∀ v:LW,v.ya=tx la→v.cb=cb→∀ kt L R I trs tds tmn fe its er,RowOk p i 0 n its→(kIn0 (Pw w b1 b2) kt v L R I g0 trs g0 tds 9223372036854775807 tmn fe its er 0 nl ⟨gL p i n,fL p i n,mL p i n,ix',sx',dx',rowL p (i+1) 0 n,kn⟩).Ok2 w b1 b2 84:=by
 subst hg0
 obtain ⟨c,e1,e2,e3,e4,e5⟩:=hc 0 h0
 have hs:=lev_step p i 0 (subC cb c) e3 e4 e5
 have hf0:fL p i 0=2*i:=by unfold fL; simp
 obtain ⟨ix',sx',dx',kn,H⟩:=inAll w b1 b2 cb p i n la hn h40 hcb hc (n-1) 1 (by omega) (0+1) (nl-1) rfl (by omega) 0 (fL p i 0+subC cb c) (min (gL p i 0) (fL p i (0+1))+2)
 refine ⟨ix',sx',dx',kn,fun v hya hcv kt L R I trs tds tmn fe its er hits=>?_⟩
 subst hcv
 obtain ⟨tdv,hdv⟩:=hits.2 0 h0
 rw [if_neg (Nat.lt_irrefl 0)] at hdv
 have H':=H v hya rfl (fun t=>its.setIfInBounds 0 (.int (gL p i (0+1)) t)) (fun t=>hits.set h0 t)
 have hz:its.size≤sizeLine:=by rw [hits.1,sizeLine_eq]; omega
 have hjs:0<its.size:=by rw [hits.1]; exact h0
 have hat:=at_tx (k:=0) (j:=0) rfl e1
 rw [← hya] at hat
 have em:mL p i (0+1)=gL p i (0+1):=by unfold mL; rw [show mL p i 0=9223372036854775807 from rfl,if_pos hg]
 rw [em] at H'
 exact kIn0T_ok w b1 b2 kt v L R I _ _ _ _ _ _ _ its er 0 nl _ c _ _ _ tdv _ _ _ 0 (by omega) rfl hjs hz (by omega) hat hcb e2 rfl (by rw [hf0]) hdv rfl rfl (by rw [← hs,gL0]) (decide_eq_true hg) H'
noncomputable def fInV (P:Params) (v:List (Addr×Obj)→LW) (rs ds mn ix sx dx:Int) (its:Array Value) (nl:Int) (e:LE):Fam:=fam1 fun _ os =>
 kIn P (fun j=>tokV (keyN os 0 j)) (v os) (adN os 0) (adN os 1) (adN os 2) rs (tokV (vN os 0 6)) ds (tokV (vN os 0 9)) mn (tokV (vN os 0 10)) ix (tokV (vN os 0 11)) sx (tokV (vN os 0 12)) dx (tokV (vN os 0 13)) (epN os 0) its (epN os 1) 0 nl e
noncomputable def fIn0V (P:Params) (v:List (Addr×Obj)→LW) (rs ds mn:Int) (its:Array Value) (nl:Int) (e:LE):Fam:=fam1 fun _ os =>
 kIn0 P (fun j=>tokV (keyN os 0 j)) (v os) (adN os 0) (adN os 1) (adN os 2) rs (tokV (vN os 0 6)) ds (tokV (vN os 0 9)) mn (tokV (vN os 0 10)) (epN os 0) its (epN os 1) 0 nl e
noncomputable def endIn (p i n:Nat) (ix sx dx kn:Int):LE:=⟨gL p i n,fL p i n,mL p i n,ix,sx,dx,rowL p (i+1) 0 n,kn⟩
theorem inV (w:World) (b1 b2:Bool) (cb:Nat) (p i n:Nat) (la:List Nat) (hn:la.length=n) (h40:n≤40) (hcb:isLet cb) (hc:CostOk p i n cb la) (nl:Int) (hnl:nl=n) (g0:Int) (hg0:g0=2*i) (ix sx dx:Int) :
  ∃ ix' sx' dx' kn,∀ v:List (Addr×Obj)→LW,(∀ os,(v os).ya=tx la)→(∀ os,(v os).cb=cb)→∀ its,RowOk p i 0 n its→(fInV (Pw w b1 b2) v g0 g0 9223372036854775807 ix sx dx its nl (endIn p i n ix' sx' dx' kn)).Ok2 w b1 b2 84:=by
 subst hg0
 obtain ⟨ix',sx',dx',kn,H⟩:=inAll w b1 b2 cb p i n la hn h40 hcb hc n 0 (by omega) 0 nl rfl (by omega) ix sx dx
 refine ⟨ix',sx',dx',kn,fun v hya hcb its hits=>fam1_ok fun c os=>?_⟩
 have hf0:fL p i 0=2*i:=by unfold fL; simp
 have z:=H (v os) (hya os) (hcb os) (fun _=>its) (fun _=>hits)
 rw [hf0,gL0] at z
 exact z c os [] _ _ rfl
theorem in0V (w:World) (b1 b2:Bool) (cb:Nat) (p i n:Nat) (la:List Nat) (hn:la.length=n) (h40:n≤40) (hcb:isLet cb) (hc:CostOk p i n cb la) (h0:0<n) (nl:Int) (hnl:nl=n) (hg:gL p i 1<9223372036854775807) (g0:Int) (hg0:g0=2*i) :
  ∃ ix' sx' dx' kn,∀ v:List (Addr×Obj)→LW,(∀ os,(v os).ya=tx la)→(∀ os,(v os).cb=cb)→∀ its,RowOk p i 0 n its→(fIn0V (Pw w b1 b2) v g0 g0 9223372036854775807 its nl (endIn p i n ix' sx' dx' kn)).Ok2 w b1 b2 84:=by
 obtain ⟨ix',sx',dx',kn,H⟩:=in0 w b1 b2 cb p i n la hn h40 hcb hc h0 nl hnl hg g0 hg0
 exact ⟨ix',sx',dx',kn,fun v hya hcb its hits=>fam1_ok fun c os=>H (v os) (hya os) (hcb os) _ _ _ _ _ _ _ _ its _ hits⟩
end Mine
namespace Mine
structure OW where
 ya:Str
 ta:Tok
 yb:Str
 tb:Tok
 bd:Int
 tbd:Tok
 vp:Value
 vq:Value
structure OE where
 rs:Int
 ds:Int
 mn:Int
 ix:Int
 sx:Int
 dx:Int
 row:List Int
 bi:Int
 cb:Nat
 k:Int
 nl:Int
 early:Bool
noncomputable def OW.lw (o:OW) (bi:Int) (tbi:Tok) (cb:Nat) (tcb:Tok):LW:=⟨o.ya,o.ta,.str o.yb o.tb,.int o.bd o.tbd,o.vp,o.vq,.int bi tbi,cb,tcb⟩
noncomputable def resO (e:OE) (bd:Int) (t:Tok):Result:=match e.early with
 | true=>.ok (.ret (.int (bd+1) t))
 | false=>.ok .next
noncomputable def kOut (P:Params) (kt:Nat→Tok) (o:OW) (L R J:Addr) (rs:Int) (trs:Tok) (bi:Int) (tbi:Tok) (cb:Nat) (tcb:Tok) (ds:Int) (tds:Tok) (mn:Int) (tmn:Tok) (ix:Int) (tix:Tok) (sx:Int) (tsx:Tok) (dx:Int) (tdx:Tok) (fe:Nat) (its:Array Value) (er:Nat) (k nl:Int) (e:OE):Con :=
 ⟨forCode (lvO P) (.ref J) (lvEnv P L),[(L,lvFr P kt (o.lw bi tbi cb tcb) R rs trs ds tds mn tmn ix tix sx tsx dx tdx fe),(R,{cls:=.type "list",data:=.seq its er}),(J,rgIt k nl)],
  fun xs=>[lvFr P kt (o.lw e.bi (xs 6) e.cb (xs 7)) R e.rs (xs 0) e.ds (xs 1) e.mn (xs 2) e.ix (xs 3) e.sx (xs 4) e.dx (xs 5) fe,lsO (iL e.row fun j=>xs (j+16)) er,rgIt e.k e.nl],fun _=>[],fun xs=>resO e o.bd (xs 8)⟩
noncomputable def lvFr00 (P:Params) (kt:Nat→Tok) (o:OW) (R:Addr) (rs:Int) (trs:Tok) (fe:Nat):Obj :=
 {cls:=.type "frame",data:=.dict ⟨dE P kt 0 [("a",.str o.ya o.ta),("b",.str o.yb o.tb),("max_cost",.int o.bd o.tbd),("pre",o.vp),("post",o.vq),("row",.ref R),("result",.int rs trs)]⟩ fe}
noncomputable def ktO (kt xs:Nat→Tok) (j:Nat):Tok:=match j with | 7=>xs 9 | 8=>xs 10 | 9=>xs 11 | 10=>xs 12 | 11=>xs 13 | 12=>xs 14 | 13=>xs 15 | j=>kt j
noncomputable def kOut0 (P:Params) (kt:Nat→Tok) (o:OW) (L R J:Addr) (rs:Int) (trs:Tok) (fe:Nat) (its:Array Value) (er:Nat) (k nl:Int) (e:OE):Con :=
 ⟨forCode (lvO P) (.ref J) (lvEnv P L),[(L,lvFr00 P kt o R rs trs fe),(R,{cls:=.type "list",data:=.seq its er}),(J,rgIt k nl)],
  fun xs=>[lvFr P (ktO kt xs) (o.lw e.bi (xs 6) e.cb (xs 7)) R e.rs (xs 0) e.ds (xs 1) e.mn (xs 2) e.ix (xs 3) e.sx (xs 4) e.dx (xs 5) (fe+7),lsO (iL e.row fun j=>xs (j+16)) er,rgIt e.k e.nl],fun _=>[],fun xs=>resO e o.bd (xs 8)⟩
noncomputable def fOut (P:Params) (o:OW) (rs bi:Int) (cb:Nat) (ds mn ix sx dx:Int) (its:List (Nat→Nat)→Array Value) (k nl:Int) (e:OE):Fam:=fam2 fun _ os px =>
 kOut P (fun j=>tokV (keyN os 0 j)) o (adN os 0) (adN os 1) (adN os 2) rs (tokV (vN os 0 6)) bi (tokV (vN os 0 7)) cb (tokV (vN os 0 8)) ds (tokV (vN os 0 9)) mn (tokV (vN os 0 10)) ix (tokV (vN os 0 11)) sx (tokV (vN os 0 12)) dx (tokV (vN os 0 13)) (epN os 0) (its px) (epN os 1) k nl e
noncomputable def OW.lv (o:OW) (k:Int) (c:Nat) (os:List (Addr×Obj)):LW:=o.lw k (tokV (vN os 0 7)) c (tokV (vN os 0 8))
noncomputable def rowX (e:LE) (px:List (Nat→Nat)):Array Value:=⟨iL e.row fun j=>pxN px 1 (j+9)⟩
noncomputable def endX (bd:Int) (e:LE) (k nl:Int) (c:Nat):OE:=⟨e.rs,e.ds,e.mn,e.ix,e.sx,e.dx,e.row,k,c,k+1,nl-1,true⟩
theorem kOutE_ok (w:World) (b1 b2:Bool) (kt:Nat→Tok) (o:OW) (L R J:Addr) (rs:Int) (trs:Tok) (bi:Int) (tbi:Tok) (cb:Nat) (tcb:Tok) (ds:Int) (tds:Tok) (mn:Int) (tmn:Tok) (ix:Int) (tix:Tok) (sx:Int) (tsx:Tok) (dx:Int) (tdx:Tok) (fe:Nat) (row:List Int) (f:Nat→Tok) (er:Nat) (k:Int) :
  (kOut (Pw w b1 b2) kt o L R J rs trs bi tbi cb tcb ds tds mn tmn ix tix sx tsx dx tdx fe ⟨iL row f⟩ er k 0 ⟨rs,ds,mn,ix,sx,dx,row,bi,cb,k,0,false⟩).Ok2 w b1 b2 126 :=
 Con.of2 84 [5,5,4] [uS 1 (fNextRE k 0 1) [5]] [] (fun _ _ _ j=>match j with | 0=>trs | 1=>tds | 2=>tmn | 3=>tix | 4=>tsx | 5=>tdx | 6=>tbi | 7=>tcb | 8=>0 | 9=>0 | 10=>0 | 11=>0 | 12=>0 | 13=>0 | 14=>0 | 15=>0 | j+16=>f j) ⟨fNextRE_ok (Int.le_refl 0),trivial⟩
noncomputable def hsOt:List Nat:=hD 31 0x1044082082082081000000041041041001041041041145
noncomputable def hsOx:List Nat:=hD 32 0x41044082082082081000000041041041001041041041145
theorem kOutT_ok (w:World) (b1 b2:Bool) (kt:Nat→Tok) (o:OW) (L R J:Addr) (rs:Int) (trs:Tok) (bi:Int) (tbi:Tok) (cb:Nat) (tcb:Tok) (ds:Int) (tds:Tok) (mn:Int) (tmn:Tok) (ix:Int) (tix:Tok) (sx:Int) (tsx:Tok) (dx:Int) (tdx:Tok) (fe:Nat) (its:Array Value) (er:Nat) (k nl:Int) (e:LE) (E:OE) (c nn:Nat) (nI g0:Int) (hnl:0<nl) (hk0:0≤k) (hk9:k≤1000) (hc:(seqIndex? k o.yb.length).bind (o.yb.cps[·]?)=some (c+1)) (hg:k*2=g0) (hn:o.ya.length=nn) (hnI:nI=nn) (h40:nn≤40)
  (hin:(fInV (Pw w b1 b2) (o.lv k c) g0 g0 9223372036854775807 ix sx dx its (nn:Nat) e).Ok2 w b1 b2 84) (hgt:decide (e.mn > o.bd)=false)
  (ih:(fOut (Pw w b1 b2) o e.rs k c e.ds e.mn e.ix e.sx e.dx (rowX e) (k+1) (nl-1) E).Ok2 w b1 b2 126)
  : (kOut (Pw w b1 b2) kt o L R J rs trs bi tbi cb tcb ds tds mn tmn ix tix sx tsx dx tdx fe its er k nl E).Ok2 w b1 b2 126:=by
 have hl:o.ya.length≤sizeLine:=by rw [hn,sizeLine_eq]; omega
 have hln:nI=o.ya.length:=by rw [hn]; exact hnI
 exact Con.of2b 84 hsOt [uS 1 (fNextR k nl 1) [5],uS 3 (fStrAt o.yb k (c+1)) [],uS 5 (fIIi "int.__mul__" k 2 g0) [],uS 7 (fLenS o.ya nI) [],uS 15 (fRangeI 0 nI nn) [2],uS 16 (fInV (Pw w b1 b2) (o.lv k c) g0 g0 9223372036854775807 ix sx dx its (nn:Nat) e) [1,3,4],uS 18 (fII "int.__gt__" e.mn o.bd false) [],⟨19,fOut (Pw w b1 b2) o e.rs k c e.ds e.mn e.ix e.sx e.dx (rowX e) (k+1) (nl-1) E,[1,3,5],true⟩] [] (fun _ _ sg j=>sg 7 (j+2))
  ⟨fNextR_ok hnl,fStrAt_ok (by omega) (by omega) hc,int_mul_ok (by omega) (by omega) hg,fLenS_ok hln hl,fRangeI_ok (by omega) (.inl (by omega)) (by omega) (by omega) (by omega),hin,int_gt_ok hgt,ih,trivial⟩
theorem kOutX_ok (w:World) (b1 b2:Bool) (kt:Nat→Tok) (o:OW) (L R J:Addr) (rs:Int) (trs:Tok) (bi:Int) (tbi:Tok) (cb:Nat) (tcb:Tok) (ds:Int) (tds:Tok) (mn:Int) (tmn:Tok) (ix:Int) (tix:Tok) (sx:Int) (tsx:Tok) (dx:Int) (tdx:Tok) (fe:Nat) (its:Array Value) (er:Nat) (k nl:Int) (e:LE) (E:OE) (c nn:Nat) (nI g0:Int) (hnl:0<nl) (hk0:0≤k) (hk9:k≤1000) (hc:(seqIndex? k o.yb.length).bind (o.yb.cps[·]?)=some (c+1)) (hg:k*2=g0) (hn:o.ya.length=nn) (hnI:nI=nn) (h40:nn≤40)
  (hin:(fInV (Pw w b1 b2) (o.lv k c) g0 g0 9223372036854775807 ix sx dx its (nn:Nat) e).Ok2 w b1 b2 84) (hgt:decide (e.mn > o.bd)=true)
  : (kOut (Pw w b1 b2) kt o L R J rs trs bi tbi cb tcb ds tds mn tmn ix tix sx tsx dx tdx fe its er k nl (endX o.bd e k nl c)).Ok2 w b1 b2 126:=by
 have hl:o.ya.length≤sizeLine:=by rw [hn,sizeLine_eq]; omega
 have hln:nI=o.ya.length:=by rw [hn]; exact hnI
 exact Con.of2b 84 hsOx [uS 1 (fNextR k nl 1) [5],uS 3 (fStrAt o.yb k (c+1)) [],uS 5 (fIIi "int.__mul__" k 2 g0) [],uS 7 (fLenS o.ya nI) [],uS 15 (fRangeI 0 nI nn) [2],uS 16 (fInV (Pw w b1 b2) (o.lv k c) g0 g0 9223372036854775807 ix sx dx its (nn:Nat) e) [1,3,4],uS 18 (fII "int.__gt__" e.mn o.bd true) [],uS 20 (fIIi "int.__add__" o.bd 1 (o.bd+1)) []] [] (fun _ _ sg j=>match j with | 6=>sg 0 2 | 7=>sg 1 2 | 8=>sg 7 2 | 9=>0 | 10=>0 | 11=>0 | 12=>0 | 13=>0 | 14=>0 | 15=>0 | 0=>sg 5 2 | 1=>sg 5 3 | 2=>sg 5 4 | 3=>sg 5 5 | 4=>sg 5 6 | 5=>sg 5 7 | j+16=>sg 5 (j+11))
  ⟨fNextR_ok hnl,fStrAt_ok (by omega) (by omega) hc,int_mul_ok (by omega) (by omega) hg,fLenS_ok hln hl,fRangeI_ok (by omega) (.inl (by omega)) (by omega) (by omega) (by omega),hin,int_gt_ok hgt,int_add_ok rfl,trivial⟩
theorem kOut0T_ok (w:World) (b1 b2:Bool) (kt:Nat→Tok) (o:OW) (L R J:Addr) (rs:Int) (trs:Tok) (fe:Nat) (its:Array Value) (er:Nat) (k nl:Int) (e:LE) (E:OE) (c nn:Nat) (nI g0:Int) (hnl:0<nl) (hk0:0≤k) (hk9:k≤1000) (hc:(seqIndex? k o.yb.length).bind (o.yb.cps[·]?)=some (c+1)) (hg:k*2=g0) (hn:o.ya.length=nn) (hnI:nI=nn) (h40:nn≤40)
  (hin:(fIn0V (Pw w b1 b2) (o.lv k c) g0 g0 9223372036854775807 its (nn:Nat) e).Ok2 w b1 b2 84) (hgt:decide (e.mn > o.bd)=false)
  (ih:(fOut (Pw w b1 b2) o e.rs k c e.ds e.mn e.ix e.sx e.dx (rowX e) (k+1) (nl-1) E).Ok2 w b1 b2 126)
  : (kOut0 (Pw w b1 b2) kt o L R J rs trs fe its er k nl E).Ok2 w b1 b2 126:=by
 have hl:o.ya.length≤sizeLine:=by rw [hn,sizeLine_eq]; omega
 have hln:nI=o.ya.length:=by rw [hn]; exact hnI
 exact Con.of2b 84 hsOt [uS 1 (fNextR k nl 1) [5],uS 3 (fStrAt o.yb k (c+1)) [],uS 5 (fIIi "int.__mul__" k 2 g0) [],uS 7 (fLenS o.ya nI) [],uS 15 (fRangeI 0 nI nn) [2],uS 16 (fIn0V (Pw w b1 b2) (o.lv k c) g0 g0 9223372036854775807 its (nn:Nat) e) [1,3,4],uS 18 (fII "int.__gt__" e.mn o.bd false) [],⟨19,fOut (Pw w b1 b2) o e.rs k c e.ds e.mn e.ix e.sx e.dx (rowX e) (k+1) (nl-1) E,[1,3,5],true⟩] [] (fun _ _ sg j=>match j with | 9=>sg 0 1 | 10=>sg 1 1 | 11=>sg 2 1 | 12=>sg 2 1+3 | 13=>sg 5 8 | 14=>sg 5 9 | 15=>sg 5 10 | j=>sg 7 (j+2))
  ⟨fNextR_ok hnl,fStrAt_ok (by omega) (by omega) hc,int_mul_ok (by omega) (by omega) hg,fLenS_ok hln hl,fRangeI_ok (by omega) (.inl (by omega)) (by omega) (by omega) (by omega),hin,int_gt_ok hgt,ih,trivial⟩
theorem kOut0X_ok (w:World) (b1 b2:Bool) (kt:Nat→Tok) (o:OW) (L R J:Addr) (rs:Int) (trs:Tok) (fe:Nat) (its:Array Value) (er:Nat) (k nl:Int) (e:LE) (E:OE) (c nn:Nat) (nI g0:Int) (hnl:0<nl) (hk0:0≤k) (hk9:k≤1000) (hc:(seqIndex? k o.yb.length).bind (o.yb.cps[·]?)=some (c+1)) (hg:k*2=g0) (hn:o.ya.length=nn) (hnI:nI=nn) (h40:nn≤40)
  (hin:(fIn0V (Pw w b1 b2) (o.lv k c) g0 g0 9223372036854775807 its (nn:Nat) e).Ok2 w b1 b2 84) (hgt:decide (e.mn > o.bd)=true)
  : (kOut0 (Pw w b1 b2) kt o L R J rs trs fe its er k nl (endX o.bd e k nl c)).Ok2 w b1 b2 126:=by
 have hl:o.ya.length≤sizeLine:=by rw [hn,sizeLine_eq]; omega
 have hln:nI=o.ya.length:=by rw [hn]; exact hnI
 exact Con.of2b 84 hsOx [uS 1 (fNextR k nl 1) [5],uS 3 (fStrAt o.yb k (c+1)) [],uS 5 (fIIi "int.__mul__" k 2 g0) [],uS 7 (fLenS o.ya nI) [],uS 15 (fRangeI 0 nI nn) [2],uS 16 (fIn0V (Pw w b1 b2) (o.lv k c) g0 g0 9223372036854775807 its (nn:Nat) e) [1,3,4],uS 18 (fII "int.__gt__" e.mn o.bd true) [],uS 20 (fIIi "int.__add__" o.bd 1 (o.bd+1)) []] [] (fun _ _ sg j=>match j with | 6=>sg 0 2 | 7=>sg 1 2 | 8=>sg 7 2 | 9=>sg 0 1 | 10=>sg 1 1 | 11=>sg 2 1 | 12=>sg 2 1+3 | 13=>sg 5 8 | 14=>sg 5 9 | 15=>sg 5 10 | 0=>sg 5 2 | 1=>sg 5 3 | 2=>sg 5 4 | 3=>sg 5 5 | 4=>sg 5 6 | 5=>sg 5 7 | j+16=>sg 5 (j+11))
  ⟨fNextR_ok hnl,fStrAt_ok (by omega) (by omega) hc,int_mul_ok (by omega) (by omega) hg,fLenS_ok hln hl,fRangeI_ok (by omega) (.inl (by omega)) (by omega) (by omega) (by omega),hin,int_gt_ok hgt,int_add_ok rfl,trivial⟩
end Mine
namespace Mine
theorem RowOk.start {p i n:Nat} {its:Array Value} (h:RowOk p i 0 n its):∃ f,its=⟨iL (rowL p i 0 n) f⟩:=by
 refine ⟨fun t=>match its[t]? with | some v=>tokV v | none=>0,?_⟩
 apply Array.ext'
 apply List.ext_getElem?
 intro t
 rw [Array.getElem?_toList]
 show _=(iL (rowL p i 0 n) _)[t]?
 rw [iL_get,rowL_get]
 by_cases q:t<n
 ·obtain ⟨tok,e⟩:=h.2 t q
  rw [if_neg (Nat.not_lt_zero t)] at e
  rw [e,if_pos q]
  simp only [Option.map_some,tokV,Nat.zero_add]
 ·rw [if_neg q]
  simp only [Option.map_none]
  exact Array.getElem?_eq_none (by rw [h.1]; omega)
theorem iL_length:∀ (ns:List Int) (f:Nat→Tok),(iL ns f).length=ns.length
 | [],_=>rfl
 | n::ns,f=>by rw [iL,List.length_cons,iL_length ns,List.length_cons]
theorem rowL_length:∀ (n p i j:Nat),(rowL p i j n).length=n
 | 0,_,_,_=>rfl
 | n+1,p,i,j=>by rw [rowL,List.length_cons,rowL_length n]
theorem RowOk.of_iL (p i n:Nat) (f:Nat→Tok):RowOk p i 0 n ⟨iL (rowL p i 0 n) f⟩:=by
 refine ⟨by show (iL _ _).length=n; rw [iL_length,rowL_length],fun t ht=>⟨f t,?_⟩⟩
 rw [← Array.getElem?_toList]
 dsimp only
 rw [iL_get,rowL_get,if_pos ht,if_neg (Nat.not_lt_zero t),Nat.zero_add]
 rfl
noncomputable def GoodE (bd:Int) (p n m:Nat) (E:OE):Prop:=(E.early=false∧E.rs=fL p m n)∨(E.early=true∧bd<fL p m n)
noncomputable def OutOk (w:World) (b1 b2:Bool) (ya yb:Str) (bd:Int) (p n m i:Nat):Prop:=∀ (k nl:Int),k=i→nl=m-i→∀ bi cb ds mn ix sx dx,∃ E,GoodE bd p n m E∧∀ o:OW,o.ya=ya→o.yb=yb→o.bd=bd→∀ its:List (Nat→Nat)→Array Value,(∀ px,RowOk p i 0 n (its px)) →
 (fOut (Pw w b1 b2) o (fL p i n) bi cb ds mn ix sx dx its k nl E).Ok2 w b1 b2 126
theorem outEnd (w:World) (b1 b2:Bool) (ya yb:Str) (bd:Int) (p n m:Nat):OutOk w b1 b2 ya yb bd p n m m:=by
 intro k nl hk hnl bi cb ds mn ix sx dx
 refine ⟨⟨fL p m n,ds,mn,ix,sx,dx,rowL p m 0 n,bi,cb,k,0,false⟩,.inl ⟨rfl,rfl⟩,fun o _ _ _ its H=>fam2_ok fun _ os px=>?_⟩
 obtain ⟨f,e⟩:=(H px).start
 have:nl=0:=by omega
 subst this
 rw [e]
 exact kOutE_ok w b1 b2 _ o _ _ _ _ _ _ _ _ _ _ _ _ _ _ _ _ _ _ _ _ _ f _ k
theorem gL_pos {p i n:Nat} (h:0<n):gL p i n=fL p (i+1) n:=by
 cases n with
 | zero=>exact absurd h (Nat.lt_irrefl 0)
 | succ n=>rfl
theorem outStep (w:World) (b1 b2:Bool) (bd:Int) (p n m i:Nat) (la lb:List Nat) (hn:la.length=n) (hm:lb.length=m) (h0:0<n) (hnm:n≤m) (h40:m≤40) (hlb:∀ c∈lb,isLet c) (hc:∀ i c,lb[i]?=some c→CostOk p i n c la) (hi:i<m) (ih:OutOk w b1 b2 (tx la) (tx lb) bd p n m (i+1)):OutOk w b1 b2 (tx la) (tx lb) bd p n m i:=by
 intro k nl hk hnl bi cb ds mn ix sx dx
 obtain ⟨c,ec⟩:∃ c,lb[i]?=some c:=⟨lb[i]'(by rw [hm]; exact hi),List.getElem?_eq_getElem _⟩
 have hcl:isLet c:=hlb c (List.mem_of_getElem? ec)
 have hat:=at_tx hk ec
 obtain ⟨ix',sx',dx',kn,H⟩:=inV w b1 b2 c p i n la hn (by omega) hcl (hc i c ec) (n:Nat) rfl (k*2) (by omega) ix sx dx
 by_cases g:mL p i n > bd
 ·refine ⟨endX bd (endIn p i n ix' sx' dx' kn) k nl c,.inr ⟨rfl,?_⟩,fun o hya hyb hbd its Hi=>fam2_ok fun _ os px=>?_⟩
  ·have:=mL_end p i n m h0 hi hnm
   omega
  ·subst hbd
   have hat:=hat
   rw [← hyb] at hat
   have hnn:o.ya.length=n:=by rw [hya,← hn]; show (⟨la.map (·+1)⟩:Array Nat).size=_; simp
   exact kOutX_ok w b1 b2 _ o _ _ _ _ _ _ _ _ _ _ _ _ _ _ _ _ _ _ _ _ _ _ k nl (endIn p i n ix' sx' dx' kn) (endX o.bd (endIn p i n ix' sx' dx' kn) k nl c) c n n (k*2) (by omega) (by omega) (by omega) hat rfl hnn rfl (by omega) (H (o.lv k c) (fun _=>hya) (fun _=>rfl) (its px) (Hi px)) (decide_eq_true g)
 ·obtain ⟨E,gE,HE⟩:=ih (k+1) (nl-1) (by omega) (by omega) k c (fL p i n) (mL p i n) ix' sx' dx'
  refine ⟨E,gE,fun o hya hyb hbd its Hi=>fam2_ok fun _ os px=>?_⟩
  subst hbd
  have hat:=hat
  rw [← hyb] at hat
  have hnn:o.ya.length=n:=by rw [hya,← hn]; show (⟨la.map (·+1)⟩:Array Nat).size=_; simp
  have HE':=HE o hya hyb rfl (rowX (endIn p i n ix' sx' dx' kn)) (fun px=>RowOk.of_iL p (i+1) n _)
  rw [← gL_pos h0] at HE'
  exact kOutT_ok w b1 b2 _ o _ _ _ _ _ _ _ _ _ _ _ _ _ _ _ _ _ _ _ _ _ _ k nl (endIn p i n ix' sx' dx' kn) E c n n (k*2) (by omega) (by omega) (by omega) hat rfl hnn rfl (by omega) (H (o.lv k c) (fun _=>hya) (fun _=>rfl) (its px) (Hi px)) (decide_eq_false g) HE'
theorem outAll (w:World) (b1 b2:Bool) (bd:Int) (p n m:Nat) (la lb:List Nat) (hn:la.length=n) (hm:lb.length=m) (h0:0<n) (hnm:n≤m) (h40:m≤40) (hlb:∀ c∈lb,isLet c) (hc:∀ i c,lb[i]?=some c→CostOk p i n c la):∀ d i,i+d=m→OutOk w b1 b2 (tx la) (tx lb) bd p n m i
 | 0,i,h=>by
  have:i=m:=by omega
  subst this
  exact outEnd w b1 b2 (tx la) (tx lb) bd p n i
 | d+1,i,h=>outStep w b1 b2 bd p n m i la lb hn hm h0 hnm h40 hlb hc (by omega) (outAll w b1 b2 bd p n m la lb hn hm h0 hnm h40 hlb hc d (i+1) (by omega))
theorem out0 (w:World) (b1 b2:Bool) (bd:Int) (p n m:Nat) (la lb:List Nat) (hn:la.length=n) (hm:lb.length=m) (h0:0<n) (hnm:n≤m) (h40:m≤40) (hlb:∀ c∈lb,isLet c) (hc:∀ i c,lb[i]?=some c→CostOk p i n c la) (nl:Int) (hnl:nl=m) :
  ∃ E,GoodE bd p n m E∧∀ o:OW,o.ya=tx la→o.yb=tx lb→o.bd=bd→∀ kt L R J rs trs fe its er,RowOk p 0 0 n its→(kOut0 (Pw w b1 b2) kt o L R J rs trs fe its er 0 nl E).Ok2 w b1 b2 126:=by
 obtain ⟨c,ec⟩:∃ c,lb[0]?=some c:=⟨lb[0]'(by rw [hm]; omega),List.getElem?_eq_getElem _⟩
 have hcl:isLet c:=hlb c (List.mem_of_getElem? ec)
 have hat:=at_tx (k:=0) (j:=0) rfl ec
 have hg1:gL p 0 1<9223372036854775807:=by rw [gLs]; unfold fL; omega
 obtain ⟨ix',sx',dx',kn,H⟩:=in0V w b1 b2 c p 0 n la hn (by omega) hcl (hc 0 c ec) h0 (n:Nat) rfl hg1 (0*2) rfl
 by_cases g:mL p 0 n > bd
 ·refine ⟨endX bd (endIn p 0 n ix' sx' dx' kn) 0 nl c,.inr ⟨rfl,?_⟩,fun o hya hyb hbd kt L R J rs trs fe its er Hi=>?_⟩
  ·have:=mL_end p 0 n m h0 (by omega) hnm
   omega
  ·subst hbd
   have hat:=hat
   rw [← hyb] at hat
   have hnn:o.ya.length=n:=by rw [hya,← hn]; show (⟨la.map (·+1)⟩:Array Nat).size=_; simp
   exact kOut0X_ok w b1 b2 kt o L R J rs trs fe its er 0 nl (endIn p 0 n ix' sx' dx' kn) (endX o.bd (endIn p 0 n ix' sx' dx' kn) 0 nl c) c n n (0*2) (by omega) (by omega) (by omega) hat rfl hnn rfl (by omega) (H (o.lv 0 c) (fun _=>hya) (fun _=>rfl) its Hi) (decide_eq_true g)
 ·obtain ⟨E,gE,HE⟩:=outAll w b1 b2 bd p n m la lb hn hm h0 hnm h40 hlb hc (m-1) 1 (by omega) (0+1) (nl-1) rfl (by omega) 0 c (fL p 0 n) (mL p 0 n) ix' sx' dx'
  refine ⟨E,gE,fun o hya hyb hbd kt L R J rs trs fe its er Hi=>?_⟩
  subst hbd
  have hat:=hat
  rw [← hyb] at hat
  have hnn:o.ya.length=n:=by rw [hya,← hn]; show (⟨la.map (·+1)⟩:Array Nat).size=_; simp
  have HE':=HE o hya hyb rfl (rowX (endIn p 0 n ix' sx' dx' kn)) (fun px=>RowOk.of_iL p (0+1) n _)
  rw [← gL_pos (i:=0) h0] at HE'
  exact kOut0T_ok w b1 b2 kt o L R J rs trs fe its er 0 nl (endIn p 0 n ix' sx' dx' kn) E c n n (0*2) (by omega) (by omega) (by omega) hat rfl hnn rfl (by omega) (H (o.lv 0 c) (fun _=>hya) (fun _=>rfl) its Hi) (decide_eq_false g) HE'
end Mine
namespace Mine
theorem fm_drop:∀ (L:List Nat) (j:Nat),((List.range (L.length-j)).map (·+j)).filterMap (fun i=>L[i]?)=L.drop j
 | [],j=>by simp
 | x::L,0=>by
  have:=fm_drop L 0
  simp only [Nat.sub_zero,List.drop_zero,List.length_cons,Nat.add_zero,List.map_id'] at this ⊢
  rw [List.range_succ_eq_map,List.filterMap_cons]
  simp only [List.getElem?_cons_zero,List.filterMap_map]
  congr 1
 | x::L,j+1=>by
  have:=fm_drop L j
  rw [List.filterMap_map] at this ⊢
  rw [List.length_cons,show L.length+1-(j+1)=L.length-j by omega,List.drop_succ_cons,← this]
  rfl
theorem tx_len (l:List Nat):(tx l).length=l.length:=by show (⟨l.map (·+1)⟩:Array Nat).size=_; simp
theorem sliceRange_up (a b:Int) (i n:Nat) (ha:a=i) (hb:b=n):sliceRange a b 1=(List.range (n-i)).map (·+i):=by
 subst ha; subst hb
 unfold sliceRange
 rw [if_pos (by decide)]
 have e:(if (i:Int)<n then ((n:Int)-i+1-1) / 1 else 0).toNat=n-i:=by
  by_cases h:(i:Int)<n
  ·rw [if_pos h]; simp
  ·rw [if_neg h]; simp; omega
 show List.map _ (List.range (if (i:Int)<n then ((n:Int)-i+1-1) / 1 else 0).toNat)=_
 rw [e]
 apply List.map_congr_left
 intro k hk
 show ((i:Int)+1*(k:Int)).toNat=k+i
 omega
theorem picked_from (l:List Nat) (k:Int) (j:Nat) (t:Tok) (hk:k=j) (hj:j≤l.length):slicePicked (tx l) (some (k,t)) none none=(List.range (l.length-j)).map (·+j):=by
 unfold slicePicked Builtin.Str.strSliceIndices
 rw [tx_len]
 simp only [Option.map_some,Option.map_none,Option.getD_none]
 apply sliceRange_up
 ·rw [if_pos (by decide),if_neg (by omega)]; omega
 ·rw [if_pos (by decide)]
theorem picked_all (l:List Nat):slicePicked (tx l) none none none=(List.range (l.length-0)).map (·+0):=by
 unfold slicePicked Builtin.Str.strSliceIndices
 rw [tx_len]
 simp only [Option.map_none,Option.getD_none]
 apply sliceRange_up
 ·rw [if_pos (by decide)]; rfl
 ·rw [if_pos (by decide)]
theorem fm_tx (l:List Nat) (j:Nat):(⟨(((List.range (l.length-j)).map (·+j)).filterMap ((tx l).cps[·]?)).toArray⟩:Str)=tx (l.drop j):=by
 have h:=fm_drop (l.map (·+1)) j
 rw [List.length_map] at h
 have e:(fun i:Nat=>(tx l).cps[i]?)=fun i:Nat=>(l.map (·+1))[i]?:=by
  funext i
  show (⟨l.map (·+1)⟩:Array Nat)[i]?=_
  simp
 rw [e,h]
 unfold tx
 rw [List.map_drop]
section
variable {prog:Program} {w:World} {kt:Addr→Option Obj} {x:Nat}
theorem fCutFrom_ok {l l':List Nat} {k:Int} {j:Nat} (hk:k=j) (hj:j≤l.length) (h40:l.length≤100) (hl:l.drop j=l'):(fStrCut (tx l) (some k) none none (tx l')).Ok (model prog w) kt x:=by
 subst hl
 refine fam1_ok fun c os=>kStrCut_ok _ _ _ _ _ _ _ rfl (by rw [tx_len,sizeLine_eq]; omega) ?_ (fun h _=>?_) ?_
 ·rw [show parT (some k) (tokV (vN os 0 0))=some (k,tokV (vN os 0 0)) from rfl]
  show _=(⟨((slicePicked (tx l) (some (k,_)) none none).filterMap _).toArray⟩:Str)
  rw [picked_from l k j _ hk hj,fm_tx]
 ·have h:(slicePicked (tx l) (some (k,tokV (vN os 0 0))) none none).length=(tx l).length:=h
  rw [picked_from l k j _ hk hj,tx_len] at h
  simp at h
  have:j=0∨l=[]:=by
   rcases Nat.eq_zero_or_pos l.length with z | z
   ·exact .inr (List.length_eq_zero_iff.mp z)
   ·exact .inl (by omega)
  rcases this with rfl | rfl
  ·rfl
  ·simp
 ·rw [tx_len,tx_len]; simp
theorem fCutAll_ok {l:List Nat} (h40:l.length≤100):(fStrCut (tx l) none none none (tx l)).Ok (model prog w) kt x:=by
 refine fam1_ok fun c os=>kStrCut_ok _ _ _ _ _ _ _ rfl (by rw [tx_len,sizeLine_eq]; omega) ?_ (fun _ _=>rfl) (Nat.le_refl _)
 show _=(⟨((slicePicked (tx l) none none none).filterMap _).toArray⟩:Str)
 rw [picked_all l,fm_tx]
 rfl
theorem at_last {l:List Nat} {c:Nat}:(seqIndex? (-1) (tx (l++[c])).length).bind ((tx (l++[c])).cps[·]?)=some (c+1):=by
 rw [tx_len]
 have:seqIndex? (-1) (l++[c]).length=some l.length:=by
  unfold seqIndex?
  simp
  omega
 rw [this]
 show (⟨(l++[c]).map (·+1)⟩:Array Nat)[l.length]?=_
 simp
end
end Mine
namespace Mine
noncomputable def whCode (s:Stmt) (env:Env):Code:=match s with
 | .While t b o _=>.whileLoop t b o env
 | _=>default
noncomputable def w1Fr (P:Params) (kt:Nat→Tok) (A B:List Nat) (ta tb:Tok) (vm:Value) (k:Int) (tk:Tok) (fe:Nat):Obj :=
 {cls:=.type "frame",data:=.dict ⟨dE P kt 0 [("a",.str (tx A) ta),("b",.str (tx B) tb),("max_cost",vm),("pre",.int k tk)]⟩ fe}
noncomputable def kW1 (P:Params) (kt:Nat→Tok) (L:Addr) (A B:List Nat) (ta tb:Tok) (vm:Value) (k:Int) (tk:Tok) (fe:Nat) (k':Int):Con :=
 ⟨whCode (stN (stsOf P 35) 2) (lvEnv P L),[(L,w1Fr P kt A B ta tb vm k tk fe)],fun xs=>[w1Fr P kt A B ta tb vm k' (xs 0) fe],fun _=>[],fun _=>.ok .next⟩
noncomputable def fW1 (P:Params) (A B:List Nat) (vm:Value) (k k':Int):Fam:=fam1 fun _ os=>kW1 P (fun j=>tokV (keyN os 0 j)) (adN os 0) A B (tokV (vN os 0 0)) (tokV (vN os 0 1)) vm k (tokV (vN os 0 3)) (epN os 0) k'
noncomputable def lnI (n:Nat):Int:=(n+1:Nat)
theorem fLenT_ok {prog:Program} {w:World} {kt:Addr→Option Obj} {x:Nat} {l:List Nat} {n:Nat} (h:l.length=n+1) (h40:l.length≤100):(fLenS (tx l) (lnI n)).Ok (model prog w) kt x :=
 fLenS_ok (by rw [tx_len,h]; rfl) (by rw [tx_len,sizeLine_eq]; omega)
theorem fLen0_ok {prog:Program} {w:World} {kt:Addr→Option Obj} {x:Nat}:(fLenS (tx []) 0).Ok (model prog w) kt x:=fLenS_ok rfl (by rw [tx_len,sizeLine_eq]; decide)
theorem kW1E_ok (w:World) (b1 b2:Bool) (kt:Nat→Tok) (L:Addr) (A B:List Nat) (ta tb:Tok) (vm:Value) (k:Int) (tk:Tok) (fe:Nat) (j:Nat) (hk:k=j) (hj:j≤A.length) (hA:A.length≤100) (eA:A.drop j=[]):(kW1 (Pw w b1 b2) kt L A B ta tb vm k tk fe k).Ok2 w b1 b2 84:=by
 exact Con.of2b 42 [1,1] [uS 1 (fStrCut (tx A) (some k) none none (tx [])) [2],uS 2 (fLenS (tx []) 0) []] [] (fun _ _ _ _=>tk) ⟨fCutFrom_ok hk hj hA eA,fLen0_ok,trivial⟩
theorem kW1D_ok (w:World) (b1 b2:Bool) (kt:Nat→Tok) (L:Addr) (A B:List Nat) (ta tb:Tok) (vm:Value) (k:Int) (tk:Tok) (fe:Nat) (j x y:Nat) (ra rb:List Nat) (hk:k=j) (hj:j≤A.length) (hA:A.length≤100) (hjb:j≤B.length) (hB:B.length≤100) (eA:A.drop j=x::ra) (eB:B.drop j=y::rb) (hxy:x≠y):(kW1 (Pw w b1 b2) kt L A B ta tb vm k tk fe k).Ok2 w b1 b2 84:=by
 have gA:A[j]?=some x:=by have:=congrArg (fun l=>l[0]?) eA; simpa using this
 have gB:B[j]?=some y:=by have:=congrArg (fun l=>l[0]?) eB; simpa using this
 have lA:(x::ra).length≤100:=by rw [← eA]; simp; omega
 have lB:(y::rb).length≤100:=by rw [← eB]; simp; omega
 exact Con.of2b 42 (hD 8 0x41041041041) [uS 1 (fStrCut (tx A) (some k) none none (tx (x::ra))) [2],uS 2 (fLenS (tx (x::ra)) (lnI ra.length)) [],uS 4 (fStrCut (tx B) (some k) none none (tx (y::rb))) [4],uS 5 (fLenS (tx (y::rb)) (lnI rb.length)) [],uS 7 (fStrAt (tx A) k (x+1)) [],uS 9 (fStrAt (tx B) k (y+1)) [],uS 11 (fSS "str.__eq__" (sg1 x) (sg1 y) false) []] [] (fun _ _ _ _=>tk) ⟨fCutFrom_ok hk hj hA eA,fLenT_ok rfl lA,fCutFrom_ok hk hjb hB eB,fLenT_ok rfl lB,fStrAt_ok (by omega) (by omega) (at_tx hk gA),fStrAt_ok (by omega) (by omega) (at_tx hk gB),str_eq_ok (sg_ne hxy),trivial⟩
theorem kW1T_ok (w:World) (b1 b2:Bool) (kt:Nat→Tok) (L:Addr) (A B:List Nat) (ta tb:Tok) (vm:Value) (k:Int) (tk:Tok) (fe:Nat) (k':Int) (j x:Nat) (ra rb:List Nat) (hk:k=j) (hj:j≤A.length) (hA:A.length≤100) (hjb:j≤B.length) (hB:B.length≤100) (eA:A.drop j=x::ra) (eB:B.drop j=x::rb) (ih:(fW1 (Pw w b1 b2) A B vm (k+1) k').Ok2 w b1 b2 84):(kW1 (Pw w b1 b2) kt L A B ta tb vm k tk fe k').Ok2 w b1 b2 84:=by
 have gA:A[j]?=some x:=by have:=congrArg (fun l=>l[0]?) eA; simpa using this
 have gB:B[j]?=some x:=by have:=congrArg (fun l=>l[0]?) eB; simpa using this
 have lA:(x::ra).length≤100:=by rw [← eA]; simp; omega
 have lB:(x::rb).length≤100:=by rw [← eB]; simp; omega
 exact Con.of2b 42 (hD 11 0x1041041041041041) [uS 1 (fStrCut (tx A) (some k) none none (tx (x::ra))) [2],uS 2 (fLenS (tx (x::ra)) (lnI ra.length)) [],uS 4 (fStrCut (tx B) (some k) none none (tx (x::rb))) [4],uS 5 (fLenS (tx (x::rb)) (lnI rb.length)) [],uS 7 (fStrAt (tx A) k (x+1)) [],uS 9 (fStrAt (tx B) k (x+1)) [],uS 11 (fSS "str.__eq__" (sg1 x) (sg1 x) true) [],uS 13 (fIIi "int.__add__" k 1 (k+1)) [],⟨14,fW1 (Pw w b1 b2) A B vm (k+1) k',[1],true⟩] [] (fun _ _ sg j=>sg 8 (j+2)) ⟨fCutFrom_ok hk hj hA eA,fLenT_ok rfl lA,fCutFrom_ok hk hjb hB eB,fLenT_ok rfl lB,fStrAt_ok (by omega) (by omega) (at_tx hk gA),fStrAt_ok (by omega) (by omega) (at_tx hk gB),str_eq_ok (sg_eq x),int_add_ok rfl,ih,trivial⟩
noncomputable def Apart (a b:List Nat):Prop:=a=[]∨∃ x ra y rb,a=x::ra∧b=y::rb∧x≠y
theorem w1_run (w:World) (b1 b2:Bool) (A B:List Nat) (vm:Value) (a b:List Nat) (hab:Apart a b) (hA:A.length≤100) (hB:B.length≤100):∀ (C:List Nat) (j:Nat) (k:Int),k=j→A.drop j=C++a→B.drop j=C++b→j≤A.length→j≤B.length→∀ k',k'=k+(C.length:Nat)→(fW1 (Pw w b1 b2) A B vm k k').Ok2 w b1 b2 84
 | [],j,k,hk,eA,eB,hj,hjb,k',hk'=>by
  have:k'=k:=by rw [hk']; simp
  subst this
  refine fam1_ok fun _ os=>?_
  rcases hab with rfl | ⟨x,ra,y,rb,rfl,rfl,hxy⟩
  ·exact kW1E_ok w b1 b2 _ _ A B _ _ vm _ _ _ j hk hj hA eA
  ·exact kW1D_ok w b1 b2 _ _ A B _ _ vm _ _ _ j x y ra rb hk hj hA hjb hB eA eB hxy
 | x::C,j,k,hk,eA,eB,hj,hjb,k',hk'=>by
  refine fam1_ok fun _ os=>?_
  have lA:j<A.length:=by
   have:=congrArg List.length eA
   simp at this; omega
  have lB:j<B.length:=by
   have:=congrArg List.length eB
   simp at this; omega
  refine kW1T_ok w b1 b2 _ _ A B _ _ vm k _ _ k' j x (C++a) (C++b) hk hj hA hjb hB eA eB (w1_run w b1 b2 A B vm a b hab hA hB C (j+1) (k+1) (by omega) ?_ ?_ (by omega) (by omega) k' (by rw [hk']; simp; omega))
  ·rw [← List.drop_drop,eA]; rfl
  ·rw [← List.drop_drop,eB]; rfl
noncomputable def w2Fr (P:Params) (kt:Nat→Tok) (A B:List Nat) (ta tb:Tok) (vm vp:Value) (tq:Tok) (fe:Nat):Obj :=
 {cls:=.type "frame",data:=.dict ⟨dE P kt 0 [("a",.str (tx A) ta),("b",.str (tx B) tb),("max_cost",vm),("pre",vp),("post",.int 0 tq)]⟩ fe}
noncomputable def kW2 (P:Params) (kt:Nat→Tok) (L:Addr) (A B:List Nat) (ta tb:Tok) (vm vp:Value) (tq:Tok) (fe:Nat):Con :=
 ⟨whCode (stN (stsOf P 35) 6) (lvEnv P L),[(L,w2Fr P kt A B ta tb vm vp tq fe)],fun xs=>[w2Fr P kt A B ta tb vm vp tq fe],fun _=>[],fun _=>.ok .next⟩
noncomputable def fW2 (P:Params) (A B:List Nat) (vm:Value):Fam:=fam1 fun _ os=>kW2 P (fun j=>tokV (keyN os 0 j)) (adN os 0) A B (tokV (vN os 0 0)) (tokV (vN os 0 1)) vm (vN os 0 3) (tokV (vN os 0 4)) (epN os 0)
theorem kW2E_ok (w:World) (b1 b2:Bool) (kt:Nat→Tok) (L:Addr) (B:List Nat) (ta tb:Tok) (vm vp:Value) (tq:Tok) (fe:Nat):(kW2 (Pw w b1 b2) kt L [] B ta tb vm vp tq fe).Ok2 w b1 b2 84:=by
 exact Con.of2b 42 [1,1] [uS 3 (fStrCut (tx []) none none none (tx [])) [2],uS 4 (fLenS (tx []) 0) []] [] (fun _ _ _ _=>0) ⟨fCutAll_ok (by decide),fLen0_ok,trivial⟩
theorem kW2D_ok (w:World) (b1 b2:Bool) (kt:Nat→Tok) (L:Addr) (A B:List Nat) (ta tb:Tok) (vm vp:Value) (tq:Tok) (fe:Nat) (x y:Nat) (ra rb:List Nat) (hA:A.length≤100) (hB:B.length≤100) (eA:A=ra++[x]) (eB:B=rb++[y]) (hxy:x≠y):(kW2 (Pw w b1 b2) kt L A B ta tb vm vp tq fe).Ok2 w b1 b2 84:=by
 have gA:(seqIndex? (-1) (tx A).length).bind ((tx A).cps[·]?)=some (x+1):=by rw [eA]; exact at_last
 have gB:(seqIndex? (-1) (tx B).length).bind ((tx B).cps[·]?)=some (y+1):=by rw [eB]; exact at_last
 have nA:A.length=ra.length+1:=by rw [eA]; simp
 have nB:B.length=rb.length+1:=by rw [eB]; simp
 exact Con.of2b 42 (hD 8 0x41041041041) [uS 3 (fStrCut (tx A) none none none (tx A)) [2],uS 4 (fLenS (tx A) (lnI ra.length)) [],uS 8 (fStrCut (tx B) none none none (tx B)) [4],uS 9 (fLenS (tx B) (lnI rb.length)) [],uS 13 (fStrAt (tx A) (-1) (x+1)) [],uS 17 (fStrAt (tx B) (-1) (y+1)) [],uS 19 (fSS "str.__eq__" (sg1 x) (sg1 y) false) []] [] (fun _ _ _ _=>0) ⟨fCutAll_ok hA,fLenT_ok nA hA,fCutAll_ok hB,fLenT_ok nB hB,fStrAt_ok (by decide) (by decide) gA,fStrAt_ok (by decide) (by decide) gB,str_eq_ok (sg_ne hxy),trivial⟩
end Mine
namespace Mine
noncomputable def kRg1 (n:Int) (t:Tok):Con:=⟨.builtin "type.__call__" ⟨[.type "range",.int n t],[]⟩,[],fun _=>[],fun xs=>[(xs 0,rgO 0 n 1 (xs 1) t (xs 2))],fun xs=>.ok (.ret (.ref (xs 0)))⟩
noncomputable def kRg3 (a b c:Int) (t u v:Tok):Con:=⟨.builtin "type.__call__" ⟨[.type "range",.int a t,.int b u,.int c v],[]⟩,[],fun _=>[],fun xs=>[(xs 0,rgO a b c t u v)],fun xs=>.ok (.ret (.ref (xs 0)))⟩
theorem kRg1_ok (w:World) (b1 b2:Bool) (n:Int) (t:Tok):(kRg1 n t).Ok2 w b1 b2 42:=by
 exact Con.of2b 0 [2,2,2,2] [] [0] (fun N T _ j=>match j with | 0=>N+213 | 1=>T | _=>T+1) trivial
theorem kRg3_ok (w:World) (b1 b2:Bool) (a b:Int) (t u v:Tok):(kRg3 a b 2 t u v).Ok2 w b1 b2 42:=by
 exact Con.of2b 0 [2,2,2,2] [] [0] (fun N T _ j=>N+213) trivial
noncomputable def fRg1 (n:Int):Fam:=fam1 fun c _=>kRg1 n (argT c 1)
noncomputable def fRg3 (b:Int):Fam:=fam1 fun c _=>kRg3 2 b 2 (argT c 1) (argT c 2) (argT c 3)
noncomputable def fListR (e:Int) (n:Nat):Fam:=fam1 fun _ os=>kListR (adN os 0) e (tokV (vN os 0 0)) (tokV (vN os 0 1)) (tokV (vN os 0 2)) n
theorem le42_126:42≤126:=by decide
theorem le84_126:84≤126:=by decide
noncomputable def kLev (A B:List Nat) (ta tb:Tok) (bd:Int) (tbd:Tok) (told:Int):Con :=
 ⟨.call (.ref 35) ⟨[.str (tx A) ta,.str (tx B) tb,.int bd tbd],[]⟩,[],fun _=>[],fun _=>[],fun xs=>.ok (.ret (.int told (xs 0)))⟩
noncomputable def fOut0 (P:Params) (a b:List Nat) (bd:Int) (its:List (Nat→Nat)→Array Value) (nl:Int) (e:OE):Fam:=fam2 fun _ os px =>
 kOut0 P (fun j=>tokV (keyN os 0 j)) ⟨tx a,tokV (vN os 0 0),tx b,tokV (vN os 0 1),bd,tokV (vN os 0 2),vN os 0 3,vN os 0 4⟩ (adN os 0) (adN os 1) (adN os 2) 0 (tokV (vN os 0 6)) (epN os 0) (its px) (epN os 1) 0 nl e
noncomputable def rowX0 (i n:Nat) (px:List (Nat→Nat)):Array Value:=⟨iL (row0 2 n) fun j=>pxN px i (j+1)⟩
noncomputable def txNe (A B:List Nat):Prop:=((tx A).cps.toList==(tx B).cps.toList)=false
noncomputable def hsLevE:List Nat:=hD 38 0x80002000002082082082082082082082082082082082082082082000
theorem kLevE_ok (w:World) (b1 b2:Bool) (AA BB:List Nat) (ta tb:Tok) (bd:Int) (tbd:Tok) (b:List Nat) (nb jC:Nat) (kC sm told:Int) (hne:txNe AA BB) (hC:kC=jC) (hCa:jC≤AA.length) (hAA:AA.length≤100) (hCb:jC≤BB.length) (hBB:BB.length≤100) (eA:AA.drop jC=[]) (eB:BB.drop jC=b) (hnb:b.length=nb+1) (hb:b.length≤100) (had:0+lnI nb=sm) (hsm:-1000≤sm∧sm≤1000) (hml:2*sm=told) (h1:(fW1 (Pw w b1 b2) AA BB (.int bd tbd) 0 kC).Ok2 w b1 b2 84) (h2:(fW2 (Pw w b1 b2) [] b (.int bd tbd)).Ok2 w b1 b2 84) :
  (kLev AA BB ta tb bd tbd told).Ok2 w b1 b2 168:=by
 exact Con.of2b 126 hsLevE [uS 2 (fSS "str.__eq__" (tx AA) (tx BB) false) [],uS 3 (fW1 (Pw w b1 b2) AA BB (.int bd tbd) 0 kC) [2],uS 5 (fStrCut (tx AA) (some kC) none none (tx [])) [4],uS 7 (fStrCut (tx BB) (some kC) none none (tx b)) [6],uS 8 (fW2 (Pw w b1 b2) [] b (.int bd tbd)) [2],uS 12 (fStrCut (tx []) none none none (tx [])) [8],uS 16 (fStrCut (tx b) none none none (tx b)) [10],uS 17 (fLenS (tx []) 0) [],uS 19 (fLenS (tx []) 0) [],uS 21 (fLenS (tx b) (lnI nb)) [],uS 23 (fIIi "int.__add__" 0 (lnI nb) sm) [],uS 25 (fIIi "int.__mul__" 2 sm told) []] [] (fun _ _ sg _=>sg 11 2)
  ⟨str_eq_ok hne,h1.mono le84_126,fCutFrom_ok hC hCa hAA eA,fCutFrom_ok hC hCb hBB eB,h2.mono le84_126,fCutAll_ok (by decide),fCutAll_ok hb,fLen0_ok,fLen0_ok,fLenT_ok hnb hb,int_add_ok had,int_mul_ok (by decide) hsm hml,trivial⟩
noncomputable def hsLevNb:List Nat:=hD 55 0x2080080002000080002000002000002000082082082082082082082082082082082082082082082000
theorem kLevNb_ok (w:World) (b1 b2:Bool) (AA BB:List Nat) (ta tb:Tok) (bd:Int) (tbd:Tok) (a b:List Nat) (na nb jC:Nat) (kC df dd:Int) (hne:txNe AA BB) (hC:kC=jC) (hCa:jC≤AA.length) (hAA:AA.length≤100) (hCb:jC≤BB.length) (hBB:BB.length≤100) (eA:AA.drop jC=a) (eB:BB.drop jC=b) (hna:a.length=na+1) (ha:a.length≤100) (hnb:b.length=nb+1) (hb:b.length≤100) (hga:decide (lnI na > 40)=false) (hgb:decide (lnI nb > 40)=false) (hlt:decide (lnI nb<lnI na)=false) (hdf:lnI nb-lnI na=df) (hdfb:-1000≤df∧df≤1000) (hdd:df*2=dd) (hgt:decide (dd > bd)=true) (h1:(fW1 (Pw w b1 b2) AA BB (.int bd tbd) 0 kC).Ok2 w b1 b2 84) (h2:(fW2 (Pw w b1 b2) a b (.int bd tbd)).Ok2 w b1 b2 84) :
  (kLev AA BB ta tb bd tbd (bd+1)).Ok2 w b1 b2 168:=by
 exact Con.of2b 126 hsLevNb [uS 2 (fSS "str.__eq__" (tx AA) (tx BB) false) [],uS 3 (fW1 (Pw w b1 b2) AA BB (.int bd tbd) 0 kC) [2],uS 5 (fStrCut (tx AA) (some kC) none none (tx a)) [4],uS 7 (fStrCut (tx BB) (some kC) none none (tx b)) [6],uS 8 (fW2 (Pw w b1 b2) a b (.int bd tbd)) [2],uS 12 (fStrCut (tx a) none none none (tx a)) [8],uS 16 (fStrCut (tx b) none none none (tx b)) [10],uS 17 (fLenS (tx a) (lnI na)) [],uS 18 (fLenS (tx b) (lnI nb)) [],uS 20 (fLenS (tx a) (lnI na)) [],uS 22 (fII "int.__gt__" (lnI na) 40 false) [],uS 24 (fLenS (tx b) (lnI nb)) [],uS 26 (fII "int.__gt__" (lnI nb) 40 false) [],uS 28 (fLenS (tx b) (lnI nb)) [],uS 30 (fLenS (tx a) (lnI na)) [],uS 32 (fII "int.__lt__" (lnI nb) (lnI na) false) [],uS 34 (fLenS (tx b) (lnI nb)) [],uS 36 (fLenS (tx a) (lnI na)) [],uS 38 (fIIi "int.__sub__" (lnI nb) (lnI na) df) [],uS 40 (fIIi "int.__mul__" df 2 dd) [],uS 42 (fII "int.__gt__" dd bd true) [],uS 44 (fIIi "int.__add__" bd 1 (bd+1)) []] [] (fun _ _ sg _=>sg 21 2)
  ⟨str_eq_ok hne,h1.mono le84_126,fCutFrom_ok hC hCa hAA eA,fCutFrom_ok hC hCb hBB eB,h2.mono le84_126,fCutAll_ok ha,fCutAll_ok hb,fLenT_ok hna ha,fLenT_ok hnb hb,fLenT_ok hna ha,int_gt_ok hga,fLenT_ok hnb hb,int_gt_ok hgb,fLenT_ok hnb hb,fLenT_ok hna ha,int_lt_ok hlt,fLenT_ok hnb hb,fLenT_ok hna ha,int_sub_ok hdf,int_mul_ok hdfb (by decide) hdd,int_gt_ok hgt,int_add_ok rfl,trivial⟩
noncomputable def hsLevN:List Nat:=hD 78 0x92410402000000082082002000000000000080080002000080002000002000002000082082082082082082082082082082082082082082082000
theorem kLevN_ok (w:World) (b1 b2:Bool) (AA BB:List Nat) (ta tb:Tok) (bd:Int) (tbd:Tok) (a b:List Nat) (na nb jC:Nat) (kC df dd:Int) (n1 eR:Int) (rs ds mn ix sx dx:Int) (row:List Int) (bi:Int) (cb:Nat) (k nl:Int) (hne:txNe AA BB) (hC:kC=jC) (hCa:jC≤AA.length) (hAA:AA.length≤100) (hCb:jC≤BB.length) (hBB:BB.length≤100) (eA:AA.drop jC=a) (eB:BB.drop jC=b) (hna:a.length=na+1) (ha:a.length≤100) (hnb:b.length=nb+1) (hb:b.length≤100) (hga:decide (lnI na > 40)=false) (hgb:decide (lnI nb > 40)=false) (hlt:decide (lnI nb<lnI na)=false) (hdf:lnI nb-lnI na=df) (hdfb:-1000≤df∧df≤1000) (hdd:df*2=dd) (hgt:decide (dd > bd)=false) (hn1:lnI na+1=n1) (hn1b:-1000≤n1∧n1≤1000) (heR:2*n1=eR) (heR2:eR=2*((na+1:Nat):Int)+2) (hns6:na+1≤6) (hri:lnI nb<2 ^ 62) (hri0:0≤lnI nb) (h1:(fW1 (Pw w b1 b2) AA BB (.int bd tbd) 0 kC).Ok2 w b1 b2 84) (h2:(fW2 (Pw w b1 b2) a b (.int bd tbd)).Ok2 w b1 b2 84)
  (hout:(fOut0 (Pw w b1 b2) a b bd (rowX0 3 (na+1)) ((nb+1:Nat):Int) ⟨rs,ds,mn,ix,sx,dx,row,bi,cb,k,nl,false⟩).Ok2 w b1 b2 126) :
  (kLev AA BB ta tb bd tbd rs).Ok2 w b1 b2 168:=by
 exact Con.of2b 126 hsLevN [uS 2 (fSS "str.__eq__" (tx AA) (tx BB) false) [],uS 3 (fW1 (Pw w b1 b2) AA BB (.int bd tbd) 0 kC) [2],uS 5 (fStrCut (tx AA) (some kC) none none (tx a)) [4],uS 7 (fStrCut (tx BB) (some kC) none none (tx b)) [6],uS 8 (fW2 (Pw w b1 b2) a b (.int bd tbd)) [2],uS 12 (fStrCut (tx a) none none none (tx a)) [8],uS 16 (fStrCut (tx b) none none none (tx b)) [10],uS 17 (fLenS (tx a) (lnI na)) [],uS 18 (fLenS (tx b) (lnI nb)) [],uS 20 (fLenS (tx a) (lnI na)) [],uS 22 (fII "int.__gt__" (lnI na) 40 false) [],uS 24 (fLenS (tx b) (lnI nb)) [],uS 26 (fII "int.__gt__" (lnI nb) 40 false) [],uS 28 (fLenS (tx b) (lnI nb)) [],uS 30 (fLenS (tx a) (lnI na)) [],uS 32 (fII "int.__lt__" (lnI nb) (lnI na) false) [],uS 34 (fLenS (tx b) (lnI nb)) [],uS 36 (fLenS (tx a) (lnI na)) [],uS 38 (fIIi "int.__sub__" (lnI nb) (lnI na) df) [],uS 40 (fIIi "int.__mul__" df 2 dd) [],uS 42 (fII "int.__gt__" dd bd false) [],uS 44 (fLenS (tx a) (lnI na)) [],uS 46 (fIIi "int.__add__" (lnI na) 1 n1) [],uS 48 (fIIi "int.__mul__" 2 n1 eR) [],uS 50 (fRg3 eR) [],uS 52 (fListR eR (na+1)) [12],uS 54 (fLenS (tx b) (lnI nb)) [],uS 56 (fRg1 (lnI nb)) [],uS 58 (fRangeI 0 (lnI nb) (nb+1)) [16],uS 59 (fOut0 (Pw w b1 b2) a b bd (rowX0 3 (na+1)) ((nb+1:Nat):Int) ⟨rs,ds,mn,ix,sx,dx,row,bi,cb,k,nl,false⟩) [2,14,18]] [] (fun _ _ sg _=>sg 29 2)
  ⟨str_eq_ok hne,h1.mono le84_126,fCutFrom_ok hC hCa hAA eA,fCutFrom_ok hC hCb hBB eB,h2.mono le84_126,fCutAll_ok ha,fCutAll_ok hb,fLenT_ok hna ha,fLenT_ok hnb hb,fLenT_ok hna ha,int_gt_ok hga,fLenT_ok hnb hb,int_gt_ok hgb,fLenT_ok hnb hb,fLenT_ok hna ha,int_lt_ok hlt,fLenT_ok hnb hb,fLenT_ok hna ha,int_sub_ok hdf,int_mul_ok hdfb (by decide) hdd,int_gt_ok hgt,fLenT_ok hna ha,int_add_ok hn1,int_mul_ok (by decide) hn1b heR,(fam1_ok fun _ _=>kRg3_ok w _ b2 _ _ _ _ _).mono le42_126,(fam1_ok fun _ _=>kListR_ok w _ b2 _ _ _ _ _ _ (Nat.succ_pos _) hns6 heR2).mono le42_126,fLenT_ok hnb hb,(fam1_ok fun _ _=>kRg1_ok w _ b2 _ _).mono le42_126,fRangeI_ok (by decide) (.inl (Int.sub_zero _)) hri (by decide) hri0,hout,trivial⟩
noncomputable def hsLevNx:List Nat:=hD 77 0x12410402000000082082002000000000000080080002000080002000002000002000082082082082082082082082082082082082082082082000
theorem kLevNx_ok (w:World) (b1 b2:Bool) (AA BB:List Nat) (ta tb:Tok) (bd:Int) (tbd:Tok) (a b:List Nat) (na nb jC:Nat) (kC df dd:Int) (n1 eR:Int) (rs ds mn ix sx dx:Int) (row:List Int) (bi:Int) (cb:Nat) (k nl:Int) (hne:txNe AA BB) (hC:kC=jC) (hCa:jC≤AA.length) (hAA:AA.length≤100) (hCb:jC≤BB.length) (hBB:BB.length≤100) (eA:AA.drop jC=a) (eB:BB.drop jC=b) (hna:a.length=na+1) (ha:a.length≤100) (hnb:b.length=nb+1) (hb:b.length≤100) (hga:decide (lnI na > 40)=false) (hgb:decide (lnI nb > 40)=false) (hlt:decide (lnI nb<lnI na)=false) (hdf:lnI nb-lnI na=df) (hdfb:-1000≤df∧df≤1000) (hdd:df*2=dd) (hgt:decide (dd > bd)=false) (hn1:lnI na+1=n1) (hn1b:-1000≤n1∧n1≤1000) (heR:2*n1=eR) (heR2:eR=2*((na+1:Nat):Int)+2) (hns6:na+1≤6) (hri:lnI nb<2 ^ 62) (hri0:0≤lnI nb) (h1:(fW1 (Pw w b1 b2) AA BB (.int bd tbd) 0 kC).Ok2 w b1 b2 84) (h2:(fW2 (Pw w b1 b2) a b (.int bd tbd)).Ok2 w b1 b2 84)
  (hout:(fOut0 (Pw w b1 b2) a b bd (rowX0 3 (na+1)) ((nb+1:Nat):Int) ⟨rs,ds,mn,ix,sx,dx,row,bi,cb,k,nl,true⟩).Ok2 w b1 b2 126) :
  (kLev AA BB ta tb bd tbd (bd+1)).Ok2 w b1 b2 168:=by
 exact Con.of2b 126 hsLevNx [uS 2 (fSS "str.__eq__" (tx AA) (tx BB) false) [],uS 3 (fW1 (Pw w b1 b2) AA BB (.int bd tbd) 0 kC) [2],uS 5 (fStrCut (tx AA) (some kC) none none (tx a)) [4],uS 7 (fStrCut (tx BB) (some kC) none none (tx b)) [6],uS 8 (fW2 (Pw w b1 b2) a b (.int bd tbd)) [2],uS 12 (fStrCut (tx a) none none none (tx a)) [8],uS 16 (fStrCut (tx b) none none none (tx b)) [10],uS 17 (fLenS (tx a) (lnI na)) [],uS 18 (fLenS (tx b) (lnI nb)) [],uS 20 (fLenS (tx a) (lnI na)) [],uS 22 (fII "int.__gt__" (lnI na) 40 false) [],uS 24 (fLenS (tx b) (lnI nb)) [],uS 26 (fII "int.__gt__" (lnI nb) 40 false) [],uS 28 (fLenS (tx b) (lnI nb)) [],uS 30 (fLenS (tx a) (lnI na)) [],uS 32 (fII "int.__lt__" (lnI nb) (lnI na) false) [],uS 34 (fLenS (tx b) (lnI nb)) [],uS 36 (fLenS (tx a) (lnI na)) [],uS 38 (fIIi "int.__sub__" (lnI nb) (lnI na) df) [],uS 40 (fIIi "int.__mul__" df 2 dd) [],uS 42 (fII "int.__gt__" dd bd false) [],uS 44 (fLenS (tx a) (lnI na)) [],uS 46 (fIIi "int.__add__" (lnI na) 1 n1) [],uS 48 (fIIi "int.__mul__" 2 n1 eR) [],uS 50 (fRg3 eR) [],uS 52 (fListR eR (na+1)) [12],uS 54 (fLenS (tx b) (lnI nb)) [],uS 56 (fRg1 (lnI nb)) [],uS 58 (fRangeI 0 (lnI nb) (nb+1)) [16],uS 59 (fOut0 (Pw w b1 b2) a b bd (rowX0 3 (na+1)) ((nb+1:Nat):Int) ⟨rs,ds,mn,ix,sx,dx,row,bi,cb,k,nl,true⟩) [2,14,18]] [] (fun _ _ sg _=>sg 29 10)
  ⟨str_eq_ok hne,h1.mono le84_126,fCutFrom_ok hC hCa hAA eA,fCutFrom_ok hC hCb hBB eB,h2.mono le84_126,fCutAll_ok ha,fCutAll_ok hb,fLenT_ok hna ha,fLenT_ok hnb hb,fLenT_ok hna ha,int_gt_ok hga,fLenT_ok hnb hb,int_gt_ok hgb,fLenT_ok hnb hb,fLenT_ok hna ha,int_lt_ok hlt,fLenT_ok hnb hb,fLenT_ok hna ha,int_sub_ok hdf,int_mul_ok hdfb (by decide) hdd,int_gt_ok hgt,fLenT_ok hna ha,int_add_ok hn1,int_mul_ok (by decide) hn1b heR,(fam1_ok fun _ _=>kRg3_ok w _ b2 _ _ _ _ _).mono le42_126,(fam1_ok fun _ _=>kListR_ok w _ b2 _ _ _ _ _ _ (Nat.succ_pos _) hns6 heR2).mono le42_126,fLenT_ok hnb hb,(fam1_ok fun _ _=>kRg1_ok w _ b2 _ _).mono le42_126,fRangeI_ok (by decide) (.inl (Int.sub_zero _)) hri (by decide) hri0,hout,trivial⟩
noncomputable def hsLevSb:List Nat:=hD 88 0x8200200008000208209238e30e38e38e38c38e38e38e30e38e38e30c30c082080002000002000002000082082082082082082082082082082082082082082082000
theorem kLevSb_ok (w:World) (b1 b2:Bool) (AA BB:List Nat) (ta tb:Tok) (bd:Int) (tbd:Tok) (a b:List Nat) (na nb jC:Nat) (kC df dd:Int) (hne:txNe AA BB) (hC:kC=jC) (hCa:jC≤AA.length) (hAA:AA.length≤100) (hCb:jC≤BB.length) (hBB:BB.length≤100) (eA:AA.drop jC=a) (eB:BB.drop jC=b) (hna:a.length=na+1) (ha:a.length≤100) (hnb:b.length=nb+1) (hb:b.length≤100) (hga:decide (lnI na > 40)=false) (hgb:decide (lnI nb > 40)=false) (hlt:decide (lnI nb<lnI na)=true) (hdf:lnI na-lnI nb=df) (hdfb:-1000≤df∧df≤1000) (hdd:df*2=dd) (hgt:decide (dd > bd)=true) (h1:(fW1 (Pw w b1 b2) AA BB (.int bd tbd) 0 kC).Ok2 w b1 b2 84) (h2:(fW2 (Pw w b1 b2) a b (.int bd tbd)).Ok2 w b1 b2 84) :
  (kLev AA BB ta tb bd tbd (bd+1)).Ok2 w b1 b2 168:=by
 exact Con.of2b 126 hsLevSb [uS 2 (fSS "str.__eq__" (tx AA) (tx BB) false) [],uS 3 (fW1 (Pw w b1 b2) AA BB (.int bd tbd) 0 kC) [2],uS 5 (fStrCut (tx AA) (some kC) none none (tx a)) [4],uS 7 (fStrCut (tx BB) (some kC) none none (tx b)) [6],uS 8 (fW2 (Pw w b1 b2) a b (.int bd tbd)) [2],uS 12 (fStrCut (tx a) none none none (tx a)) [8],uS 16 (fStrCut (tx b) none none none (tx b)) [10],uS 17 (fLenS (tx a) (lnI na)) [],uS 18 (fLenS (tx b) (lnI nb)) [],uS 20 (fLenS (tx a) (lnI na)) [],uS 22 (fII "int.__gt__" (lnI na) 40 false) [],uS 24 (fLenS (tx b) (lnI nb)) [],uS 26 (fII "int.__gt__" (lnI nb) 40 false) [],uS 28 (fLenS (tx b) (lnI nb)) [],uS 30 (fLenS (tx a) (lnI na)) [],uS 32 (fII "int.__lt__" (lnI nb) (lnI na) true) [],uS 42 (fLenS (tx a) (lnI na)) [],uS 44 (fLenS (tx b) (lnI nb)) [],uS 46 (fIIi "int.__sub__" (lnI na) (lnI nb) df) [],uS 48 (fIIi "int.__mul__" df 2 dd) [],uS 50 (fII "int.__gt__" dd bd true) [],uS 52 (fIIi "int.__add__" bd 1 (bd+1)) []] [] (fun _ _ sg _=>sg 21 2)
  ⟨str_eq_ok hne,h1.mono le84_126,fCutFrom_ok hC hCa hAA eA,fCutFrom_ok hC hCb hBB eB,h2.mono le84_126,fCutAll_ok ha,fCutAll_ok hb,fLenT_ok hna ha,fLenT_ok hnb hb,fLenT_ok hna ha,int_gt_ok hga,fLenT_ok hnb hb,int_gt_ok hgb,fLenT_ok hnb hb,fLenT_ok hna ha,int_lt_ok hlt,fLenT_ok hna ha,fLenT_ok hnb hb,int_sub_ok hdf,int_mul_ok hdfb (by decide) hdd,int_gt_ok hgt,int_add_ok rfl,trivial⟩
noncomputable def hsLevS:List Nat:=hD 111 0x269861808000000208208008000000000000200200008000208209238e30e38e38e38c38e38e38e30e38e38e30c30c082080002000002000002000082082082082082082082082082082082082082082082000
theorem kLevS_ok (w:World) (b1 b2:Bool) (AA BB:List Nat) (ta tb:Tok) (bd:Int) (tbd:Tok) (a b:List Nat) (na nb jC:Nat) (kC df dd:Int) (n1 eR:Int) (rs ds mn ix sx dx:Int) (row:List Int) (bi:Int) (cb:Nat) (k nl:Int) (hne:txNe AA BB) (hC:kC=jC) (hCa:jC≤AA.length) (hAA:AA.length≤100) (hCb:jC≤BB.length) (hBB:BB.length≤100) (eA:AA.drop jC=a) (eB:BB.drop jC=b) (hna:a.length=na+1) (ha:a.length≤100) (hnb:b.length=nb+1) (hb:b.length≤100) (hga:decide (lnI na > 40)=false) (hgb:decide (lnI nb > 40)=false) (hlt:decide (lnI nb<lnI na)=true) (hdf:lnI na-lnI nb=df) (hdfb:-1000≤df∧df≤1000) (hdd:df*2=dd) (hgt:decide (dd > bd)=false) (hn1:lnI nb+1=n1) (hn1b:-1000≤n1∧n1≤1000) (heR:2*n1=eR) (heR2:eR=2*((nb+1:Nat):Int)+2) (hns6:nb+1≤6) (hri:lnI na<2 ^ 62) (hri0:0≤lnI na) (h1:(fW1 (Pw w b1 b2) AA BB (.int bd tbd) 0 kC).Ok2 w b1 b2 84) (h2:(fW2 (Pw w b1 b2) a b (.int bd tbd)).Ok2 w b1 b2 84)
  (hout:(fOut0 (Pw w b1 b2) b a bd (rowX0 3 (nb+1)) ((na+1:Nat):Int) ⟨rs,ds,mn,ix,sx,dx,row,bi,cb,k,nl,false⟩).Ok2 w b1 b2 126) :
  (kLev AA BB ta tb bd tbd rs).Ok2 w b1 b2 168:=by
 exact Con.of2b 126 hsLevS [uS 2 (fSS "str.__eq__" (tx AA) (tx BB) false) [],uS 3 (fW1 (Pw w b1 b2) AA BB (.int bd tbd) 0 kC) [2],uS 5 (fStrCut (tx AA) (some kC) none none (tx a)) [4],uS 7 (fStrCut (tx BB) (some kC) none none (tx b)) [6],uS 8 (fW2 (Pw w b1 b2) a b (.int bd tbd)) [2],uS 12 (fStrCut (tx a) none none none (tx a)) [8],uS 16 (fStrCut (tx b) none none none (tx b)) [10],uS 17 (fLenS (tx a) (lnI na)) [],uS 18 (fLenS (tx b) (lnI nb)) [],uS 20 (fLenS (tx a) (lnI na)) [],uS 22 (fII "int.__gt__" (lnI na) 40 false) [],uS 24 (fLenS (tx b) (lnI nb)) [],uS 26 (fII "int.__gt__" (lnI nb) 40 false) [],uS 28 (fLenS (tx b) (lnI nb)) [],uS 30 (fLenS (tx a) (lnI na)) [],uS 32 (fII "int.__lt__" (lnI nb) (lnI na) true) [],uS 42 (fLenS (tx a) (lnI na)) [],uS 44 (fLenS (tx b) (lnI nb)) [],uS 46 (fIIi "int.__sub__" (lnI na) (lnI nb) df) [],uS 48 (fIIi "int.__mul__" df 2 dd) [],uS 50 (fII "int.__gt__" dd bd false) [],uS 52 (fLenS (tx b) (lnI nb)) [],uS 54 (fIIi "int.__add__" (lnI nb) 1 n1) [],uS 56 (fIIi "int.__mul__" 2 n1 eR) [],uS 58 (fRg3 eR) [],uS 60 (fListR eR (nb+1)) [20],uS 62 (fLenS (tx a) (lnI na)) [],uS 64 (fRg1 (lnI na)) [],uS 66 (fRangeI 0 (lnI na) (na+1)) [24],uS 67 (fOut0 (Pw w b1 b2) b a bd (rowX0 3 (nb+1)) ((na+1:Nat):Int) ⟨rs,ds,mn,ix,sx,dx,row,bi,cb,k,nl,false⟩) [2,22,26]] [] (fun _ _ sg _=>sg 29 2)
  ⟨str_eq_ok hne,h1.mono le84_126,fCutFrom_ok hC hCa hAA eA,fCutFrom_ok hC hCb hBB eB,h2.mono le84_126,fCutAll_ok ha,fCutAll_ok hb,fLenT_ok hna ha,fLenT_ok hnb hb,fLenT_ok hna ha,int_gt_ok hga,fLenT_ok hnb hb,int_gt_ok hgb,fLenT_ok hnb hb,fLenT_ok hna ha,int_lt_ok hlt,fLenT_ok hna ha,fLenT_ok hnb hb,int_sub_ok hdf,int_mul_ok hdfb (by decide) hdd,int_gt_ok hgt,fLenT_ok hnb hb,int_add_ok hn1,int_mul_ok (by decide) hn1b heR,(fam1_ok fun _ _=>kRg3_ok w _ b2 _ _ _ _ _).mono le42_126,(fam1_ok fun _ _=>kListR_ok w _ b2 _ _ _ _ _ _ (Nat.succ_pos _) hns6 heR2).mono le42_126,fLenT_ok hna ha,(fam1_ok fun _ _=>kRg1_ok w _ b2 _ _).mono le42_126,fRangeI_ok (by decide) (.inl (Int.sub_zero _)) hri (by decide) hri0,hout,trivial⟩
noncomputable def hsLevSx:List Nat:=hD 110 0x69861808000000208208008000000000000200200008000208209238e30e38e38e38c38e38e38e30e38e38e30c30c082080002000002000002000082082082082082082082082082082082082082082082000
theorem kLevSx_ok (w:World) (b1 b2:Bool) (AA BB:List Nat) (ta tb:Tok) (bd:Int) (tbd:Tok) (a b:List Nat) (na nb jC:Nat) (kC df dd:Int) (n1 eR:Int) (rs ds mn ix sx dx:Int) (row:List Int) (bi:Int) (cb:Nat) (k nl:Int) (hne:txNe AA BB) (hC:kC=jC) (hCa:jC≤AA.length) (hAA:AA.length≤100) (hCb:jC≤BB.length) (hBB:BB.length≤100) (eA:AA.drop jC=a) (eB:BB.drop jC=b) (hna:a.length=na+1) (ha:a.length≤100) (hnb:b.length=nb+1) (hb:b.length≤100) (hga:decide (lnI na > 40)=false) (hgb:decide (lnI nb > 40)=false) (hlt:decide (lnI nb<lnI na)=true) (hdf:lnI na-lnI nb=df) (hdfb:-1000≤df∧df≤1000) (hdd:df*2=dd) (hgt:decide (dd > bd)=false) (hn1:lnI nb+1=n1) (hn1b:-1000≤n1∧n1≤1000) (heR:2*n1=eR) (heR2:eR=2*((nb+1:Nat):Int)+2) (hns6:nb+1≤6) (hri:lnI na<2 ^ 62) (hri0:0≤lnI na) (h1:(fW1 (Pw w b1 b2) AA BB (.int bd tbd) 0 kC).Ok2 w b1 b2 84) (h2:(fW2 (Pw w b1 b2) a b (.int bd tbd)).Ok2 w b1 b2 84)
  (hout:(fOut0 (Pw w b1 b2) b a bd (rowX0 3 (nb+1)) ((na+1:Nat):Int) ⟨rs,ds,mn,ix,sx,dx,row,bi,cb,k,nl,true⟩).Ok2 w b1 b2 126) :
  (kLev AA BB ta tb bd tbd (bd+1)).Ok2 w b1 b2 168:=by
 exact Con.of2b 126 hsLevSx [uS 2 (fSS "str.__eq__" (tx AA) (tx BB) false) [],uS 3 (fW1 (Pw w b1 b2) AA BB (.int bd tbd) 0 kC) [2],uS 5 (fStrCut (tx AA) (some kC) none none (tx a)) [4],uS 7 (fStrCut (tx BB) (some kC) none none (tx b)) [6],uS 8 (fW2 (Pw w b1 b2) a b (.int bd tbd)) [2],uS 12 (fStrCut (tx a) none none none (tx a)) [8],uS 16 (fStrCut (tx b) none none none (tx b)) [10],uS 17 (fLenS (tx a) (lnI na)) [],uS 18 (fLenS (tx b) (lnI nb)) [],uS 20 (fLenS (tx a) (lnI na)) [],uS 22 (fII "int.__gt__" (lnI na) 40 false) [],uS 24 (fLenS (tx b) (lnI nb)) [],uS 26 (fII "int.__gt__" (lnI nb) 40 false) [],uS 28 (fLenS (tx b) (lnI nb)) [],uS 30 (fLenS (tx a) (lnI na)) [],uS 32 (fII "int.__lt__" (lnI nb) (lnI na) true) [],uS 42 (fLenS (tx a) (lnI na)) [],uS 44 (fLenS (tx b) (lnI nb)) [],uS 46 (fIIi "int.__sub__" (lnI na) (lnI nb) df) [],uS 48 (fIIi "int.__mul__" df 2 dd) [],uS 50 (fII "int.__gt__" dd bd false) [],uS 52 (fLenS (tx b) (lnI nb)) [],uS 54 (fIIi "int.__add__" (lnI nb) 1 n1) [],uS 56 (fIIi "int.__mul__" 2 n1 eR) [],uS 58 (fRg3 eR) [],uS 60 (fListR eR (nb+1)) [20],uS 62 (fLenS (tx a) (lnI na)) [],uS 64 (fRg1 (lnI na)) [],uS 66 (fRangeI 0 (lnI na) (na+1)) [24],uS 67 (fOut0 (Pw w b1 b2) b a bd (rowX0 3 (nb+1)) ((na+1:Nat):Int) ⟨rs,ds,mn,ix,sx,dx,row,bi,cb,k,nl,true⟩) [2,22,26]] [] (fun _ _ sg _=>sg 29 10)
  ⟨str_eq_ok hne,h1.mono le84_126,fCutFrom_ok hC hCa hAA eA,fCutFrom_ok hC hCb hBB eB,h2.mono le84_126,fCutAll_ok ha,fCutAll_ok hb,fLenT_ok hna ha,fLenT_ok hnb hb,fLenT_ok hna ha,int_gt_ok hga,fLenT_ok hnb hb,int_gt_ok hgb,fLenT_ok hnb hb,fLenT_ok hna ha,int_lt_ok hlt,fLenT_ok hna ha,fLenT_ok hnb hb,int_sub_ok hdf,int_mul_ok hdfb (by decide) hdd,int_gt_ok hgt,fLenT_ok hnb hb,int_add_ok hn1,int_mul_ok (by decide) hn1b heR,(fam1_ok fun _ _=>kRg3_ok w _ b2 _ _ _ _ _).mono le42_126,(fam1_ok fun _ _=>kListR_ok w _ b2 _ _ _ _ _ _ (Nat.succ_pos _) hns6 heR2).mono le42_126,fLenT_ok hna ha,(fam1_ok fun _ _=>kRg1_ok w _ b2 _ _).mono le42_126,fRangeI_ok (by decide) (.inl (Int.sub_zero _)) hri (by decide) hri0,hout,trivial⟩
end Mine
namespace Mine
theorem row0_is (p:Nat):∀ (n j:Nat) (k:Int),k=2*((j:Int)+1)→row0 k n=rowL p 0 j n
 | 0,_,_,_=>rfl
 | n+1,j,k,h=>by
  have e:k=fL p 0 (j+1):=by rw [h]; unfold fL; omega
  rw [row0,rowL,row0_is p n (j+1) (k+2) (by rw [h]; push_cast; omega),← e]
theorem rowX0_ok (p i n:Nat) (px:List (Nat→Nat)):RowOk p 0 0 n (rowX0 i n px):=by
 unfold rowX0
 rw [row0_is p n 0 2 rfl]
 exact RowOk.of_iL p 0 n _
theorem fL_symm (p i j:Nat):fL p i j=fL p j i:=by unfold fL; rw [Nat.max_comm,Nat.min_comm i j]
theorem subC_symm (x y:Nat):subC x y=subC y x:=by
 unfold subC
 by_cases h:x=y
 ·subst h; rfl
 ·have h':¬ y=x:=fun e=>h e.symm
  rw [if_neg h,if_neg h']
  by_cases e:lw1 x=lw1 y
  ·rw [if_pos e,if_pos e.symm]
  ·have e':¬ lw1 y=lw1 x:=fun z=>e z.symm
   rw [if_neg e,if_neg e']
noncomputable def Costs (p:Nat) (a b:List Nat):Prop:=∀ i j x y,b[i]?=some x→a[j]?=some y→(subC x y=1∨subC x y=2)∧(subC x y=1→i<p∧j<p)∧(i=j→i<p→subC x y=1)
theorem Costs.swap {p:Nat} {a b:List Nat} (h:Costs p a b):Costs p b a:=fun i j x y hx hy=>by
 obtain ⟨h1,h2,h3⟩:=h j i y x hy hx
 rw [subC_symm] at h1 h2 h3
 exact ⟨h1,fun e=>⟨(h2 e).2,(h2 e).1⟩,fun e z=>h3 e.symm (by omega)⟩
theorem Costs.row {p:Nat} {a b:List Nat} (h:Costs p a b) (ha:∀ c∈a,isLet c) {i c:Nat} (hc:b[i]?=some c):CostOk p i a.length c a:=fun j hj=>by
 refine ⟨a[j],List.getElem?_eq_getElem hj,ha _ (List.getElem_mem hj),?_⟩
 exact h i j c _ hc (List.getElem?_eq_getElem hj)
theorem lnI_is (n:Nat):lnI n=(n:Int)+1:=by unfold lnI; push_cast; rfl
theorem lev_ok (w:World) (b1 b2:Bool) (C a b:List Nat) (p:Nat) (bd:Int) (hC:C.length≤40) (ha:∀ c∈a,isLet c) (hb:∀ c∈b,isLet c) (ha6:a.length≤6) (hb6:b.length≤6) (hb0:b≠[]) (hap:Apart a b) (hla:a=[]∨∃ ra x rb y,a=ra++[x]∧b=rb++[y]∧x≠y) (hc:Costs p a b) :
  ∃ told,(told=fL p b.length a.length∨(bd<fL p b.length a.length∧told=bd+1))∧∀ ta tb tbd,(kLev (C++a) (C++b) ta tb bd tbd told).Ok2 w b1 b2 168:=by
 have hne:txNe (C++a) (C++b):=by
  unfold txNe
  cases e:((tx (C++a)).cps.toList==(tx (C++b)).cps.toList) with
  | false=>rfl
  | true =>
   exfalso
   have e:(C++a).map (·+1)=(C++b).map (·+1):=beq_iff_eq.mp e
   have e:C++a=C++b:=by
    have:=congrArg (List.map (·-1)) e
    simpa [List.map_map,Function.comp_def] using this
   have e:=List.append_cancel_left e
   subst e
   rcases hap with rfl | ⟨x,ra,y,rb,e1,e2,hxy⟩
   ·exact hb0 rfl
   ·rw [e1] at e2; exact hxy (List.cons.inj e2).1
 have hAA:(C++a).length≤100:=by simp; omega
 have hBB:(C++b).length≤100:=by simp; omega
 have hCa:C.length≤(C++a).length:=by simp
 have hCb:C.length≤(C++b).length:=by simp
 have eA:(C++a).drop C.length=a:=by simp
 have eB:(C++b).drop C.length=b:=by simp
 obtain ⟨nb,hnb⟩:∃ nb,b.length=nb+1:=⟨b.length-1,by have:=List.length_pos_iff.mpr hb0; omega⟩
 have H1:∀ tbd,(fW1 (Pw w b1 b2) (C++a) (C++b) (.int bd tbd) 0 (C.length:Nat)).Ok2 w b1 b2 84:=fun tbd =>
  w1_run w b1 b2 (C++a) (C++b) (.int bd tbd) a b hap hAA hBB C 0 0 rfl rfl rfl (Nat.zero_le _) (Nat.zero_le _) _ (by omega)
 by_cases ha0:a=[]
 ·subst ha0
  refine ⟨2*(0+lnI nb),.inl ?_,fun ta tb tbd=>?_⟩
  ·rw [lnI_is,hnb]; unfold fL; simp<;>omega
  ·have H2:(fW2 (Pw w b1 b2) [] b (.int bd tbd)).Ok2 w b1 b2 84:=fam1_ok fun _ os=>kW2E_ok w b1 b2 _ _ b _ _ _ _ _ _
   exact kLevE_ok w b1 b2 (C++[]) (C++b) ta tb bd tbd b nb C.length (C.length:Nat) _ _ hne rfl hCa hAA hCb hBB eA eB hnb (by omega) rfl (by rw [lnI_is]; omega) rfl (H1 tbd) H2
 ·obtain ⟨ra,x,rb,y,e1,e2,hxy⟩:=hla.resolve_left ha0
  obtain ⟨na,hna⟩:∃ na,a.length=na+1:=⟨a.length-1,by have:=List.length_pos_iff.mpr ha0; omega⟩
  have H2:∀ tbd,(fW2 (Pw w b1 b2) a b (.int bd tbd)).Ok2 w b1 b2 84:=fun tbd=>fam1_ok fun _ os=>kW2D_ok w b1 b2 _ _ a b _ _ _ _ _ _ x y ra rb (by omega) (by omega) e1 e2 hxy
  have hga:decide (lnI na > 40)=false:=decide_eq_false (by rw [lnI_is]; omega)
  have hgb:decide (lnI nb > 40)=false:=decide_eq_false (by rw [lnI_is]; omega)
  by_cases hlt:nb<na
  ·have hlt':decide (lnI nb<lnI na)=true:=decide_eq_true (by rw [lnI_is,lnI_is]; omega)
   have hend:=fL_end p b.length a.length (by omega)
   rw [fL_symm] at hend
   by_cases hgt:(lnI na-lnI nb)*2 > bd
   ·refine ⟨bd+1,.inr ⟨?_,rfl⟩,fun ta tb tbd=>?_⟩
    ·rw [lnI_is,lnI_is] at hgt; omega
    ·exact kLevSb_ok w b1 b2 (C++a) (C++b) ta tb bd tbd a b na nb C.length (C.length:Nat) _ _ hne rfl hCa hAA hCb hBB eA eB hna (by omega) hnb (by omega) hga hgb hlt' rfl (by rw [lnI_is,lnI_is]; omega) rfl (decide_eq_true hgt) (H1 tbd) (H2 tbd)
   ·obtain ⟨E,gE,HE⟩:=out0 w b1 b2 bd p b.length a.length b a rfl rfl (by omega) (by omega) (by omega) ha (fun i c h=>hc.swap.row hb h) ((na+1:Nat):Int) (by rw [hna])
    have hout:∀ idx,(fOut0 (Pw w b1 b2) b a bd (rowX0 idx (nb+1)) ((na+1:Nat):Int) E).Ok2 w b1 b2 126:=fun idx=>fam2_ok fun _ os px=>HE _ rfl rfl rfl _ _ _ _ _ _ _ _ _ (by rw [hnb]; exact rowX0_ok p idx _ px)
    obtain ⟨rs,ds,mn,ix,sx,dx,row,bi,cb,k,nl,early⟩:=E
    rcases gE with ⟨g1,g2⟩ | ⟨g1,g2⟩
    ·have g1:early=false:=g1
     subst g1
     refine ⟨rs,.inl ?_,fun ta tb tbd=>?_⟩
     ·have g2:rs=fL p a.length b.length:=g2
      rw [g2,fL_symm]
     ·exact kLevS_ok w b1 b2 (C++a) (C++b) ta tb bd tbd a b na nb C.length (C.length:Nat) _ _ _ _ rs ds mn ix sx dx row bi cb k nl hne rfl hCa hAA hCb hBB eA eB hna (by omega) hnb (by omega) hga hgb hlt' rfl (by rw [lnI_is,lnI_is]; omega) rfl (decide_eq_false hgt) rfl (by rw [lnI_is]; omega) rfl (by rw [lnI_is]; push_cast; omega) (by omega) (by rw [lnI_is]; omega) (by rw [lnI_is]; omega) (H1 tbd) (H2 tbd) (hout _)
    ·have g1:early=true:=g1
     subst g1
     refine ⟨bd+1,.inr ⟨by rw [fL_symm]; exact g2,rfl⟩,fun ta tb tbd=>?_⟩
     exact kLevSx_ok w b1 b2 (C++a) (C++b) ta tb bd tbd a b na nb C.length (C.length:Nat) _ _ _ _ rs ds mn ix sx dx row bi cb k nl hne rfl hCa hAA hCb hBB eA eB hna (by omega) hnb (by omega) hga hgb hlt' rfl (by rw [lnI_is,lnI_is]; omega) rfl (decide_eq_false hgt) rfl (by rw [lnI_is]; omega) rfl (by rw [lnI_is]; push_cast; omega) (by omega) (by rw [lnI_is]; omega) (by rw [lnI_is]; omega) (H1 tbd) (H2 tbd) (hout _)
  ·have hlt':decide (lnI nb<lnI na)=false:=decide_eq_false (by rw [lnI_is,lnI_is]; omega)
   have hend:=fL_end p a.length b.length (by omega)
   by_cases hgt:(lnI nb-lnI na)*2 > bd
   ·refine ⟨bd+1,.inr ⟨?_,rfl⟩,fun ta tb tbd=>?_⟩
    ·rw [lnI_is,lnI_is] at hgt; omega
    ·exact kLevNb_ok w b1 b2 (C++a) (C++b) ta tb bd tbd a b na nb C.length (C.length:Nat) _ _ hne rfl hCa hAA hCb hBB eA eB hna (by omega) hnb (by omega) hga hgb hlt' rfl (by rw [lnI_is,lnI_is]; omega) rfl (decide_eq_true hgt) (H1 tbd) (H2 tbd)
   ·obtain ⟨E,gE,HE⟩:=out0 w b1 b2 bd p a.length b.length a b rfl rfl (by omega) (by omega) (by omega) hb (fun i c h=>hc.row ha h) ((nb+1:Nat):Int) (by rw [hnb])
    have hout:∀ idx,(fOut0 (Pw w b1 b2) a b bd (rowX0 idx (na+1)) ((nb+1:Nat):Int) E).Ok2 w b1 b2 126:=fun idx=>fam2_ok fun _ os px=>HE _ rfl rfl rfl _ _ _ _ _ _ _ _ _ (by rw [hna]; exact rowX0_ok p idx _ px)
    obtain ⟨rs,ds,mn,ix,sx,dx,row,bi,cb,k,nl,early⟩:=E
    rcases gE with ⟨g1,g2⟩ | ⟨g1,g2⟩
    ·have g1:early=false:=g1
     subst g1
     refine ⟨rs,.inl g2,fun ta tb tbd=>?_⟩
     exact kLevN_ok w b1 b2 (C++a) (C++b) ta tb bd tbd a b na nb C.length (C.length:Nat) _ _ _ _ rs ds mn ix sx dx row bi cb k nl hne rfl hCa hAA hCb hBB eA eB hna (by omega) hnb (by omega) hga hgb hlt' rfl (by rw [lnI_is,lnI_is]; omega) rfl (decide_eq_false hgt) rfl (by rw [lnI_is]; omega) rfl (by rw [lnI_is]; push_cast; omega) (by omega) (by rw [lnI_is]; omega) (by rw [lnI_is]; omega) (H1 tbd) (H2 tbd) (hout _)
    ·have g1:early=true:=g1
     subst g1
     refine ⟨bd+1,.inr ⟨g2,rfl⟩,fun ta tb tbd=>?_⟩
     exact kLevNx_ok w b1 b2 (C++a) (C++b) ta tb bd tbd a b na nb C.length (C.length:Nat) _ _ _ _ rs ds mn ix sx dx row bi cb k nl hne rfl hCa hAA hCb hBB eA eB hna (by omega) hnb (by omega) hga hgb hlt' rfl (by rw [lnI_is,lnI_is]; omega) rfl (decide_eq_false hgt) rfl (by rw [lnI_is]; omega) rfl (by rw [lnI_is]; push_cast; omega) (by omega) (by rw [lnI_is]; omega) (by rw [lnI_is]; omega) (H1 tbd) (H2 tbd) (hout _)
end Mine
namespace Mine
namespace Sn
noncomputable def ifN (e:PySem.Expr):PySem.Expr:=match e with
 | .ListComp _ (g::_) _ _=>(match g.ifs with | i::_=>i | []=>default)
 | _=>default
noncomputable def leftE (e:PySem.Expr):PySem.Expr:=match e with
 | .Compare l _ _ _=>l
 | _=>default
noncomputable def snO (P:Params):PySem.Expr:=retE (stN (stsOf P 197) 0)
noncomputable def snI (P:Params):PySem.Expr:=leftE (ifN (snO P))
noncomputable def ceO (v:Value):Obj:={cls:=.type "cell",data:=.cell (some v)}
noncomputable def ownSc (outer inner:Scope):Scope:={inner with names:=inner.names.map fun q=>match q.2,outer.names.lookup q.1 with
 | .free,some .cell=>(q.1,.cell)
 | _,_=>q}
noncomputable def soSc (P:Params):Scope:=ownSc (fdOf P 197).scope (lcScope (snO P))
noncomputable def siSc (P:Params):Scope:=ownSc (soSc P) (lcScope (snI P))
noncomputable def siEnv (P:Params) (L D CI CH:Addr):Env:={cEnv P 197 (snI P) "_law_seen.<locals>." L D [(Str.ofString "i",CI),(Str.ofString "houses",CH)] with scope:=siSc P}
noncomputable def jD (P:Params) (kt:Tok) (j:Int) (tj:Tok) (de:Nat):Obj:={cls:=.type "dict",data:=.dict ⟨[ent P "j" kt (.int j tj)]⟩ de}
noncomputable def dE0:Obj:={cls:=.type "dict",data:=.dict ⟨[]⟩ 0}
structure SA where
 L:Addr
 H:Addr
 CH:Addr
 CI:Addr
 hs:List Value
 eh:Nat
 i:Int
 ti:Tok
noncomputable def siFix (a:SA):List (Addr×Obj):=[(a.H,lsO a.hs a.eh),(a.CH,ceO (.ref a.H)),(a.CI,ceO (.int a.i a.ti))]
noncomputable def kSi (P:Params) (a:SA) (I A D:Addr) (k nl:Int) (its:List Value) (ea:Nat) (kt:Tok) (j:Int) (tj:Tok) (de:Nat) (js:List Int) (j' k':Int):Con :=
 ⟨.compLoop (snI P) 0 (.ref I) (.ref A) (siEnv P a.L D a.CI a.CH),siFix a++[(I,rgIt k nl),(A,lsO its ea),(D,jD P kt j tj de)],
  fun xs=>(siFix a).map (·.2)++[rgIt k' 0,lsO (nlV its js fun n=>xs (n+2)) (epL js ea),jD P kt j' (xs 0) de],fun _=>[],fun _=>.ok .next⟩
noncomputable def kSi0 (P:Params) (a:SA) (I A D:Addr) (k nl:Int) (its:List Value) (ea:Nat) (js:List Int) (j' k':Int):Con :=
 ⟨.compLoop (snI P) 0 (.ref I) (.ref A) (siEnv P a.L D a.CI a.CH),siFix a++[(I,rgIt k nl),(A,lsO its ea),(D,dE0)],
  fun xs=>(siFix a).map (·.2)++[rgIt k' 0,lsO (nlV its js fun n=>xs (n+2)) (epL js ea),jD P (xs 1) j' (xs 0) 1],fun _=>[],fun _=>.ok .next⟩
noncomputable def kSi00 (P:Params) (a:SA) (I A D:Addr) (k nl:Int) (its:List Value) (ea:Nat):Con :=
 ⟨.compLoop (snI P) 0 (.ref I) (.ref A) (siEnv P a.L D a.CI a.CH),siFix a++[(I,rgIt k nl),(A,lsO its ea),(D,dE0)],
  fun xs=>(siFix a).map (·.2)++[rgIt k 0,lsO its ea,dE0],fun _=>[],fun _=>.ok .next⟩
noncomputable def fSi (P:Params) (a:SA) (k nl:Int) (its:List (Nat→Nat)→List Value) (j:Int) (js:List Int) (j' k':Int):Fam:=fam2 fun _ os px =>
 kSi P a (adN os 3) (adN os 4) (adN os 5) k nl (its px) (epN os 4) (tokV (keyN os 5 0)) j (tokV (vN os 5 0)) (epN os 5) js j' k'
theorem kSiE_ok (w:World) (b1 b2:Bool) (a:SA) (I A D:Addr) (k:Int) (its:List Value) (ea:Nat) (kt:Tok) (j:Int) (tj:Tok) (de:Nat):(kSi (Pw w b1 b2) a I A D k 0 its ea kt j tj de [] j k).Ok2 w b1 b2 84 :=
 Con.of2 42 [7,7,4] [uS 1 (fNextRE k 0 1) [7]] [] (fun _ _ _ _=>tj) ⟨fNextRE_ok (Int.le_refl 0),trivial⟩
theorem kSi00_ok (w:World) (b1 b2:Bool) (a:SA) (I A D:Addr) (k:Int) (its:List Value) (ea:Nat):(kSi00 (Pw w b1 b2) a I A D k 0 its ea).Ok2 w b1 b2 84 :=
 Con.of2 42 [7,7,4] [uS 1 (fNextRE k 0 1) [7]] [] (fun _ _ _ _=>0) ⟨fNextRE_ok (Int.le_refl 0),trivial⟩
theorem kSiT_ok (w:World) (b1 b2:Bool) (a:SA) (I A D:Addr) (k nl:Int) (its:List Value) (ea:Nat) (kt:Tok) (j:Int) (tj:Tok) (de:Nat) (js:List Int) (j' k':Int) (yk yi:Str) (tk ti':Tok) (ki ii:Nat) (nk ni:Int) (hnl:0<nl) (hk:k=ki) (hi:a.i=ii) (gk:a.hs[ki]?=some (.str yk tk)) (gi:a.hs[ii]?=some (.str yi ti')) (hz:a.hs.length≤sizeLine) (hnk:nk=yk.length) (lk:yk.length≤sizeLine) (hni:ni=yi.length) (li:yi.length≤sizeLine) (hge:decide (nk≥ni)=true) (hits:its.length≤1000)
  (ih:(fSi (Pw w b1 b2) a (k+1) (nl-1) (fun px=>its.concat (.int k (pxN px 6 0))) k js j' k').Ok2 w b1 b2 84):(kSi (Pw w b1 b2) a I A D k nl its ea kt j tj de (k::js) j' k').Ok2 w b1 b2 84:=by
 have hiz:its.length≤sizeLine:=by rw [sizeLine_eq]; omega
 exact Con.of2b 42 (hD 22 0x24b0410411430000410412c30002cb1c7) [uS 1 (fNextR k nl 1) [7],uS 3 (fGetI ⟨a.hs⟩ k (.str yk tk)) [1],uS 5 (fLenS yk nk) [],uS 7 (fGetI ⟨a.hs⟩ a.i (.str yi ti')) [1],uS 9 (fLenS yi ni) [],uS 11 (fII "int.__ge__" nk ni true) [],uS 13 (fAppend ⟨its⟩) [9],⟨14,fSi (Pw w b1 b2) a (k+1) (nl-1) (fun px=>its.concat (.int k (pxN px 6 0))) k js j' k',[1,3,5,7,9,11],true⟩] [] (fun _ _ sg n=>match n with | 0=>sg 7 2 | 1=>0 | 2=>sg 0 2 | n+3=>sg 7 (n+4))
  ⟨fNextR_ok hnl,fGetI_ok ki hk (by simpa using gk) hz,fLenS_ok hnk lk,fGetI_ok ii hi (by simpa using gi) hz,fLenS_ok hni li,int_ge_ok hge,fAppend_ok hiz,ih,trivial⟩
theorem kSiF_ok (w:World) (b1 b2:Bool) (a:SA) (I A D:Addr) (k nl:Int) (its:List Value) (ea:Nat) (kt:Tok) (j:Int) (tj:Tok) (de:Nat) (js:List Int) (j' k':Int) (yk yi:Str) (tk ti':Tok) (ki ii:Nat) (nk ni:Int) (hnl:0<nl) (hk:k=ki) (hi:a.i=ii) (gk:a.hs[ki]?=some (.str yk tk)) (gi:a.hs[ii]?=some (.str yi ti')) (hz:a.hs.length≤sizeLine) (hnk:nk=yk.length) (lk:yk.length≤sizeLine) (hni:ni=yi.length) (li:yi.length≤sizeLine) (hge:decide (nk≥ni)=false) (hits:its.length≤1000)
  (ih:(fSi (Pw w b1 b2) a (k+1) (nl-1) (fun _=>its) k js j' k').Ok2 w b1 b2 84):(kSi (Pw w b1 b2) a I A D k nl its ea kt j tj de js j' k').Ok2 w b1 b2 84:=by
 have hiz:its.length≤sizeLine:=by rw [sizeLine_eq]; omega
 exact Con.of2b 42 (hD 20 0x410411430000410412c30002cb1c7) [uS 1 (fNextR k nl 1) [7],uS 3 (fGetI ⟨a.hs⟩ k (.str yk tk)) [1],uS 5 (fLenS yk nk) [],uS 7 (fGetI ⟨a.hs⟩ a.i (.str yi ti')) [1],uS 9 (fLenS yi ni) [],uS 11 (fII "int.__ge__" nk ni false) [],⟨12,fSi (Pw w b1 b2) a (k+1) (nl-1) (fun _=>its) k js j' k',[1,3,5,7,9,11],true⟩] [] (fun _ _ sg n=>match n with | 0=>sg 6 2 | 1=>0 | n+2=>sg 6 (n+4))
  ⟨fNextR_ok hnl,fGetI_ok ki hk (by simpa using gk) hz,fLenS_ok hnk lk,fGetI_ok ii hi (by simpa using gi) hz,fLenS_ok hni li,int_ge_ok hge,ih,trivial⟩
theorem kSi0T_ok (w:World) (b1 b2:Bool) (a:SA) (I A D:Addr) (k nl:Int) (its:List Value) (ea:Nat) (js:List Int) (j' k':Int) (yk yi:Str) (tk ti':Tok) (ki ii:Nat) (nk ni:Int) (hnl:0<nl) (hk:k=ki) (hi:a.i=ii) (gk:a.hs[ki]?=some (.str yk tk)) (gi:a.hs[ii]?=some (.str yi ti')) (hz:a.hs.length≤sizeLine) (hnk:nk=yk.length) (lk:yk.length≤sizeLine) (hni:ni=yi.length) (li:yi.length≤sizeLine) (hge:decide (nk≥ni)=true) (hits:its.length≤1000)
  (ih:(fSi (Pw w b1 b2) a (k+1) (nl-1) (fun px=>its.concat (.int k (pxN px 6 0))) k js j' k').Ok2 w b1 b2 84):(kSi0 (Pw w b1 b2) a I A D k nl its ea (k::js) j' k').Ok2 w b1 b2 84:=by
 have hiz:its.length≤sizeLine:=by rw [sizeLine_eq]; omega
 exact Con.of2b 42 (hD 22 0x24b0410411430000410412c30002cb1c7) [uS 1 (fNextR k nl 1) [7],uS 3 (fGetI ⟨a.hs⟩ k (.str yk tk)) [1],uS 5 (fLenS yk nk) [],uS 7 (fGetI ⟨a.hs⟩ a.i (.str yi ti')) [1],uS 9 (fLenS yi ni) [],uS 11 (fII "int.__ge__" nk ni true) [],uS 13 (fAppend ⟨its⟩) [9],⟨14,fSi (Pw w b1 b2) a (k+1) (nl-1) (fun px=>its.concat (.int k (pxN px 6 0))) k js j' k',[1,3,5,7,9,11],true⟩] [] (fun _ _ sg n=>match n with | 0=>sg 7 2 | 1=>sg 0 1 | 2=>sg 0 2 | n+3=>sg 7 (n+4))
  ⟨fNextR_ok hnl,fGetI_ok ki hk (by simpa using gk) hz,fLenS_ok hnk lk,fGetI_ok ii hi (by simpa using gi) hz,fLenS_ok hni li,int_ge_ok hge,fAppend_ok hiz,ih,trivial⟩
theorem kSi0F_ok (w:World) (b1 b2:Bool) (a:SA) (I A D:Addr) (k nl:Int) (its:List Value) (ea:Nat) (js:List Int) (j' k':Int) (yk yi:Str) (tk ti':Tok) (ki ii:Nat) (nk ni:Int) (hnl:0<nl) (hk:k=ki) (hi:a.i=ii) (gk:a.hs[ki]?=some (.str yk tk)) (gi:a.hs[ii]?=some (.str yi ti')) (hz:a.hs.length≤sizeLine) (hnk:nk=yk.length) (lk:yk.length≤sizeLine) (hni:ni=yi.length) (li:yi.length≤sizeLine) (hge:decide (nk≥ni)=false) (hits:its.length≤1000)
  (ih:(fSi (Pw w b1 b2) a (k+1) (nl-1) (fun _=>its) k js j' k').Ok2 w b1 b2 84):(kSi0 (Pw w b1 b2) a I A D k nl its ea js j' k').Ok2 w b1 b2 84:=by
 have hiz:its.length≤sizeLine:=by rw [sizeLine_eq]; omega
 exact Con.of2b 42 (hD 20 0x410411430000410412c30002cb1c7) [uS 1 (fNextR k nl 1) [7],uS 3 (fGetI ⟨a.hs⟩ k (.str yk tk)) [1],uS 5 (fLenS yk nk) [],uS 7 (fGetI ⟨a.hs⟩ a.i (.str yi ti')) [1],uS 9 (fLenS yi ni) [],uS 11 (fII "int.__ge__" nk ni false) [],⟨12,fSi (Pw w b1 b2) a (k+1) (nl-1) (fun _=>its) k js j' k',[1,3,5,7,9,11],true⟩] [] (fun _ _ sg n=>match n with | 0=>sg 6 2 | 1=>sg 0 1 | n+2=>sg 6 (n+4))
  ⟨fNextR_ok hnl,fGetI_ok ki hk (by simpa using gk) hz,fLenS_ok hnk lk,fGetI_ok ii hi (by simpa using gi) hz,fLenS_ok hni li,int_ge_ok hge,ih,trivial⟩
end Sn
end Mine
namespace Mine
namespace Sn
noncomputable def kRg2 (a b:Int) (t u:Tok):Con:=⟨.builtin "type.__call__" ⟨[.type "range",.int a t,.int b u],[]⟩,[],fun _=>[],fun xs=>[(xs 0,rgO a b 1 t u (xs 1))],fun xs=>.ok (.ret (.ref (xs 0)))⟩
theorem kRg2_ok (w:World) (b1 b2:Bool) (a b:Int) (t u:Tok):(kRg2 a b t u).Ok2 w b1 b2 42:=by
 exact Con.of2b 0 [2,2,2,2] [] [0] (fun N T _ j=>match j with | 0=>N+213 | _=>T) trivial
noncomputable def fRg2 (a b:Int):Fam:=fam1 fun c _=>kRg2 a b (argT c 1) (argT c 2)
structure SO where
 L:Addr
 D:Addr
 H:Addr
 CH:Addr
 CK:Addr
 CI:Addr
 hs:List Value
 eh:Nat
 kk:Int
 tkk:Tok
noncomputable def soEnv (P:Params) (o:SO):Env:={cEnv P 197 (snO P) "_law_seen.<locals>." o.L o.D [(Str.ofString "i",o.CI),(Str.ofString "k",o.CK),(Str.ofString "houses",o.CH)] with scope:=soSc P}
noncomputable def kSo (P:Params) (o:SO) (I A:Addr) (ci:Option Value) (k nl:Int) (its:List Value) (ea:Nat) (is:List Int) (i' k':Int):Con :=
 ⟨.compLoop (snO P) 0 (.ref I) (.ref A) (soEnv P o),[(o.H,lsO o.hs o.eh),(o.CH,ceO (.ref o.H)),(o.CK,ceO (.int o.kk o.tkk)),(I,rgIt k nl),(A,lsO its ea),(o.CI,{cls:=.type "cell",data:=.cell ci})],
  fun xs=>[lsO o.hs o.eh,ceO (.ref o.H),ceO (.int o.kk o.tkk),rgIt k' 0,lsO (nlV its is fun n=>xs (n+1)) (epL is ea),ceO (.int i' (xs 0))],fun _=>[],fun _=>.ok .next⟩
noncomputable def fSo (P:Params) (o:SO) (k nl:Int) (i:Int) (its:List (Nat→Nat)→List Value) (is:List Int) (i' k':Int):Fam:=fam2 fun _ os px =>
 kSo P o (adN os 3) (adN os 4) (some (.int i (tokV (vN os 5 0)))) k nl (its px) (epN os 4) is i' k'
theorem kSoE_ok (w:World) (b1 b2:Bool) (o:SO) (I A:Addr) (i:Int) (ti:Tok) (k:Int) (its:List Value) (ea:Nat):(kSo (Pw w b1 b2) o I A (some (.int i ti)) k 0 its ea [] i k).Ok2 w b1 b2 126 :=
 Con.of2 84 [7,7,4] [uS 1 (fNextRE k 0 1) [7]] [] (fun _ _ _ _=>ti) ⟨fNextRE_ok (Int.le_refl 0),trivial⟩
noncomputable def saN (L:Addr) (hs:List Value) (k:Int) (os:List (Addr×Obj)):SA:=⟨L,adN os 0,adN os 1,adN os 2,hs,epN os 0,k,tokV (vN os 2 0)⟩
noncomputable def fSi0 (P:Params) (L:Addr) (hs:List Value) (k k1 nl:Int) (js:List Int) (j' k':Int):Fam:=fam1 fun _ os=>kSi0 P (saN L hs k os) (adN os 3) (adN os 4) (adN os 5) k1 nl [] 0 js j' k'
noncomputable def fSi00 (P:Params) (L:Addr) (hs:List Value) (k k1:Int):Fam:=fam1 fun _ os=>kSi00 P (saN L hs k os) (adN os 3) (adN os 4) (adN os 5) k1 0 [] 0
noncomputable def fEqX (js:List Int) (r:Bool):Fam:=fam2 fun _ os px=>kEqL (adN os 0) (adN os 1) ⟨.type "list",oD os 0,.seq ⟨nlV [] js fun n=>pxN px 0 (n+2)⟩ (epN os 0),oS os 0⟩ ⟨.type "list",oD os 1,.seq ⟨[]⟩ (epN os 1),oS os 1⟩ r
theorem fEqX_nil {prog:Program} {w:World} {kt:Addr→Option Obj} {x:Nat}:(fEqX [] true).Ok (model prog w) kt x:=fam2_ok fun _ _ _=>kEqL_ok _ _ _ _ _ _ _ _ _ _ rfl (fun _=>true) (fun j h=>absurd h (by show ¬ j<0; omega)) true rfl
theorem fEqX_cons {prog:Program} {w:World} {kt:Addr→Option Obj} {x:Nat} {js:List Int} (h:js≠[]):(fEqX js false).Ok (model prog w) kt x:=fam2_ok fun _ _ _=>kEqL2_ok _ _ _ _ _ _ _ _ _ _ (by
 have:js.length≠0:=fun e=>h (List.length_eq_zero_iff.mp e)
 show ((nlV [] js _).length != 0)=true
 rw [nlV_length]
 simp; exact h)
theorem kSoV_ok (w:World) (b1 b2:Bool) (o:SO) (I A:Addr) (ci:Option Value) (k nl:Int) (its:List Value) (ea:Nat) (is:List Int) (i' k':Int) (k1 kk1:Int) (nn:Nat) (j1 kx:Int) (hnl:0<nl) (hk1:k+1=k1) (hkk:o.kk+1=kk1) (h0:0≤k1) (hnn:kk1-k1=nn) (hb:kk1<1000) (hits:its.length≤1000)
  (hin:(fSi0 (Pw w b1 b2) o.L o.hs k k1 (nn:Nat) [] j1 kx).Ok2 w b1 b2 84) (ih:(fSo (Pw w b1 b2) o (k+1) (nl-1) k (fun px=>its.concat (.int k (pxN px 7 0))) is i' k').Ok2 w b1 b2 126):(kSo (Pw w b1 b2) o I A ci k nl its ea (k::is) i' k').Ok2 w b1 b2 126:=by
 have hiz:its.length≤sizeLine:=by rw [sizeLine_eq]; omega
 skip
 cases b1<;>cases b2
 ·exact Con.of2 84 (hD 25 0x92c618a18820810410410208214b0002cb1c7) [uS 1 (fNextR k nl 1) [7],uS 3 (fIIi "int.__add__" k 1 k1) [],uS 5 (fIIi "int.__add__" o.kk 1 kk1) [],uS 7 (fRg2 k1 kk1) [],uS 9 (fRangeI k1 kk1 nn) [2],uS 13 (fSi0 (Pw w false false) o.L o.hs k k1 (nn:Nat) [] j1 kx) [1,3,11,4,6,8],uS 15 (fEqX [] true) [6,10],uS 17 (fAppend ⟨its⟩) [9],⟨18,fSo (Pw w false false) o (k+1) (nl-1) k (fun px=>its.concat (.int k (pxN px 7 0))) is i' k',[1,3,5,7,9,11],true⟩] [] (fun _ _ sg n=>match n with | 0=>sg 8 2 | 1=>sg 0 2 | n+2=>sg 8 (n+3))
   ⟨fNextR_ok hnl,int_add_ok hk1,int_add_ok hkk,(fam1_ok fun _ _=>kRg2_ok w _ _ _ _ _ _).mono le42_84,fRangeI_ok h0 (.inl hnn) (by omega) (by omega) (by omega),hin,fEqX_nil,fAppend_ok hiz,ih,trivial⟩
 ·exact Con.of2 84 (hD 21 0x92c618a18820810208214b0002cb1c7) [uS 1 (fNextR k nl 1) [7],uS 3 (fIIi "int.__add__" k 1 k1) [],uS 5 (fIIi "int.__add__" o.kk 1 kk1) [],uS 7 (fRg2 k1 kk1) [],uS 9 (fRangeI k1 kk1 nn) [2],uS 11 (fSi0 (Pw w false true) o.L o.hs k k1 (nn:Nat) [] j1 kx) [1,3,11,4,6,8],uS 13 (fEqX [] true) [6,10],uS 15 (fAppend ⟨its⟩) [9],⟨16,fSo (Pw w false true) o (k+1) (nl-1) k (fun px=>its.concat (.int k (pxN px 7 0))) is i' k',[1,3,5,7,9,11],true⟩] [] (fun _ _ sg n=>match n with | 0=>sg 8 2 | 1=>sg 0 2 | n+2=>sg 8 (n+3))
   ⟨fNextR_ok hnl,int_add_ok hk1,int_add_ok hkk,(fam1_ok fun _ _=>kRg2_ok w _ _ _ _ _ _).mono le42_84,fRangeI_ok h0 (.inl hnn) (by omega) (by omega) (by omega),hin,fEqX_nil,fAppend_ok hiz,ih,trivial⟩
 ·exact Con.of2 84 (hD 25 0x92c618a18820810410410208214b0002cb1c7) [uS 1 (fNextR k nl 1) [7],uS 3 (fIIi "int.__add__" k 1 k1) [],uS 5 (fIIi "int.__add__" o.kk 1 kk1) [],uS 7 (fRg2 k1 kk1) [],uS 9 (fRangeI k1 kk1 nn) [2],uS 13 (fSi0 (Pw w true false) o.L o.hs k k1 (nn:Nat) [] j1 kx) [1,3,11,4,6,8],uS 15 (fEqX [] true) [6,10],uS 17 (fAppend ⟨its⟩) [9],⟨18,fSo (Pw w true false) o (k+1) (nl-1) k (fun px=>its.concat (.int k (pxN px 7 0))) is i' k',[1,3,5,7,9,11],true⟩] [] (fun _ _ sg n=>match n with | 0=>sg 8 2 | 1=>sg 0 2 | n+2=>sg 8 (n+3))
   ⟨fNextR_ok hnl,int_add_ok hk1,int_add_ok hkk,(fam1_ok fun _ _=>kRg2_ok w _ _ _ _ _ _).mono le42_84,fRangeI_ok h0 (.inl hnn) (by omega) (by omega) (by omega),hin,fEqX_nil,fAppend_ok hiz,ih,trivial⟩
 ·exact Con.of2 84 (hD 21 0x92c618a18820810208214b0002cb1c7) [uS 1 (fNextR k nl 1) [7],uS 3 (fIIi "int.__add__" k 1 k1) [],uS 5 (fIIi "int.__add__" o.kk 1 kk1) [],uS 7 (fRg2 k1 kk1) [],uS 9 (fRangeI k1 kk1 nn) [2],uS 11 (fSi0 (Pw w true true) o.L o.hs k k1 (nn:Nat) [] j1 kx) [1,3,11,4,6,8],uS 13 (fEqX [] true) [6,10],uS 15 (fAppend ⟨its⟩) [9],⟨16,fSo (Pw w true true) o (k+1) (nl-1) k (fun px=>its.concat (.int k (pxN px 7 0))) is i' k',[1,3,5,7,9,11],true⟩] [] (fun _ _ sg n=>match n with | 0=>sg 8 2 | 1=>sg 0 2 | n+2=>sg 8 (n+3))
   ⟨fNextR_ok hnl,int_add_ok hk1,int_add_ok hkk,(fam1_ok fun _ _=>kRg2_ok w _ _ _ _ _ _).mono le42_84,fRangeI_ok h0 (.inl hnn) (by omega) (by omega) (by omega),hin,fEqX_nil,fAppend_ok hiz,ih,trivial⟩
theorem kSoH_ok (w:World) (b1 b2:Bool) (o:SO) (I A:Addr) (ci:Option Value) (k nl:Int) (its:List Value) (ea:Nat) (is:List Int) (i' k':Int) (k1 kk1:Int) (nn:Nat) (j1 kx:Int) (js:List Int) (hnl:0<nl) (hk1:k+1=k1) (hkk:o.kk+1=kk1) (h0:0≤k1) (hnn:kk1-k1=nn) (hb:kk1<1000) (hits:its.length≤1000) (hjs:js≠[])
  (hin:(fSi0 (Pw w b1 b2) o.L o.hs k k1 (nn:Nat) js j1 kx).Ok2 w b1 b2 84) (ih:(fSo (Pw w b1 b2) o (k+1) (nl-1) k (fun _=>its) is i' k').Ok2 w b1 b2 126):(kSo (Pw w b1 b2) o I A ci k nl its ea is i' k').Ok2 w b1 b2 126:=by
 have hiz:its.length≤sizeLine:=by rw [sizeLine_eq]; omega
 skip
 cases b1<;>cases b2
 ·exact Con.of2 84 (hD 23 0x618a18820810410410208214b0002cb1c7) [uS 1 (fNextR k nl 1) [7],uS 3 (fIIi "int.__add__" k 1 k1) [],uS 5 (fIIi "int.__add__" o.kk 1 kk1) [],uS 7 (fRg2 k1 kk1) [],uS 9 (fRangeI k1 kk1 nn) [2],uS 13 (fSi0 (Pw w false false) o.L o.hs k k1 (nn:Nat) js j1 kx) [1,3,11,4,6,8],uS 15 (fEqX js false) [6,10],⟨16,fSo (Pw w false false) o (k+1) (nl-1) k (fun _=>its) is i' k',[1,3,5,7,9,11],true⟩] [] (fun _ _ sg n=>match n with | 0=>sg 7 2 | n+1=>sg 7 (n+3))
   ⟨fNextR_ok hnl,int_add_ok hk1,int_add_ok hkk,(fam1_ok fun _ _=>kRg2_ok w _ _ _ _ _ _).mono le42_84,fRangeI_ok h0 (.inl hnn) (by omega) (by omega) (by omega),hin,fEqX_cons hjs,ih,trivial⟩
 ·exact Con.of2 84 (hD 19 0x618a18820810208214b0002cb1c7) [uS 1 (fNextR k nl 1) [7],uS 3 (fIIi "int.__add__" k 1 k1) [],uS 5 (fIIi "int.__add__" o.kk 1 kk1) [],uS 7 (fRg2 k1 kk1) [],uS 9 (fRangeI k1 kk1 nn) [2],uS 11 (fSi0 (Pw w false true) o.L o.hs k k1 (nn:Nat) js j1 kx) [1,3,11,4,6,8],uS 13 (fEqX js false) [6,10],⟨14,fSo (Pw w false true) o (k+1) (nl-1) k (fun _=>its) is i' k',[1,3,5,7,9,11],true⟩] [] (fun _ _ sg n=>match n with | 0=>sg 7 2 | n+1=>sg 7 (n+3))
   ⟨fNextR_ok hnl,int_add_ok hk1,int_add_ok hkk,(fam1_ok fun _ _=>kRg2_ok w _ _ _ _ _ _).mono le42_84,fRangeI_ok h0 (.inl hnn) (by omega) (by omega) (by omega),hin,fEqX_cons hjs,ih,trivial⟩
 ·exact Con.of2 84 (hD 23 0x618a18820810410410208214b0002cb1c7) [uS 1 (fNextR k nl 1) [7],uS 3 (fIIi "int.__add__" k 1 k1) [],uS 5 (fIIi "int.__add__" o.kk 1 kk1) [],uS 7 (fRg2 k1 kk1) [],uS 9 (fRangeI k1 kk1 nn) [2],uS 13 (fSi0 (Pw w true false) o.L o.hs k k1 (nn:Nat) js j1 kx) [1,3,11,4,6,8],uS 15 (fEqX js false) [6,10],⟨16,fSo (Pw w true false) o (k+1) (nl-1) k (fun _=>its) is i' k',[1,3,5,7,9,11],true⟩] [] (fun _ _ sg n=>match n with | 0=>sg 7 2 | n+1=>sg 7 (n+3))
   ⟨fNextR_ok hnl,int_add_ok hk1,int_add_ok hkk,(fam1_ok fun _ _=>kRg2_ok w _ _ _ _ _ _).mono le42_84,fRangeI_ok h0 (.inl hnn) (by omega) (by omega) (by omega),hin,fEqX_cons hjs,ih,trivial⟩
 ·exact Con.of2 84 (hD 19 0x618a18820810208214b0002cb1c7) [uS 1 (fNextR k nl 1) [7],uS 3 (fIIi "int.__add__" k 1 k1) [],uS 5 (fIIi "int.__add__" o.kk 1 kk1) [],uS 7 (fRg2 k1 kk1) [],uS 9 (fRangeI k1 kk1 nn) [2],uS 11 (fSi0 (Pw w true true) o.L o.hs k k1 (nn:Nat) js j1 kx) [1,3,11,4,6,8],uS 13 (fEqX js false) [6,10],⟨14,fSo (Pw w true true) o (k+1) (nl-1) k (fun _=>its) is i' k',[1,3,5,7,9,11],true⟩] [] (fun _ _ sg n=>match n with | 0=>sg 7 2 | n+1=>sg 7 (n+3))
   ⟨fNextR_ok hnl,int_add_ok hk1,int_add_ok hkk,(fam1_ok fun _ _=>kRg2_ok w _ _ _ _ _ _).mono le42_84,fRangeI_ok h0 (.inl hnn) (by omega) (by omega) (by omega),hin,fEqX_cons hjs,ih,trivial⟩
theorem kSoL_ok (w:World) (b1 b2:Bool) (o:SO) (I A:Addr) (ci:Option Value) (k nl:Int) (its:List Value) (ea:Nat) (is:List Int) (i' k':Int) (k1 kk1:Int) (nn:Nat) (hnl:0<nl) (hk1:k+1=k1) (hkk:o.kk+1=kk1) (h0:0≤k1) (hnn:kk1-k1=nn) (hb:kk1<1000) (hits:its.length≤1000) (hn0:nn=0)
  (hin:(fSi00 (Pw w b1 b2) o.L o.hs k k1).Ok2 w b1 b2 84) (ih:(fSo (Pw w b1 b2) o (k+1) (nl-1) k (fun px=>its.concat (.int k (pxN px 7 0))) is i' k').Ok2 w b1 b2 126):(kSo (Pw w b1 b2) o I A ci k nl its ea (k::is) i' k').Ok2 w b1 b2 126:=by
 have hiz:its.length≤sizeLine:=by rw [sizeLine_eq]; omega
 subst hn0
 cases b1<;>cases b2
 ·exact Con.of2 84 (hD 23 0x92c618a18810410410208214b0002cb1c7) [uS 1 (fNextR k nl 1) [7],uS 3 (fIIi "int.__add__" k 1 k1) [],uS 5 (fIIi "int.__add__" o.kk 1 kk1) [],uS 7 (fRg2 k1 kk1) [],uS 9 (fRangeI k1 kk1 0) [2],uS 13 (fSi00 (Pw w false false) o.L o.hs k k1) [1,3,11,4,6,8],uS 15 (fEqX [] true) [6,10],uS 17 (fAppend ⟨its⟩) [9],⟨18,fSo (Pw w false false) o (k+1) (nl-1) k (fun px=>its.concat (.int k (pxN px 7 0))) is i' k',[1,3,5,7,9,11],true⟩] [] (fun _ _ sg n=>match n with | 0=>sg 8 2 | 1=>sg 0 2 | n+2=>sg 8 (n+3))
   ⟨fNextR_ok hnl,int_add_ok hk1,int_add_ok hkk,(fam1_ok fun _ _=>kRg2_ok w _ _ _ _ _ _).mono le42_84,fRangeI_ok h0 (.inl hnn) (by omega) (by omega) (by omega),hin,fEqX_nil,fAppend_ok hiz,ih,trivial⟩
 ·exact Con.of2 84 (hD 19 0x92c618a18810208214b0002cb1c7) [uS 1 (fNextR k nl 1) [7],uS 3 (fIIi "int.__add__" k 1 k1) [],uS 5 (fIIi "int.__add__" o.kk 1 kk1) [],uS 7 (fRg2 k1 kk1) [],uS 9 (fRangeI k1 kk1 0) [2],uS 11 (fSi00 (Pw w false true) o.L o.hs k k1) [1,3,11,4,6,8],uS 13 (fEqX [] true) [6,10],uS 15 (fAppend ⟨its⟩) [9],⟨16,fSo (Pw w false true) o (k+1) (nl-1) k (fun px=>its.concat (.int k (pxN px 7 0))) is i' k',[1,3,5,7,9,11],true⟩] [] (fun _ _ sg n=>match n with | 0=>sg 8 2 | 1=>sg 0 2 | n+2=>sg 8 (n+3))
   ⟨fNextR_ok hnl,int_add_ok hk1,int_add_ok hkk,(fam1_ok fun _ _=>kRg2_ok w _ _ _ _ _ _).mono le42_84,fRangeI_ok h0 (.inl hnn) (by omega) (by omega) (by omega),hin,fEqX_nil,fAppend_ok hiz,ih,trivial⟩
 ·exact Con.of2 84 (hD 23 0x92c618a18810410410208214b0002cb1c7) [uS 1 (fNextR k nl 1) [7],uS 3 (fIIi "int.__add__" k 1 k1) [],uS 5 (fIIi "int.__add__" o.kk 1 kk1) [],uS 7 (fRg2 k1 kk1) [],uS 9 (fRangeI k1 kk1 0) [2],uS 13 (fSi00 (Pw w true false) o.L o.hs k k1) [1,3,11,4,6,8],uS 15 (fEqX [] true) [6,10],uS 17 (fAppend ⟨its⟩) [9],⟨18,fSo (Pw w true false) o (k+1) (nl-1) k (fun px=>its.concat (.int k (pxN px 7 0))) is i' k',[1,3,5,7,9,11],true⟩] [] (fun _ _ sg n=>match n with | 0=>sg 8 2 | 1=>sg 0 2 | n+2=>sg 8 (n+3))
   ⟨fNextR_ok hnl,int_add_ok hk1,int_add_ok hkk,(fam1_ok fun _ _=>kRg2_ok w _ _ _ _ _ _).mono le42_84,fRangeI_ok h0 (.inl hnn) (by omega) (by omega) (by omega),hin,fEqX_nil,fAppend_ok hiz,ih,trivial⟩
 ·exact Con.of2 84 (hD 19 0x92c618a18810208214b0002cb1c7) [uS 1 (fNextR k nl 1) [7],uS 3 (fIIi "int.__add__" k 1 k1) [],uS 5 (fIIi "int.__add__" o.kk 1 kk1) [],uS 7 (fRg2 k1 kk1) [],uS 9 (fRangeI k1 kk1 0) [2],uS 11 (fSi00 (Pw w true true) o.L o.hs k k1) [1,3,11,4,6,8],uS 13 (fEqX [] true) [6,10],uS 15 (fAppend ⟨its⟩) [9],⟨16,fSo (Pw w true true) o (k+1) (nl-1) k (fun px=>its.concat (.int k (pxN px 7 0))) is i' k',[1,3,5,7,9,11],true⟩] [] (fun _ _ sg n=>match n with | 0=>sg 8 2 | 1=>sg 0 2 | n+2=>sg 8 (n+3))
   ⟨fNextR_ok hnl,int_add_ok hk1,int_add_ok hkk,(fam1_ok fun _ _=>kRg2_ok w _ _ _ _ _ _).mono le42_84,fRangeI_ok h0 (.inl hnn) (by omega) (by omega) (by omega),hin,fEqX_nil,fAppend_ok hiz,ih,trivial⟩
end Sn
end Mine
namespace Mine
namespace Sn
noncomputable def inJs (ln:Nat→Nat) (i:Nat):Nat→Nat→List Int
 | 0,_=>[]
 | d+1,j=>if ln i≤ln j then ((j:Nat):Int)::inJs ln i d (j+1) else inJs ln i d (j+1)
noncomputable def HsOk (hs:List Value) (ln:Nat→Nat) (N:Nat):Prop:=hs.length≤100∧∀ t,t<N→∃ y tok,hs[t]?=some (.str y tok)∧y.length=ln t∧y.length≤100
theorem siStep (w:World) (b1 b2:Bool) (hs:List Value) (ln:Nat→Nat) (N i j d:Nat) (h:HsOk hs ln N) (hi:i<N) (hj:j<N) (iI k nl:Int) (hiI:iI=i) (hk:k=j) (hnl:nl=(d:Int)+1) (a:SA) (ha:a.hs=hs) (hai:a.i=iI) (its:List Value) (hits:its.length+(d+1)≤1000) (js:List Int) (j' k':Int) :
  (ln i≤ln j→(fSi (Pw w b1 b2) a (k+1) (nl-1) (fun px=>its.concat (.int k (pxN px 6 0))) k js j' k').Ok2 w b1 b2 84→(∀ I A D ea,(kSi0 (Pw w b1 b2) a I A D k nl its ea (k::js) j' k').Ok2 w b1 b2 84)∧∀ I A D ea kt jv tj de,(kSi (Pw w b1 b2) a I A D k nl its ea kt jv tj de (k::js) j' k').Ok2 w b1 b2 84) ∧
  (¬ ln i≤ln j→(fSi (Pw w b1 b2) a (k+1) (nl-1) (fun _=>its) k js j' k').Ok2 w b1 b2 84→(∀ I A D ea,(kSi0 (Pw w b1 b2) a I A D k nl its ea js j' k').Ok2 w b1 b2 84)∧∀ I A D ea kt jv tj de,(kSi (Pw w b1 b2) a I A D k nl its ea kt jv tj de js j' k').Ok2 w b1 b2 84):=by
 subst ha
 obtain ⟨h100,hall⟩:=h
 obtain ⟨yk,tk',gk,lk,lk2⟩:=hall j hj
 obtain ⟨yi,ti',gi,li,li2⟩:=hall i hi
 have hz:a.hs.length≤sizeLine:=by rw [sizeLine_eq]; omega
 have zk:yk.length≤sizeLine:=by rw [sizeLine_eq]; omega
 have zi:yi.length≤sizeLine:=by rw [sizeLine_eq]; omega
 have hai':a.i=(i:Int):=by rw [hai,hiI]
 refine ⟨fun hle ih=>⟨fun I A D ea=>?_,fun I A D ea kt jv tj de=>?_⟩,fun hle ih=>⟨fun I A D ea=>?_,fun I A D ea kt jv tj de=>?_⟩⟩
 ·exact kSi0T_ok w b1 b2 a I A D k nl its ea js j' k' yk yi tk' ti' j i (ln j:Nat) (ln i:Nat) (by omega) hk hai' gk gi hz (by rw [lk]) zk (by rw [li]) zi (decide_eq_true (by omega)) (by omega) ih
 ·exact kSiT_ok w b1 b2 a I A D k nl its ea kt jv tj de js j' k' yk yi tk' ti' j i (ln j:Nat) (ln i:Nat) (by omega) hk hai' gk gi hz (by rw [lk]) zk (by rw [li]) zi (decide_eq_true (by omega)) (by omega) ih
 ·exact kSi0F_ok w b1 b2 a I A D k nl its ea js j' k' yk yi tk' ti' j i (ln j:Nat) (ln i:Nat) (by omega) hk hai' gk gi hz (by rw [lk]) zk (by rw [li]) zi (decide_eq_false (by omega)) (by omega) ih
 ·exact kSiF_ok w b1 b2 a I A D k nl its ea kt jv tj de js j' k' yk yi tk' ti' j i (ln j:Nat) (ln i:Nat) (by omega) hk hai' gk gi hz (by rw [lk]) zk (by rw [li]) zi (decide_eq_false (by omega)) (by omega) ih
noncomputable def SiOk (w:World) (b1 b2:Bool) (hs:List Value) (ln:Nat→Nat) (i d j:Nat):Prop:=∀ (iI k nl:Int),iI=i→k=j→nl=d→∀ jv,∃ j' k',∀ a:SA,a.hs=hs→a.i=iI→∀ its:List (Nat→Nat)→List Value,(∀ px,(its px).length+d≤1000) →
 (fSi (Pw w b1 b2) a k nl its jv (inJs ln i d j) j' k').Ok2 w b1 b2 84
theorem siRun (w:World) (b1 b2:Bool) (hs:List Value) (ln:Nat→Nat) (N i:Nat) (h:HsOk hs ln N) (hi:i<N):∀ d j,j+d≤N→SiOk w b1 b2 hs ln i d j
 | 0,j,hj=>fun iI k nl hiI hk hnl jv=>by
  have:nl=0:=hnl
  subst this
  exact ⟨jv,k,fun a _ _ its _=>fam2_ok fun _ os px=>kSiE_ok w b1 b2 a _ _ _ k _ _ _ jv _ _⟩
 | d+1,j,hj=>fun iI k nl hiI hk hnl jv=>by
  obtain ⟨j',k',H⟩:=siRun w b1 b2 hs ln N i h hi d (j+1) (by omega) iI (k+1) (nl-1) hiI (by omega) (by omega) k
  refine ⟨j',k',fun a ha hai its hits=>fam2_ok fun _ os px=>?_⟩
  have S:=siStep w b1 b2 hs ln N i j d h hi (by omega) iI k nl hiI hk (by omega) a ha hai (its px) (hits px) (inJs ln i d (j+1)) j' k'
  unfold inJs
  by_cases q:ln i≤ln j
  ·rw [if_pos q,← hk]
   exact (S.1 q (H a ha hai _ fun px'=>by simp; have:=hits px; omega)).2 _ _ _ _ _ _ _ _
  ·rw [if_neg q]
   exact (S.2 q (H a ha hai _ fun px'=>by have:=hits px; omega)).2 _ _ _ _ _ _ _ _
theorem siStart (w:World) (b1 b2:Bool) (hs:List Value) (ln:Nat→Nat) (N i d j:Nat) (h:HsOk hs ln N) (hi:i<N) (hj:j+(d+1)≤N) (hd:d<900) (iI k nl:Int) (hiI:iI=i) (hk:k=j) (hnl:nl=((d+1:Nat):Int)) (L:Addr) :
  ∃ j' k',∀ L,(fSi0 (Pw w b1 b2) L hs iI k nl (inJs ln i (d+1) j) j' k').Ok2 w b1 b2 84:=by
 obtain ⟨j',k',H⟩:=siRun w b1 b2 hs ln N i h hi d (j+1) (by omega) iI (k+1) (nl-1) hiI (by omega) (by omega) k
 refine ⟨j',k',fun L=>fam1_ok fun _ os=>?_⟩
 have S:=siStep w b1 b2 hs ln N i j d h hi (by omega) iI k nl hiI hk (by omega) (saN L hs iI os) rfl rfl [] (by simp; omega) (inJs ln i d (j+1)) j' k'
 unfold inJs
 by_cases q:ln i≤ln j
 ·rw [if_pos q,← hk]
  exact (S.1 q (H (saN L hs iI os) rfl rfl _ fun px'=>by simp; omega)).1 _ _ _ _
 ·rw [if_neg q]
  exact (S.2 q (H (saN L hs iI os) rfl rfl _ fun px'=>by simp; omega)).1 _ _ _ _
noncomputable def outIs (ln:Nat→Nat) (K:Nat):Nat→Nat→List Int
 | 0,_=>[]
 | d+1,i=>if inJs ln i (K-i) (i+1)=[] then ((i:Nat):Int)::outIs ln K d (i+1) else outIs ln K d (i+1)
theorem soStep (w:World) (b1 b2:Bool) (hs:List Value) (ln:Nat→Nat) (N K i d:Nat) (h:HsOk hs ln N) (hK:K<N) (hN:N≤100) (hid:i+(d+1)=K+1) (k nl KI:Int) (hk:k=i) (hnl:nl=(d:Int)+1) (hKI:KI=K) (is:List Int) (i' k':Int)
  (ih:∀ o:SO,o.hs=hs→o.kk=KI→∀ its:List (Nat→Nat)→List Value,(∀ px,(its px).length+d≤1000)→(fSo (Pw w b1 b2) o (k+1) (nl-1) k its is i' k').Ok2 w b1 b2 126)
  (o:SO) (ho:o.hs=hs) (hok:o.kk=KI) (I A:Addr) (ci:Option Value) (its:List Value) (ea:Nat) (hits:its.length+(d+1)≤1000) :
  (kSo (Pw w b1 b2) o I A ci k nl its ea (if inJs ln i (K-i) (i+1)=[] then k::is else is) i' k').Ok2 w b1 b2 126:=by
 have hV:=ih o ho hok (fun px=>its.concat (.int k (pxN px 7 0))) (fun px=>by simp; omega)
 have hH:=ih o ho hok (fun _=>its) (fun px=>by omega)
 by_cases hz:K-i=0
 ·rw [hz]
  rw [if_pos (show inJs ln i 0 (i+1)=[] from rfl)]
  have hin:(fSi00 (Pw w b1 b2) o.L o.hs k (k+1)).Ok2 w b1 b2 84:=fam1_ok fun _ os=>kSi00_ok w b1 b2 _ _ _ _ _ _ _
  exact kSoL_ok w b1 b2 o I A ci k nl its ea is i' k' (k+1) (o.kk+1) 0 (by omega) rfl rfl (by omega) (by rw [hok]; omega) (by rw [hok]; omega) (by omega) rfl hin hV
 ·obtain ⟨e,he⟩:∃ e,K-i=e+1:=⟨K-i-1,by omega⟩
  obtain ⟨j1,kx,H⟩:=siStart w b1 b2 hs ln N i e (i+1) h (by omega) (by omega) (by omega) k (k+1) ((e+1:Nat):Int) hk (by omega) rfl 0
  rw [he]
  by_cases q:inJs ln i (e+1) (i+1)=[]
  ·rw [if_pos q]
   have H':=H o.L
   rw [q] at H'
   subst ho
   exact kSoV_ok w b1 b2 o I A ci k nl its ea is i' k' (k+1) (o.kk+1) (e+1) j1 kx (by omega) rfl rfl (by omega) (by rw [hok]; omega) (by rw [hok]; omega) (by omega) H' hV
  ·rw [if_neg q]
   subst ho
   exact kSoH_ok w b1 b2 o I A ci k nl its ea is i' k' (k+1) (o.kk+1) (e+1) j1 kx (inJs ln i (e+1) (i+1)) (by omega) rfl rfl (by omega) (by rw [hok]; omega) (by rw [hok]; omega) (by omega) q (H o.L) hH
theorem soRun (w:World) (b1 b2:Bool) (hs:List Value) (ln:Nat→Nat) (N K:Nat) (h:HsOk hs ln N) (hK:K<N) (hN:N≤100) (KI:Int) (hKI:KI=K):∀ d i,i+d=K+1→∀ (k nl:Int),k=i→nl=d→∀ iv,∃ i' k',∀ o:SO,o.hs=hs→o.kk=KI→∀ its:List (Nat→Nat)→List Value,(∀ px,(its px).length+d≤1000)→(fSo (Pw w b1 b2) o k nl iv its (outIs ln K d i) i' k').Ok2 w b1 b2 126
 | 0,i,hid,k,nl,hk,hnl,iv=>by
  have:nl=0:=hnl
  subst this
  exact ⟨iv,k,fun o _ _ its _=>fam2_ok fun _ os px=>kSoE_ok w b1 b2 o _ _ iv _ k _ _⟩
 | d+1,i,hid,k,nl,hk,hnl,iv=>by
  obtain ⟨i',k',H⟩:=soRun w b1 b2 hs ln N K h hK hN KI hKI d (i+1) (by omega) (k+1) (nl-1) (by omega) (by omega) k
  refine ⟨i',k',fun o ho hok its hits=>fam2_ok fun _ os px=>?_⟩
  have S:=soStep w b1 b2 hs ln N K i d h hK hN hid k nl KI hk (by omega) hKI (outIs ln K d (i+1)) i' k' H o ho hok (adN os 3) (adN os 4) (some (.int iv (tokV (vN os 5 0)))) (its px) (epN os 4) (hits px)
  unfold outIs
  rw [← hk]
  exact S
theorem soStart (w:World) (b1 b2:Bool) (hs:List Value) (ln:Nat→Nat) (N K:Nat) (h:HsOk hs ln N) (hK:K<N) (hN:N≤100) (KI nl:Int) (hKI:KI=K) (hnl:nl=((K+1:Nat):Int)) :
  ∃ i' k',∀ o:SO,o.hs=hs→o.kk=KI→∀ I A ci ea,(kSo (Pw w b1 b2) o I A ci 0 nl [] ea (outIs ln K (K+1) 0) i' k').Ok2 w b1 b2 126:=by
 obtain ⟨i',k',H⟩:=soRun w b1 b2 hs ln N K h hK hN KI hKI K 1 (by omega) (0+1) (nl-1) rfl (by omega) 0
 refine ⟨i',k',fun o ho hok I A ci ea=>?_⟩
 have S:=soStep w b1 b2 hs ln N K 0 K h hK hN (by omega) 0 nl KI rfl (by omega) hKI (outIs ln K K 1) i' k' H o ho hok I A ci [] ea (by simp; omega)
 unfold outIs
 exact S
end Sn
end Mine
namespace Mine
namespace Sn
noncomputable def locL (c:Code):Addr:=match c with
 | .compLoop _ _ _ _ env=>env.locals
 | _=>0
noncomputable def kSeen (H:Addr) (hs:List Value) (eh:Nat) (K:Int) (tK:Tok) (is:List Int):Con :=
 ⟨.call (.ref 197) ⟨[.ref H,.int K tK],[]⟩,[(H,lsO hs eh)],fun _=>[lsO hs eh],fun xs=>[(xs 0,lsO (nlV [] is fun n=>xs (n+2)) (epL is 0))],fun xs=>.ok (.ret (.ref (xs 0)))⟩
noncomputable def fSoW (P:Params) (hs:List Value) (K nl:Int) (is:List Int) (i' k':Int):Fam:=fam1 fun c os =>
 kSo P ⟨frL c,locL c,adN os 0,adN os 1,adN os 2,adN os 5,hs,epN os 0,K,tokV (vN os 2 0)⟩ (adN os 3) (adN os 4) none 0 nl [] 0 is i' k'
theorem kSeen1_ok (w:World) (b1 b2:Bool) (H:Addr) (hs:List Value) (eh:Nat) (K:Int) (tK:Tok) (is:List Int) (i' k' K1:Int) (nn:Nat) (hK1:K+1=K1) (hnn:K1=nn) (hb:K1<1000)
  (hso:(fSoW (Pw w b1 b2) hs K (nn:Nat) is i' k').Ok2 w b1 b2 126):(kSeen H hs eh K tK is).Ok2 w b1 b2 168:=by
 cases b1<;>cases b2
 ·exact Con.of2 126 (hD 17 0xa28a28a208206000186104000) [uS 2 (fIIi "int.__add__" K 1 K1) [],uS 4 (fRg1 K1) [],uS 6 (fRangeI 0 K1 nn) [8],uS 10 (fSoW (Pw w false false) hs K (nn:Nat) is i' k') [1,4,6,10,12,16]] [2] (fun _ _ sg j=>match j with | 0=>sg 2 0+213 | 1=>0 | n+2=>sg 3 (n+3))
   ⟨int_add_ok hK1,(fam1_ok fun _ _=>kRg1_ok w _ _ _ _).mono le42_126,fRangeI_ok (by decide) (.inl (by omega)) (by omega) (by decide) (by omega),hso,trivial⟩
 ·exact Con.of2 126 (hD 13 0xa208206000186104000) [uS 2 (fIIi "int.__add__" K 1 K1) [],uS 4 (fRg1 K1) [],uS 6 (fRangeI 0 K1 nn) [8],uS 8 (fSoW (Pw w false true) hs K (nn:Nat) is i' k') [1,4,6,10,12,16]] [2] (fun _ _ sg j=>match j with | 0=>sg 2 0+213 | 1=>0 | n+2=>sg 3 (n+3))
   ⟨int_add_ok hK1,(fam1_ok fun _ _=>kRg1_ok w _ _ _ _).mono le42_126,fRangeI_ok (by decide) (.inl (by omega)) (by omega) (by decide) (by omega),hso,trivial⟩
 ·exact Con.of2 126 (hD 17 0xa28a28a208206000186104000) [uS 2 (fIIi "int.__add__" K 1 K1) [],uS 4 (fRg1 K1) [],uS 6 (fRangeI 0 K1 nn) [8],uS 10 (fSoW (Pw w true false) hs K (nn:Nat) is i' k') [1,4,6,10,12,16]] [2] (fun _ _ sg j=>match j with | 0=>sg 2 0+213 | 1=>0 | n+2=>sg 3 (n+3))
   ⟨int_add_ok hK1,(fam1_ok fun _ _=>kRg1_ok w _ _ _ _).mono le42_126,fRangeI_ok (by decide) (.inl (by omega)) (by omega) (by decide) (by omega),hso,trivial⟩
 ·exact Con.of2 126 (hD 13 0xa208206000186104000) [uS 2 (fIIi "int.__add__" K 1 K1) [],uS 4 (fRg1 K1) [],uS 6 (fRangeI 0 K1 nn) [8],uS 8 (fSoW (Pw w true true) hs K (nn:Nat) is i' k') [1,4,6,10,12,16]] [2] (fun _ _ sg j=>match j with | 0=>sg 2 0+213 | 1=>0 | n+2=>sg 3 (n+3))
   ⟨int_add_ok hK1,(fam1_ok fun _ _=>kRg1_ok w _ _ _ _).mono le42_126,fRangeI_ok (by decide) (.inl (by omega)) (by omega) (by decide) (by omega),hso,trivial⟩
theorem kSeen_ok (w:World) (b1 b2:Bool) (H:Addr) (hs:List Value) (eh:Nat) (K:Int) (tK:Tok) (ln:Nat→Nat) (N k:Nat) (h:HsOk hs ln N) (hk:k<N) (hN:N≤100) (hK:K=k) :
  (kSeen H hs eh K tK (outIs ln k (k+1) 0)).Ok2 w b1 b2 168:=by
 obtain ⟨i',k',S⟩:=soStart w b1 b2 hs ln N k h hk hN K ((k+1:Nat):Int) hK rfl
 refine kSeen1_ok w b1 b2 H hs eh K tK _ i' k' (K+1) (k+1) rfl (by rw [hK]; rfl) (by omega) ?_
 exact fam1_ok fun c os=>S ⟨frL c,locL c,adN os 0,adN os 1,adN os 2,adN os 5,hs,epN os 0,K,tokV (vN os 2 0)⟩ rfl rfl _ _ none 0
end Sn
end Mine
namespace Mine
namespace Td
open Mine.Sn (ceO ownSc)
noncomputable def tdJ (P:Params):Stmt:=stN (stsOf P 207) 0
noncomputable def tdI (P:Params):Stmt:=stN (forBody (tdJ P)) 0
noncomputable def tbE (P:Params):PySem.Expr:=callA (retE (stN (forBody (tdI P)) 0)) 0
noncomputable def tbSc (P:Params):Scope:=ownSc (fdOf P 207).scope (lcScope (tbE P))
structure TB where
 L:Addr
 H:Addr
 SI:Addr
 SJ:Addr
 SE:Addr
 CH:Addr
 CS:Addr
 CJ:Addr
 hs:List Value
 siV:List Value
 sjV:List Value
 seV:List Value
 eh:Nat
 esi:Nat
 esj:Nat
 ese:Nat
 j:Int
 tj:Tok
noncomputable def tbEnv (P:Params) (b:TB) (D:Addr):Env:={cEnv P 207 (tbE P) "_law_told_by_the_least.<locals>." b.L D [(Str.ofString "seen",b.CS),(Str.ofString "j",b.CJ),(Str.ofString "houses",b.CH)] with scope:=tbSc P}
noncomputable def tbFix (b:TB):List (Addr×Obj):=[(b.H,lsO b.hs b.eh),(b.SI,lsO b.siV b.esi),(b.SJ,lsO b.sjV b.esj),(b.SE,lsO b.seV b.ese),(b.CH,ceO (.ref b.H)),(b.CS,ceO (.ref b.SE)),(b.CJ,ceO (.int b.j b.tj))]
noncomputable def kDo (P:Params) (kt:Tok) (v:Int) (tv:Tok) (de:Nat):Obj:={cls:=.type "dict",data:=.dict ⟨[ent P "k" kt (.int v tv)]⟩ de}
noncomputable def kTb (P:Params) (b:TB) (I A D:Addr) (k:Int) (its:List Value) (ea:Nat) (kt:Tok) (v:Int) (tv:Tok) (de:Nat) (lens:List Int) (v' k':Int):Con :=
 ⟨.compLoop (tbE P) 0 (.ref I) (.ref A) (tbEnv P b D),tbFix b++[(I,lisIt (.ref b.SI) k 0),(A,lsO its ea),(D,kDo P kt v tv de)],
  fun xs=>(tbFix b).map (·.2)++[lisIt .none k' 0,lsO (nlV its lens fun n=>xs (n+2)) (epL lens ea),kDo P kt v' (xs 0) de],fun _=>[],fun _=>.ok .next⟩
noncomputable def kTb0 (P:Params) (b:TB) (I A D:Addr) (k:Int) (its:List Value) (ea:Nat) (lens:List Int) (v' k':Int):Con :=
 ⟨.compLoop (tbE P) 0 (.ref I) (.ref A) (tbEnv P b D),tbFix b++[(I,lisIt (.ref b.SI) k 0),(A,lsO its ea),(D,Sn.dE0)],
  fun xs=>(tbFix b).map (·.2)++[lisIt .none k' 0,lsO (nlV its lens fun n=>xs (n+2)) (epL lens ea),kDo P (xs 1) v' (xs 0) 1],fun _=>[],fun _=>.ok .next⟩
noncomputable def fTb (P:Params) (b:TB) (k:Int) (its:List (Nat→Nat)→List Value) (v:Int) (lens:List Int) (v' k':Int):Fam:=fam2 fun _ os px =>
 kTb P b (adN os 7) (adN os 8) (adN os 9) k (its px) (epN os 8) (tokV (keyN os 9 0)) v (tokV (vN os 9 0)) (epN os 9) lens v' k'
theorem kTbE_ok (w:World) (b1 b2:Bool) (b:TB) (I A D:Addr) (k:Int) (its:List Value) (ea:Nat) (kt:Tok) (v:Int) (tv:Tok) (de:Nat) (h:b.siV[k.toNat]?=none):(kTb (Pw w b1 b2) b I A D k its ea kt v tv de [] v k).Ok2 w b1 b2 84 :=
 Con.of2 42 [15,15,4] [uS 1 (fNextLE ⟨b.siV⟩ k) [15,3]] [] (fun _ _ _ _=>tv) ⟨fNextLE_ok (by simpa using h),trivial⟩
noncomputable def isI (k:Int):Value→Bool
 | .int n _=>n==k
 | _=>false
noncomputable def allI (l:List Value):Prop:=∀ y∈l,∃ n t,y=.int n t
theorem fInI_ok {prog:Program} {w:World} {kt:Addr→Option Obj} {x:Nat} {l:List Value} {k:Int} {r:Bool} (h:allI l) (hr:l.any (isI k)=r):(fInL ⟨l⟩ (fun t=>.int k t) r).Ok (model prog w) kt x:=by
 refine fInL_ok (isI k) (fun t y hy=>?_) (by simpa using hr)
 obtain ⟨n,u,rfl⟩:=h y (by simpa using hy)
 exact MeetsSeq.EqGives.int n k u t
theorem kTbT_ok (w:World) (b1 b2:Bool) (b:TB) (I A D:Addr) (k:Int) (its:List Value) (ea:Nat) (kt:Tok) (v0:Int) (tv0:Tok) (de:Nat) (lens:List Int) (v' k':Int) (v:Int) (tv:Tok) (jn:Nat) (gk:b.siV[k.toNat]?=some (.int v tv)) (hj:b.j=jn) (gj:b.seV[jn]?=some (.ref b.SJ)) (hse:b.seV.length≤sizeLine) (hhs:b.hs.length≤sizeLine) (hal:allI b.sjV) (hin:b.sjV.any (isI v)=true) (y:Str) (ty:Tok) (vn:Nat) (nk:Int) (hv:v=vn) (gv:b.hs[vn]?=some (.str y ty)) (hnk:nk=y.length) (ly:y.length≤sizeLine) (hits:its.length≤1000)
  (ih:(fTb (Pw w b1 b2) b (k+1) (fun px=>its.concat (.int nk (pxN px 1 0))) v lens v' k').Ok2 w b1 b2 84):(kTb (Pw w b1 b2) b I A D k its ea kt v0 tv0 de (nk::lens) v' k').Ok2 w b1 b2 84:=by
 have hiz:its.length≤sizeLine:=by rw [sizeLine_eq]; omega
 exact Con.of2b 42 (hD 23 0x110410414c90001451471c71cd2d34d33cf) [uS 1 (fNextL ⟨b.siV⟩ k (.int v tv)) [15,3],uS 3 (fGetI ⟨b.seV⟩ b.j (.ref b.SJ)) [7],uS 5 (fInL ⟨b.sjV⟩ (fun t=>.int v t) true) [5],uS 7 (fGetI ⟨b.hs⟩ v (.str y ty)) [1],uS 9 (fLenS y nk) [],uS 11 (fAppend ⟨its⟩) [17],⟨12,fTb (Pw w b1 b2) b (k+1) (fun px=>its.concat (.int nk (pxN px 1 0))) v lens v' k',[1,3,5,7,9,11,13,15,17,19],true⟩] [] (fun _ _ sg n=>match n with | 0=>sg 6 2 | 1=>0 | 2=>sg 4 2 | n+3=>sg 6 (n+4))
  ⟨fNextL_ok (by simpa using gk),fGetI_ok jn hj (by simpa using gj) hse,fInI_ok hal hin,fGetI_ok vn hv (by simpa using gv) hhs,fLenS_ok hnk ly,fAppend_ok hiz,ih,trivial⟩
theorem kTbF_ok (w:World) (b1 b2:Bool) (b:TB) (I A D:Addr) (k:Int) (its:List Value) (ea:Nat) (kt:Tok) (v0:Int) (tv0:Tok) (de:Nat) (lens:List Int) (v' k':Int) (v:Int) (tv:Tok) (jn:Nat) (gk:b.siV[k.toNat]?=some (.int v tv)) (hj:b.j=jn) (gj:b.seV[jn]?=some (.ref b.SJ)) (hse:b.seV.length≤sizeLine) (hhs:b.hs.length≤sizeLine) (hal:allI b.sjV) (hin:b.sjV.any (isI v)=false)
  (ih:(fTb (Pw w b1 b2) b (k+1) (fun _=>its) v lens v' k').Ok2 w b1 b2 84):(kTb (Pw w b1 b2) b I A D k its ea kt v0 tv0 de lens v' k').Ok2 w b1 b2 84:=by
 skip
 exact Con.of2b 42 (hD 14 0x1451471c71cd2d34d33cf) [uS 1 (fNextL ⟨b.siV⟩ k (.int v tv)) [15,3],uS 3 (fGetI ⟨b.seV⟩ b.j (.ref b.SJ)) [7],uS 5 (fInL ⟨b.sjV⟩ (fun t=>.int v t) false) [5],⟨6,fTb (Pw w b1 b2) b (k+1) (fun _=>its) v lens v' k',[1,3,5,7,9,11,13,15,17,19],true⟩] [] (fun _ _ sg n=>match n with | 0=>sg 3 2 | 1=>0 | n+2=>sg 3 (n+4))
  ⟨fNextL_ok (by simpa using gk),fGetI_ok jn hj (by simpa using gj) hse,fInI_ok hal hin,ih,trivial⟩
theorem kTb0T_ok (w:World) (b1 b2:Bool) (b:TB) (I A D:Addr) (k:Int) (its:List Value) (ea:Nat) (lens:List Int) (v' k':Int) (v:Int) (tv:Tok) (jn:Nat) (gk:b.siV[k.toNat]?=some (.int v tv)) (hj:b.j=jn) (gj:b.seV[jn]?=some (.ref b.SJ)) (hse:b.seV.length≤sizeLine) (hhs:b.hs.length≤sizeLine) (hal:allI b.sjV) (hin:b.sjV.any (isI v)=true) (y:Str) (ty:Tok) (vn:Nat) (nk:Int) (hv:v=vn) (gv:b.hs[vn]?=some (.str y ty)) (hnk:nk=y.length) (ly:y.length≤sizeLine) (hits:its.length≤1000)
  (ih:(fTb (Pw w b1 b2) b (k+1) (fun px=>its.concat (.int nk (pxN px 1 0))) v lens v' k').Ok2 w b1 b2 84):(kTb0 (Pw w b1 b2) b I A D k its ea (nk::lens) v' k').Ok2 w b1 b2 84:=by
 have hiz:its.length≤sizeLine:=by rw [sizeLine_eq]; omega
 exact Con.of2b 42 (hD 23 0x110410414c90001451471c71cd2d34d33cf) [uS 1 (fNextL ⟨b.siV⟩ k (.int v tv)) [15,3],uS 3 (fGetI ⟨b.seV⟩ b.j (.ref b.SJ)) [7],uS 5 (fInL ⟨b.sjV⟩ (fun t=>.int v t) true) [5],uS 7 (fGetI ⟨b.hs⟩ v (.str y ty)) [1],uS 9 (fLenS y nk) [],uS 11 (fAppend ⟨its⟩) [17],⟨12,fTb (Pw w b1 b2) b (k+1) (fun px=>its.concat (.int nk (pxN px 1 0))) v lens v' k',[1,3,5,7,9,11,13,15,17,19],true⟩] [] (fun _ _ sg n=>match n with | 0=>sg 6 2 | 1=>sg 0 1 | 2=>sg 4 2 | n+3=>sg 6 (n+4))
  ⟨fNextL_ok (by simpa using gk),fGetI_ok jn hj (by simpa using gj) hse,fInI_ok hal hin,fGetI_ok vn hv (by simpa using gv) hhs,fLenS_ok hnk ly,fAppend_ok hiz,ih,trivial⟩
theorem kTb0F_ok (w:World) (b1 b2:Bool) (b:TB) (I A D:Addr) (k:Int) (its:List Value) (ea:Nat) (lens:List Int) (v' k':Int) (v:Int) (tv:Tok) (jn:Nat) (gk:b.siV[k.toNat]?=some (.int v tv)) (hj:b.j=jn) (gj:b.seV[jn]?=some (.ref b.SJ)) (hse:b.seV.length≤sizeLine) (hhs:b.hs.length≤sizeLine) (hal:allI b.sjV) (hin:b.sjV.any (isI v)=false)
  (ih:(fTb (Pw w b1 b2) b (k+1) (fun _=>its) v lens v' k').Ok2 w b1 b2 84):(kTb0 (Pw w b1 b2) b I A D k its ea lens v' k').Ok2 w b1 b2 84:=by
 skip
 exact Con.of2b 42 (hD 14 0x1451471c71cd2d34d33cf) [uS 1 (fNextL ⟨b.siV⟩ k (.int v tv)) [15,3],uS 3 (fGetI ⟨b.seV⟩ b.j (.ref b.SJ)) [7],uS 5 (fInL ⟨b.sjV⟩ (fun t=>.int v t) false) [5],⟨6,fTb (Pw w b1 b2) b (k+1) (fun _=>its) v lens v' k',[1,3,5,7,9,11,13,15,17,19],true⟩] [] (fun _ _ sg n=>match n with | 0=>sg 3 2 | 1=>sg 0 1 | n+2=>sg 3 (n+4))
  ⟨fNextL_ok (by simpa using gk),fGetI_ok jn hj (by simpa using gj) hse,fInI_ok hal hin,ih,trivial⟩
end Td
end Mine
namespace Mine
theorem nlV_iL:∀ (ns:List Int) (its:List Value) (f:Nat→Tok),nlV its ns f=its++iL ns f
 | [],its,f=>by simp [nlV,iL]
 | n::ns,its,f=>by rw [nlV,nlV_iL ns]; simp [iL]
theorem nlV_get (ns:List Int) (f:Nat→Tok) (n:Nat):(nlV [] ns f)[n]?=ns[n]?.map fun v=>Value.int v (f n):=by rw [nlV_iL,List.nil_append,iL_get]
theorem iL_any (v:Int):∀ (ns:List Int) (f:Nat→Tok),(iL ns f).any (Td.isI v)=ns.any (·==v)
 | [],_=>rfl
 | n::ns,f=>by rw [iL,List.any_cons,List.any_cons,iL_any v ns]; rfl
theorem nlV_any (v:Int) (ns:List Int) (f:Nat→Tok):(nlV [] ns f).any (Td.isI v)=ns.any (·==v):=by rw [nlV_iL,List.nil_append,iL_any]
theorem nlV_allI (ns:List Int) (f:Nat→Tok):Td.allI (nlV [] ns f):=by
 rw [nlV_iL,List.nil_append]
 intro y hy
 obtain ⟨i,hi,e⟩:=List.getElem_of_mem hy
 have:(iL ns f)[i]?=some y:=by rw [List.getElem?_eq_getElem hi,e]
 rw [iL_get] at this
 obtain ⟨n,_,e⟩:=Option.map_eq_some_iff.mp this
 exact ⟨n,_,e.symm⟩
namespace Td
noncomputable def bothL (ln:Nat→Nat) (js:List Int):List Int→List Int
 | []=>[]
 | v::r=>if js.any (·==v)=true then ((ln v.toNat:Nat):Int)::bothL ln js r else bothL ln js r
structure Fit (ln:Nat→Nat) (N:Nat) (is js:List Int) (b:TB):Prop where
 hs:Sn.HsOk b.hs ln N
 si:∃ f,b.siV=nlV [] is f
 sj:∃ f,b.sjV=nlV [] js f
 se:b.seV.length≤100
 gj:∃ jn:Nat,b.j=jn∧b.seV[jn]?=some (.ref b.SJ)
theorem tbTurn (w:World) (b1 b2:Bool) (ln:Nat→Nat) (N:Nat) (is js:List Int) (b:TB) (F:Fit ln N is js b) (k:Int) (n:Nat) (v:Int) (r:List Int) (hk:k=n) (hr:is.drop n=v::r) (hN:∀ v∈is,∃ vn:Nat,v=vn∧vn<N) (its:List Value) (hits:its.length+(r.length+1)≤1000) (v' k':Int)
  (ih:∀ its:List (Nat→Nat)→List Value,(∀ px,(its px).length+r.length≤1000)→(fTb (Pw w b1 b2) b (k+1) its v (bothL ln js r) v' k').Ok2 w b1 b2 84) :
  (∀ I A D ea,(kTb0 (Pw w b1 b2) b I A D k its ea (bothL ln js (v::r)) v' k').Ok2 w b1 b2 84)∧∀ I A D ea kt v0 tv0 de,(kTb (Pw w b1 b2) b I A D k its ea kt v0 tv0 de (bothL ln js (v::r)) v' k').Ok2 w b1 b2 84:=by
 obtain ⟨⟨h100,hall⟩,⟨fi,hi⟩,⟨fj,hj⟩,hse,⟨jn,ej,gj⟩⟩:=F
 have gv:is[n]?=some v:=by have:=congrArg (fun l=>l[0]?) hr; simpa using this
 have gk:b.siV[k.toNat]?=some (.int v (fi n)):=by rw [hi,hk,nlV_get]; simp [gv]
 obtain ⟨vn,evn,hvn⟩:=hN v (List.mem_of_getElem? gv)
 obtain ⟨y,ty,gy,ly,ly2⟩:=hall vn hvn
 have zy:y.length≤sizeLine:=by rw [sizeLine_eq]; omega
 have zse:b.seV.length≤sizeLine:=by rw [sizeLine_eq]; omega
 have zhs:b.hs.length≤sizeLine:=by rw [sizeLine_eq]; omega
 have hal:allI b.sjV:=by rw [hj]; exact nlV_allI js fj
 have hany:b.sjV.any (isI v)=js.any (·==v):=by rw [hj,nlV_any]
 have hln:((ln v.toNat:Nat):Int)=y.length:=by rw [ly,evn]; rfl
 cases q:js.any (·==v) with
 | true =>
  have e:bothL ln js (v::r)=((ln v.toNat:Nat):Int)::bothL ln js r:=by rw [bothL,if_pos q]
  rw [e]
  have H:=ih (fun px=>its.concat (.int (ln v.toNat:Nat) (pxN px 1 0))) (fun px=>by simp; omega)
  refine ⟨fun I A D ea=>?_,fun I A D ea kt v0 tv0 de=>?_⟩
  ·exact kTb0T_ok w b1 b2 b I A D k its ea _ v' k' v _ jn gk ej gj zse zhs hal (hany.trans q) y ty vn _ evn gy hln zy (by omega) H
  ·exact kTbT_ok w b1 b2 b I A D k its ea kt v0 tv0 de _ v' k' v _ jn gk ej gj zse zhs hal (hany.trans q) y ty vn _ evn gy hln zy (by omega) H
 | false =>
  have e:bothL ln js (v::r)=bothL ln js r:=by rw [bothL,if_neg (by rw [q]; exact Bool.false_ne_true)]
  rw [e]
  have H:=ih (fun _=>its) (fun px=>by omega)
  refine ⟨fun I A D ea=>?_,fun I A D ea kt v0 tv0 de=>?_⟩
  ·exact kTb0F_ok w b1 b2 b I A D k its ea _ v' k' v _ jn gk ej gj zse zhs hal (hany.trans q) H
  ·exact kTbF_ok w b1 b2 b I A D k its ea kt v0 tv0 de _ v' k' v _ jn gk ej gj zse zhs hal (hany.trans q) H
theorem tbRun (w:World) (b1 b2:Bool) (ln:Nat→Nat) (N:Nat) (is js:List Int) (hN:∀ v∈is,∃ vn:Nat,v=vn∧vn<N):∀ (rem:List Int) (n:Nat) (k:Int),k=n→is.drop n=rem→∀ v0,∃ v' k',∀ b:TB,Fit ln N is js b→∀ its:List (Nat→Nat)→List Value,(∀ px,(its px).length+rem.length≤1000)→(fTb (Pw w b1 b2) b k its v0 (bothL ln js rem) v' k').Ok2 w b1 b2 84
 | [],n,k,hk,hr,v0=>⟨v0,k,fun b F its hits=>fam2_ok fun _ os px=>kTbE_ok w b1 b2 b _ _ _ k _ _ _ v0 _ _ (by
   obtain ⟨fi,hi⟩:=F.si
   rw [hi,hk,nlV_get]
   have:is[n]?=none:=by
    have:=congrArg (fun l=>l[0]?) hr
    simpa using this
   simp [this])⟩
 | v::r,n,k,hk,hr,v0=>by
  have hr':is.drop (n+1)=r:=by rw [← List.drop_drop,hr]; rfl
  obtain ⟨v',k',H⟩:=tbRun w b1 b2 ln N is js hN r (n+1) (k+1) (by omega) hr' v
  refine ⟨v',k',fun b F its hits=>fam2_ok fun _ os px=>?_⟩
  exact (tbTurn w b1 b2 ln N is js b F k n v r hk hr hN (its px) (hits px) v' k' (fun its' h'=>H b F its' h')).2 _ _ _ _ _ _ _ _
theorem tbStart (w:World) (b1 b2:Bool) (ln:Nat→Nat) (N:Nat) (is js:List Int) (hN:∀ v∈is,∃ vn:Nat,v=vn∧vn<N) (h0:is≠[]) (h9:is.length≤900):∃ v' k',∀ b:TB,Fit ln N is js b→∀ I A D ea,(kTb0 (Pw w b1 b2) b I A D 0 [] ea (bothL ln js is) v' k').Ok2 w b1 b2 84:=by
 obtain ⟨v,r,rfl⟩:=List.exists_cons_of_ne_nil h0
 obtain ⟨v',k',H⟩:=tbRun w b1 b2 ln N (v::r) js hN r 1 (0+1) rfl rfl v
 refine ⟨v',k',fun b F=>?_⟩
 exact (tbTurn w b1 b2 ln N (v::r) js b F 0 0 v r rfl rfl hN [] (by simp at h9 ⊢; omega) v' k' (fun its' h'=>H b F its' h')).1
end Td
end Mine
namespace Mine
theorem Way.part {M:Model} {kt:Addr→Option Obj} {x:Nat} {ι:Type} {A:Pt} {c':ι→Code} {nb T:ι→List (Addr×Obj)} {nw:ι→List Addr} (sel sel':List Nat) (hs:sel.Nodup) (hd:∀ i∈sel,∀ j∈sel',i≠j)
  (W:Way M kt x ⟨A.c,pickNew sel A.need⟩ (fun i=>⟨c' i,nb i⟩) nw) (hT:∀ i,(T i).map (·.1)=A.need.map (·.1)) (hq:∀ i,∀ q∈T i,q∈nb i∨q∈pickNew sel' A.need):Way M kt x A (fun i=>⟨c' i,T i⟩) nw:=by
 intro Γ p s R hc hr hl hk hA fin
 obtain ⟨n1,n2,n3⟩:=hA
 have sub:∀ {l:List Nat} {q:Addr×Obj},q∈pickNew l A.need→q∈A.need:=fun h=>by obtain ⟨i,_,e⟩:=pickNew_mem h; exact nth_mem e
 refine W Γ p s R hc hr hl hk ⟨fun q hq=>n1 q (sub hq),fun q hq=>n2 q (sub hq),pickNew_nodup n3 hs⟩ fun i Γ' p' s' hc' hr' hl' hk' hB S=>?_
 obtain ⟨m1,m2,m3⟩:=hB
 have apart':∀ q∈pickNew sel' A.need,q.1∉(pickNew sel A.need).map (·.1):=fun q hq' m=>by
  obtain ⟨r,hr',e⟩:=List.mem_map.mp m
  obtain ⟨a,ha,ea⟩:=pickNew_mem hr'
  obtain ⟨b,hb,eb⟩:=pickNew_mem hq'
  exact nth_ne ea eb n3 (hd a ha b hb) e
 refine fin i Γ' p' s' hc' hr' hl' hk' ⟨fun q hq'=>?_,fun q hq'=>?_,?_⟩ ⟨fun b o e m=>?_,S.gens,S.drawn,S.os,S.size,S.nw⟩
 ·rcases hq i q hq' with h | h
  ·exact m1 q h
  ·exact (S.keep q.1 q.2 (n1 q (sub h)) (apart' q h)).1
 ·rcases hq i q hq' with h | h
  ·exact m2 q h
  ·exact n2 q (sub h)
 ·show ((T i).map (·.1)).Nodup
  rw [hT i]; exact n3
 ·have m':b∉(pickNew sel A.need).map (·.1):=fun z=>m (by
   obtain ⟨r,hr',e⟩:=List.mem_map.mp z
   exact List.mem_map.mpr ⟨r,sub hr',e⟩)
  refine ⟨(S.keep b o e m').1,?_⟩
  show b∉(T i).map (·.1)
  rw [hT i]; exact m
noncomputable def ziP (ns:List Int) (f:Nat→Tok):List (Int×Tok):=match ns with
 | []=>[]
 | n::ns=>(n,f 0)::ziP ns fun j=>f (j+1)
theorem ziP_items:∀ (ns:List Int) (f:Nat→Tok),(⟨iL ns f⟩:Array Value)=intItems ⟨ziP ns f⟩:=by
 have h:∀ (ns:List Int) (f:Nat→Tok),iL ns f=(ziP ns f).map fun p=>Value.int p.1 p.2:=by
  intro ns
  induction ns with
  | nil=>intro f; rfl
  | cons n ns ih=>intro f; rw [iL,ziP,List.map_cons,ih]
 intro ns f
 rw [h]
 unfold intItems
 simp
end Mine
namespace Mine
noncomputable def numL (ns:List Int) (i:Nat):Int:=(ns[i]?).getD 0
theorem ziP_length:∀ (ns:List Int) (f:Nat→Tok),(ziP ns f).length=ns.length
 | [],_=>rfl
 | n::ns,f=>by rw [ziP,List.length_cons,List.length_cons,ziP_length ns]
theorem ziP_num:∀ (ns:List Int) (f:Nat→Tok) (i:Nat),((ziP ns f)[i]?.map (·.1)).getD 0=numL ns i
 | [],_,i=>by simp [ziP,numL]
 | n::ns,f,0=>by simp [ziP,numL]
 | n::ns,f,i+1=>by simpa [ziP,numL] using ziP_num ns (fun j=>f (j+1)) i
theorem numAt_ziP (ns:List Int) (f:Nat→Tok):numAt ⟨ziP ns f⟩=numL ns:=by
 funext i
 have:=ziP_num ns f i
 unfold numAt
 simpa using this
noncomputable def minL (ns:List Int):Int:=numL ns (argBest (fun i j=>decide (numL ns i<numL ns j)) (ns.length-1))
noncomputable def fSumX (ns:List Int) (f:List (Nat→Nat)→Nat→Tok) (r:Int):Fam:=fam2 fun _ os px=>kSumL (adN os 0) ⟨.type "list",oD os 0,.seq ⟨nlV [] ns (f px)⟩ (epN os 0),oS os 0⟩ r
noncomputable def fMinX (its:List Value) (r:Int):Fam:=fam1 fun _ os=>kMinL (adN os 0) ⟨.type "list",oD os 0,.seq ⟨its⟩ (epN os 0),oS os 0⟩ r
section
variable {prog:Program} {w:World} {kt:Addr→Option Obj} {x:Nat}
theorem fSumX_ok {ns:List Int} {f:List (Nat→Nat)→Nat→Tok} {r:Int} (hr:preSum (numL ns) ns.length=r) (hfit:∀ j,j<ns.length→InLong (numL ns j)∧InLong (preSum (numL ns) (j+1))):(fSumX ns f r).Ok (model prog w) kt x:=fam2_ok fun _ os px=>by
 have e:=ziP_items ns (f px)
 rw [nlV_iL,List.nil_append,e]
 refine kSumL_ok _ _ _ _ _ _ ?_ ?_
 ·rw [numAt_ziP]; show preSum (numL ns) (ziP ns (f px)).length=r; rw [ziP_length]; exact hr
 ·intro j hj
  rw [numAt_ziP]
  exact hfit j (by rw [← ziP_length ns (f px)]; exact hj)
theorem fMinX_ok {its:List Value} {ns:List Int} {f:Nat→Tok} {r:Int} (h0:its=iL ns f) (hne:0<ns.length) (hr:minL ns=r):(fMinX its r).Ok (model prog w) kt x:=fam1_ok fun _ os=>by
 have e:=ziP_items ns f
 rw [h0,e]
 refine kMinL_ok _ _ _ _ _ _ (by show 0<(ziP ns f).length; rw [ziP_length]; exact hne) ?_
 rw [numAt_ziP]
 show numL ns (argBest (fun i j=>decide (numL ns i<numL ns j)) ((ziP ns f).length-1))=r
 rw [ziP_length]
 exact hr
end
namespace Td
open Mine.Sn (ceO ownSc)
structure TG where
 L:Addr
 I:Addr
 H:Addr
 SE:Addr
 LK:Addr
 LW:Addr
 CH:Addr
 CS:Addr
 CJ:Addr
 hs:List Value
 eh:Nat
 seV:List Value
 ese:Nat
 lkV:List Value
 elk:Nat
 lwV:List Value
 elw:Nat
 bd:Int
 tbd:Tok
 j:Int
 tj:Tok
structure RW where
 a:Addr
 v:List Value
 e:Nat
structure TV where
 i:Int
 bo:Int
 ne:Int
 to:Int
noncomputable def tdFr0 (P:Params) (g:TG) (kt:Nat→Tok) (fe:Nat):Obj:={cls:=.type "frame",data:=.dict ⟨dE P kt 0 [("looks",.ref g.LK),("lows",.ref g.LW),("bound",.int g.bd g.tbd)]⟩ fe}
noncomputable def tdFr (P:Params) (g:TG) (kt:Nat→Tok) (v:TV) (vt:Nat→Tok) (fe:Nat):Obj:={cls:=.type "frame",data:=.dict ⟨dE P kt 0 [("looks",.ref g.LK),("lows",.ref g.LW),("bound",.int g.bd g.tbd),("i",.int v.i (vt 0)),("both",.int v.bo (vt 1)),("near",.int v.ne (vt 2)),("told",.int v.to (vt 3))]⟩ fe}
noncomputable def tdC (P:Params) (g:TG):Code:=forCode (tdI P) (.ref g.I) (envAt P 207 "_law_told_by_the_least.<locals>." g.L [(Str.ofString "j",g.CJ),(Str.ofString "seen",g.CS),(Str.ofString "houses",g.CH)])
noncomputable def tdNeed (g:TG) (si sj:RW) (fr:Obj) (k nl:Int):List (Addr×Obj) :=
 [(g.H,lsO g.hs g.eh),(g.SE,lsO g.seV g.ese),(g.LK,lsO g.lkV g.elk),(g.LW,lsO g.lwV g.elw),(si.a,lsO si.v si.e),(sj.a,lsO sj.v sj.e),(g.CH,ceO (.ref g.H)),(g.CS,ceO (.ref g.SE)),(g.CJ,ceO (.int g.j g.tj)),(g.L,fr),(g.I,rgIt k nl)]
noncomputable def tdB (g:TG) (si sj:RW):TB:=⟨g.L,g.H,si.a,sj.a,g.SE,g.CH,g.CS,g.CJ,g.hs,si.v,sj.v,g.seV,g.eh,si.e,sj.e,g.ese,g.j,g.tj⟩
noncomputable def tdPt (P:Params) (g:TG) (si sj:RW) (kt:Nat→Tok) (v:TV) (vt:Nat→Tok) (fe:Nat) (k nl:Int):Pt:=⟨tdC P g,tdNeed g si sj (tdFr P g kt v vt fe) k nl⟩
noncomputable def tdPt0 (P:Params) (g:TG) (si sj:RW) (kt:Nat→Tok) (fe:Nat) (k nl:Int):Pt:=⟨tdC P g,tdNeed g si sj (tdFr0 P g kt fe) k nl⟩
noncomputable def tdK (P:Params) (g:TG) (si sj:RW) (v:TV) (k nl:Int):Code→List (Addr×Obj)→List (Nat→Nat)→Pt:=fun _ os _ =>
 tdPt P g si sj (fun m=>tokV (keyN os 9 m)) v (fun m=>tokV (vN os 9 (m+3))) (epN os 9) k nl
noncomputable def fTb0 (P:Params) (b:TB) (lens:List Int) (v' k':Int):Fam:=fam1 fun _ os=>kTb0 P b (adN os 7) (adN os 8) (adN os 9) 0 [] (epN os 8) lens v' k'
noncomputable def fLevX (A B:List Nat) (bd told:Int):Fam:=fam1 fun c _=>kLev A B (argT c 0) (argT c 1) bd (argT c 2) told
noncomputable def fOth (P:Params) (A A':List Nat):Fam:=fam1 fun c _=>kOther P A A' (argT c 0)
structure TT where
 A:List Nat
 B:List Nat
 ta:Tok
 tb:Tok
 lens:List Int
 bo:Int
 na:Int
 nb:Int
 mx:Int
 df:Int
 ne:Int
 i1:Int
 j1:Int
 ns:List Int
 sl:List Value
 A':List Nat
 to:Int
 su:Int
 v':Int
 k':Int
structure TurnOk (w:World) (b1 b2:Bool) (g:TG) (si sj:RW) (i nl:Int) (t:TT):Prop where
 hnl:0<nl
 tbk:∀ I A D ea,(kTb0 (Pw w b1 b2) (tdB g si sj) I A D 0 [] ea t.lens t.v' t.k').Ok2 w b1 b2 84
 gsi:∃ n:Nat,i=n∧g.seV[n]?=some (.ref si.a)
 gli:∃ n:Nat,i=n∧g.lkV[n]?=some (.str (tx t.A) t.ta)
 glj:∃ n:Nat,g.j=n∧g.lkV[n]?=some (.str (tx t.B) t.tb)
 zse:g.seV.length≤100
 zlk:g.lkV.length≤100
 zlw:g.lwV.length≤100
 bo:preSum (numL t.lens) t.lens.length=t.bo
 bfit:∀ j,j<t.lens.length→InLong (numL t.lens j)∧InLong (preSum (numL t.lens) (j+1))
 na:t.na=t.A.length
 nb:t.nb=t.B.length
 zA:t.A.length≤100
 zB:t.B.length≤100
 mx:max t.na t.nb=t.mx
 df:t.mx-t.bo=t.df
 dfr:-1000≤t.df∧t.df≤1000
 ne:2*t.df=t.ne
 i1:i+1=t.i1
 j1:g.j+1=t.j1
 sl:slicePick ⟨g.lwV⟩ (some t.i1) (some t.j1) none=⟨t.sl⟩
 ns:∃ f,t.sl=iL t.ns f
 ns0:0<t.ns.length
 mi:minL t.ns=t.bo
 lev1:∀ ta tb tbd,(kLev t.A t.B ta tb 12 tbd t.ne).Ok2 w b1 b2 168
 oth:∀ ta,(kOther (Pw w b1 b2) t.A t.A' ta).Ok2 w b1 b2 126
 lev2:∀ ta tb tbd,(kLev t.B t.A' ta tb g.bd tbd t.to).Ok2 w b1 b2 168
 su:t.ne+t.bo=t.su
theorem tx_len (l:List Nat):(tx l).length=l.length:=by unfold tx; simp [Str.length]
theorem le42_168:42≤168:=by decide
theorem le84_168:84≤168:=by decide
theorem le126_168:126≤168:=by decide
theorem z100 {n:Nat} (h:n≤100):n≤sizeLine:=by rw [sizeLine_eq]; omega
noncomputable def hsTdEf:List Nat:=hD 93 0x134d34d30130051451534c01451454530130051451514c51451534c04c71c71d14d30004d34c51451514c00051451534c00000134c61860820820892490c30c34cf0004d3555
noncomputable def hsTdEt:List Nat:=hD 89 0x134d34d30130051451534c01451454530130051451514c51451534c04c71c71d14d30004d34c51451514c00051451534c00000134c61860892490c30c34cf0004d3555
noncomputable def hsTdNf:List Nat:=hD 98 0x4d34d34d34d34d30130051451534c01451454530130051451514c51451534c04c71c71d14d30004d34c51451514c00051451534c00000134c61860820820892490c30c34cf0004d3555
noncomputable def hsTdNt:List Nat:=hD 94 0x4d34d34d34d34d30130051451534c01451454530130051451514c51451534c04c71c71d14d30004d34c51451514c00051451534c00000134c61860892490c30c34cf0004d3555
noncomputable def plTd:List Nat:=hD 11 0x154d13cd2c91c50c1
theorem td0E_ok (w:World) (b1 b2:Bool) (g:TG) (si sj:RW) (i nl:Int) (t:TT) (kt:Nat→Tok) (fe:Nat) (H:TurnOk w b1 b2 g si sj i nl t) (he:t.to=t.su) :
  Way (Mo w b1 b2) (Kt w b1 b2) 210 (tdPt0 (Pw w b1 b2) g si sj kt fe i nl) (fun z:StI=>tdK (Pw w b1 b2) g si sj ⟨i,t.bo,t.ne,t.to⟩ (i+1) (nl-1) z.1 z.2.1 z.2.2) (fun z=>evs plTd (tdK (Pw w b1 b2) g si sj ⟨i,t.bo,t.ne,t.to⟩ (i+1) (nl-1) z.1 z.2.1 z.2.2).need):=by
 obtain ⟨ni,hni,gsi⟩:=H.gsi
 obtain ⟨mi,hmi,gli⟩:=H.gli
 obtain ⟨nj,hnj,glj⟩:=H.glj
 obtain ⟨fsl,hsl⟩:=H.ns
 cases b2
 ·exact Way.of2b (A:=tdPt0 (Pw w b1 false) g si sj kt fe i nl) 168 hsTdEf [uS 1 (fNextR i nl 1) [21],uS 3 (fGetI ⟨g.seV⟩ i (.ref si.a)) [3],uS 9 (fTb0 (Pw w b1 false) (tdB g si sj) t.lens t.v' t.k') [1,9,11,3,13,15,17,2,4,6],uS 11 (fSumX t.lens (fun px n=>pxN px 0 (n+2)) t.bo) [4],uS 13 (fGetI ⟨g.lkV⟩ i (.str (tx t.A) t.ta)) [5],uS 15 (fLenS (tx t.A) t.na) [],uS 17 (fGetI ⟨g.lkV⟩ g.j (.str (tx t.B) t.tb)) [5],uS 19 (fLenS (tx t.B) t.nb) [],uS 21 (fMax2 t.na t.nb t.mx) [],uS 23 (fIIi "int.__sub__" t.mx t.bo t.df) [],uS 25 (fIIi "int.__mul__" 2 t.df t.ne) [],uS 27 (fIIi "int.__add__" i 1 t.i1) [],uS 29 (fIIi "int.__add__" g.j 1 t.j1) [],uS 31 (fSliceL ⟨g.lwV⟩ (fun tk=>.int t.i1 tk) (fun tk=>.int t.j1 tk) (fun _=>.none) t.sl) [7,8],uS 33 (fMinX t.sl t.bo) [10],uS 35 (fII "int.__ne__" t.bo t.bo false) [],uS 37 (fGetI ⟨g.lkV⟩ i (.str (tx t.A) t.ta)) [5],uS 39 (fGetI ⟨g.lkV⟩ g.j (.str (tx t.B) t.tb)) [5],uS 40 (fLevX t.A t.B 12 t.ne) [],uS 42 (fII "int.__ne__" t.ne t.ne false) [],uS 44 (fGetI ⟨g.lkV⟩ g.j (.str (tx t.B) t.tb)) [5],uS 46 (fGetI ⟨g.lkV⟩ i (.str (tx t.A) t.ta)) [5],uS 47 (fOth (Pw w b1 false) t.A t.A') [],uS 48 (fLevX t.B t.A' g.bd t.to) [],uS 50 (fIIi "int.__add__" t.ne t.bo t.su) [],uS 52 (fII "int.__ne__" t.to t.su false) []] 53 (tdK (Pw w b1 false) g si sj ⟨i,t.bo,t.ne,t.to⟩ (i+1) (nl-1)) plTd
    ⟨fNextR_ok H.hnl,fGetI_ok ni hni (by simpa using gsi) (z100 H.zse),Fam.Ok.mono (fam1_ok fun _ _=>H.tbk _ _ _ _) le84_168,fSumX_ok H.bo H.bfit,fGetI_ok mi hmi (by simpa using gli) (z100 H.zlk),fLenS_ok (by rw [tx_len]; exact H.na) (by rw [tx_len]; exact z100 H.zA),fGetI_ok nj hnj (by simpa using glj) (z100 H.zlk),fLenS_ok (by rw [tx_len]; exact H.nb) (by rw [tx_len]; exact z100 H.zB),Fam.Ok.mono (fMax2_ok H.mx) le42_168,int_sub_ok H.df,int_mul_ok (by decide) H.dfr H.ne,int_add_ok H.i1,int_add_ok H.j1,fSliceL_ok (some t.i1) (some t.j1) none (fun tk=>IsPart.int _ tk) (fun tk=>IsPart.int _ tk) (fun _=>IsPart.none) (by simp) (by simpa using z100 H.zlw) H.sl,fMinX_ok hsl H.ns0 H.mi,int_ne_ok (by simp),fGetI_ok mi hmi (by simpa using gli) (z100 H.zlk),fGetI_ok nj hnj (by simpa using glj) (z100 H.zlk),fam1_ok fun _ _=>H.lev1 _ _ _,int_ne_ok (by simp),fGetI_ok nj hnj (by simpa using glj) (z100 H.zlk),fGetI_ok mi hmi (by simpa using gli) (z100 H.zlk),Fam.Ok.mono (fam1_ok fun _ _=>H.oth _) le126_168,fam1_ok fun _ _=>H.lev2 _ _ _,int_add_ok H.su,int_ne_ok (by simpa using he),trivial⟩
 ·exact Way.of2b (A:=tdPt0 (Pw w b1 true) g si sj kt fe i nl) 168 hsTdEt [uS 1 (fNextR i nl 1) [21],uS 3 (fGetI ⟨g.seV⟩ i (.ref si.a)) [3],uS 7 (fTb0 (Pw w b1 true) (tdB g si sj) t.lens t.v' t.k') [1,9,11,3,13,15,17,2,4,6],uS 9 (fSumX t.lens (fun px n=>pxN px 0 (n+2)) t.bo) [4],uS 11 (fGetI ⟨g.lkV⟩ i (.str (tx t.A) t.ta)) [5],uS 13 (fLenS (tx t.A) t.na) [],uS 15 (fGetI ⟨g.lkV⟩ g.j (.str (tx t.B) t.tb)) [5],uS 17 (fLenS (tx t.B) t.nb) [],uS 19 (fMax2 t.na t.nb t.mx) [],uS 21 (fIIi "int.__sub__" t.mx t.bo t.df) [],uS 23 (fIIi "int.__mul__" 2 t.df t.ne) [],uS 25 (fIIi "int.__add__" i 1 t.i1) [],uS 27 (fIIi "int.__add__" g.j 1 t.j1) [],uS 29 (fSliceL ⟨g.lwV⟩ (fun tk=>.int t.i1 tk) (fun tk=>.int t.j1 tk) (fun _=>.none) t.sl) [7,8],uS 31 (fMinX t.sl t.bo) [10],uS 33 (fII "int.__ne__" t.bo t.bo false) [],uS 35 (fGetI ⟨g.lkV⟩ i (.str (tx t.A) t.ta)) [5],uS 37 (fGetI ⟨g.lkV⟩ g.j (.str (tx t.B) t.tb)) [5],uS 38 (fLevX t.A t.B 12 t.ne) [],uS 40 (fII "int.__ne__" t.ne t.ne false) [],uS 42 (fGetI ⟨g.lkV⟩ g.j (.str (tx t.B) t.tb)) [5],uS 44 (fGetI ⟨g.lkV⟩ i (.str (tx t.A) t.ta)) [5],uS 45 (fOth (Pw w b1 true) t.A t.A') [],uS 46 (fLevX t.B t.A' g.bd t.to) [],uS 48 (fIIi "int.__add__" t.ne t.bo t.su) [],uS 50 (fII "int.__ne__" t.to t.su false) []] 51 (tdK (Pw w b1 true) g si sj ⟨i,t.bo,t.ne,t.to⟩ (i+1) (nl-1)) plTd
    ⟨fNextR_ok H.hnl,fGetI_ok ni hni (by simpa using gsi) (z100 H.zse),Fam.Ok.mono (fam1_ok fun _ _=>H.tbk _ _ _ _) le84_168,fSumX_ok H.bo H.bfit,fGetI_ok mi hmi (by simpa using gli) (z100 H.zlk),fLenS_ok (by rw [tx_len]; exact H.na) (by rw [tx_len]; exact z100 H.zA),fGetI_ok nj hnj (by simpa using glj) (z100 H.zlk),fLenS_ok (by rw [tx_len]; exact H.nb) (by rw [tx_len]; exact z100 H.zB),Fam.Ok.mono (fMax2_ok H.mx) le42_168,int_sub_ok H.df,int_mul_ok (by decide) H.dfr H.ne,int_add_ok H.i1,int_add_ok H.j1,fSliceL_ok (some t.i1) (some t.j1) none (fun tk=>IsPart.int _ tk) (fun tk=>IsPart.int _ tk) (fun _=>IsPart.none) (by simp) (by simpa using z100 H.zlw) H.sl,fMinX_ok hsl H.ns0 H.mi,int_ne_ok (by simp),fGetI_ok mi hmi (by simpa using gli) (z100 H.zlk),fGetI_ok nj hnj (by simpa using glj) (z100 H.zlk),fam1_ok fun _ _=>H.lev1 _ _ _,int_ne_ok (by simp),fGetI_ok nj hnj (by simpa using glj) (z100 H.zlk),fGetI_ok mi hmi (by simpa using gli) (z100 H.zlk),Fam.Ok.mono (fam1_ok fun _ _=>H.oth _) le126_168,fam1_ok fun _ _=>H.lev2 _ _ _,int_add_ok H.su,int_ne_ok (by simpa using he),trivial⟩
theorem td0N_ok (w:World) (b1 b2:Bool) (g:TG) (si sj:RW) (i nl:Int) (t:TT) (kt:Nat→Tok) (fe:Nat) (H:TurnOk w b1 b2 g si sj i nl t) (he:t.to≠t.su) (h1:g.bd<t.su) (h2:g.bd<t.to) :
  Way (Mo w b1 b2) (Kt w b1 b2) 210 (tdPt0 (Pw w b1 b2) g si sj kt fe i nl) (fun z:StI=>tdK (Pw w b1 b2) g si sj ⟨i,t.bo,t.ne,t.to⟩ (i+1) (nl-1) z.1 z.2.1 z.2.2) (fun z=>evs plTd (tdK (Pw w b1 b2) g si sj ⟨i,t.bo,t.ne,t.to⟩ (i+1) (nl-1) z.1 z.2.1 z.2.2).need):=by
 obtain ⟨ni,hni,gsi⟩:=H.gsi
 obtain ⟨mi,hmi,gli⟩:=H.gli
 obtain ⟨nj,hnj,glj⟩:=H.glj
 obtain ⟨fsl,hsl⟩:=H.ns
 cases b2
 ·exact Way.of2b (A:=tdPt0 (Pw w b1 false) g si sj kt fe i nl) 168 hsTdNf [uS 1 (fNextR i nl 1) [21],uS 3 (fGetI ⟨g.seV⟩ i (.ref si.a)) [3],uS 9 (fTb0 (Pw w b1 false) (tdB g si sj) t.lens t.v' t.k') [1,9,11,3,13,15,17,2,4,6],uS 11 (fSumX t.lens (fun px n=>pxN px 0 (n+2)) t.bo) [4],uS 13 (fGetI ⟨g.lkV⟩ i (.str (tx t.A) t.ta)) [5],uS 15 (fLenS (tx t.A) t.na) [],uS 17 (fGetI ⟨g.lkV⟩ g.j (.str (tx t.B) t.tb)) [5],uS 19 (fLenS (tx t.B) t.nb) [],uS 21 (fMax2 t.na t.nb t.mx) [],uS 23 (fIIi "int.__sub__" t.mx t.bo t.df) [],uS 25 (fIIi "int.__mul__" 2 t.df t.ne) [],uS 27 (fIIi "int.__add__" i 1 t.i1) [],uS 29 (fIIi "int.__add__" g.j 1 t.j1) [],uS 31 (fSliceL ⟨g.lwV⟩ (fun tk=>.int t.i1 tk) (fun tk=>.int t.j1 tk) (fun _=>.none) t.sl) [7,8],uS 33 (fMinX t.sl t.bo) [10],uS 35 (fII "int.__ne__" t.bo t.bo false) [],uS 37 (fGetI ⟨g.lkV⟩ i (.str (tx t.A) t.ta)) [5],uS 39 (fGetI ⟨g.lkV⟩ g.j (.str (tx t.B) t.tb)) [5],uS 40 (fLevX t.A t.B 12 t.ne) [],uS 42 (fII "int.__ne__" t.ne t.ne false) [],uS 44 (fGetI ⟨g.lkV⟩ g.j (.str (tx t.B) t.tb)) [5],uS 46 (fGetI ⟨g.lkV⟩ i (.str (tx t.A) t.ta)) [5],uS 47 (fOth (Pw w b1 false) t.A t.A') [],uS 48 (fLevX t.B t.A' g.bd t.to) [],uS 50 (fIIi "int.__add__" t.ne t.bo t.su) [],uS 52 (fII "int.__ne__" t.to t.su true) [],uS 54 (fIIi "int.__add__" t.ne t.bo t.su) [],uS 56 (fII "int.__le__" t.su g.bd false) [],uS 58 (fII "int.__le__" t.to g.bd false) []] 59 (tdK (Pw w b1 false) g si sj ⟨i,t.bo,t.ne,t.to⟩ (i+1) (nl-1)) plTd
    ⟨fNextR_ok H.hnl,fGetI_ok ni hni (by simpa using gsi) (z100 H.zse),Fam.Ok.mono (fam1_ok fun _ _=>H.tbk _ _ _ _) le84_168,fSumX_ok H.bo H.bfit,fGetI_ok mi hmi (by simpa using gli) (z100 H.zlk),fLenS_ok (by rw [tx_len]; exact H.na) (by rw [tx_len]; exact z100 H.zA),fGetI_ok nj hnj (by simpa using glj) (z100 H.zlk),fLenS_ok (by rw [tx_len]; exact H.nb) (by rw [tx_len]; exact z100 H.zB),Fam.Ok.mono (fMax2_ok H.mx) le42_168,int_sub_ok H.df,int_mul_ok (by decide) H.dfr H.ne,int_add_ok H.i1,int_add_ok H.j1,fSliceL_ok (some t.i1) (some t.j1) none (fun tk=>IsPart.int _ tk) (fun tk=>IsPart.int _ tk) (fun _=>IsPart.none) (by simp) (by simpa using z100 H.zlw) H.sl,fMinX_ok hsl H.ns0 H.mi,int_ne_ok (by simp),fGetI_ok mi hmi (by simpa using gli) (z100 H.zlk),fGetI_ok nj hnj (by simpa using glj) (z100 H.zlk),fam1_ok fun _ _=>H.lev1 _ _ _,int_ne_ok (by simp),fGetI_ok nj hnj (by simpa using glj) (z100 H.zlk),fGetI_ok mi hmi (by simpa using gli) (z100 H.zlk),Fam.Ok.mono (fam1_ok fun _ _=>H.oth _) le126_168,fam1_ok fun _ _=>H.lev2 _ _ _,int_add_ok H.su,int_ne_ok (by simpa using he),int_add_ok H.su,int_le_ok (by simpa using h1),int_le_ok (by simpa using h2),trivial⟩
 ·exact Way.of2b (A:=tdPt0 (Pw w b1 true) g si sj kt fe i nl) 168 hsTdNt [uS 1 (fNextR i nl 1) [21],uS 3 (fGetI ⟨g.seV⟩ i (.ref si.a)) [3],uS 7 (fTb0 (Pw w b1 true) (tdB g si sj) t.lens t.v' t.k') [1,9,11,3,13,15,17,2,4,6],uS 9 (fSumX t.lens (fun px n=>pxN px 0 (n+2)) t.bo) [4],uS 11 (fGetI ⟨g.lkV⟩ i (.str (tx t.A) t.ta)) [5],uS 13 (fLenS (tx t.A) t.na) [],uS 15 (fGetI ⟨g.lkV⟩ g.j (.str (tx t.B) t.tb)) [5],uS 17 (fLenS (tx t.B) t.nb) [],uS 19 (fMax2 t.na t.nb t.mx) [],uS 21 (fIIi "int.__sub__" t.mx t.bo t.df) [],uS 23 (fIIi "int.__mul__" 2 t.df t.ne) [],uS 25 (fIIi "int.__add__" i 1 t.i1) [],uS 27 (fIIi "int.__add__" g.j 1 t.j1) [],uS 29 (fSliceL ⟨g.lwV⟩ (fun tk=>.int t.i1 tk) (fun tk=>.int t.j1 tk) (fun _=>.none) t.sl) [7,8],uS 31 (fMinX t.sl t.bo) [10],uS 33 (fII "int.__ne__" t.bo t.bo false) [],uS 35 (fGetI ⟨g.lkV⟩ i (.str (tx t.A) t.ta)) [5],uS 37 (fGetI ⟨g.lkV⟩ g.j (.str (tx t.B) t.tb)) [5],uS 38 (fLevX t.A t.B 12 t.ne) [],uS 40 (fII "int.__ne__" t.ne t.ne false) [],uS 42 (fGetI ⟨g.lkV⟩ g.j (.str (tx t.B) t.tb)) [5],uS 44 (fGetI ⟨g.lkV⟩ i (.str (tx t.A) t.ta)) [5],uS 45 (fOth (Pw w b1 true) t.A t.A') [],uS 46 (fLevX t.B t.A' g.bd t.to) [],uS 48 (fIIi "int.__add__" t.ne t.bo t.su) [],uS 50 (fII "int.__ne__" t.to t.su true) [],uS 52 (fIIi "int.__add__" t.ne t.bo t.su) [],uS 54 (fII "int.__le__" t.su g.bd false) [],uS 56 (fII "int.__le__" t.to g.bd false) []] 57 (tdK (Pw w b1 true) g si sj ⟨i,t.bo,t.ne,t.to⟩ (i+1) (nl-1)) plTd
    ⟨fNextR_ok H.hnl,fGetI_ok ni hni (by simpa using gsi) (z100 H.zse),Fam.Ok.mono (fam1_ok fun _ _=>H.tbk _ _ _ _) le84_168,fSumX_ok H.bo H.bfit,fGetI_ok mi hmi (by simpa using gli) (z100 H.zlk),fLenS_ok (by rw [tx_len]; exact H.na) (by rw [tx_len]; exact z100 H.zA),fGetI_ok nj hnj (by simpa using glj) (z100 H.zlk),fLenS_ok (by rw [tx_len]; exact H.nb) (by rw [tx_len]; exact z100 H.zB),Fam.Ok.mono (fMax2_ok H.mx) le42_168,int_sub_ok H.df,int_mul_ok (by decide) H.dfr H.ne,int_add_ok H.i1,int_add_ok H.j1,fSliceL_ok (some t.i1) (some t.j1) none (fun tk=>IsPart.int _ tk) (fun tk=>IsPart.int _ tk) (fun _=>IsPart.none) (by simp) (by simpa using z100 H.zlw) H.sl,fMinX_ok hsl H.ns0 H.mi,int_ne_ok (by simp),fGetI_ok mi hmi (by simpa using gli) (z100 H.zlk),fGetI_ok nj hnj (by simpa using glj) (z100 H.zlk),fam1_ok fun _ _=>H.lev1 _ _ _,int_ne_ok (by simp),fGetI_ok nj hnj (by simpa using glj) (z100 H.zlk),fGetI_ok mi hmi (by simpa using gli) (z100 H.zlk),Fam.Ok.mono (fam1_ok fun _ _=>H.oth _) le126_168,fam1_ok fun _ _=>H.lev2 _ _ _,int_add_ok H.su,int_ne_ok (by simpa using he),int_add_ok H.su,int_le_ok (by simpa using h1),int_le_ok (by simpa using h2),trivial⟩
theorem td1E_ok (w:World) (b1 b2:Bool) (g:TG) (si sj:RW) (i nl:Int) (t:TT) (kt:Nat→Tok) (v:TV) (vt:Nat→Tok) (fe:Nat) (H:TurnOk w b1 b2 g si sj i nl t) (he:t.to=t.su) :
  Way (Mo w b1 b2) (Kt w b1 b2) 210 (tdPt (Pw w b1 b2) g si sj kt v vt fe i nl) (fun z:StI=>tdK (Pw w b1 b2) g si sj ⟨i,t.bo,t.ne,t.to⟩ (i+1) (nl-1) z.1 z.2.1 z.2.2) (fun z=>evs plTd (tdK (Pw w b1 b2) g si sj ⟨i,t.bo,t.ne,t.to⟩ (i+1) (nl-1) z.1 z.2.1 z.2.2).need):=by
 obtain ⟨ni,hni,gsi⟩:=H.gsi
 obtain ⟨mi,hmi,gli⟩:=H.gli
 obtain ⟨nj,hnj,glj⟩:=H.glj
 obtain ⟨fsl,hsl⟩:=H.ns
 cases b2
 ·exact Way.of2b (A:=tdPt (Pw w b1 false) g si sj kt v vt fe i nl) 168 hsTdEf [uS 1 (fNextR i nl 1) [21],uS 3 (fGetI ⟨g.seV⟩ i (.ref si.a)) [3],uS 9 (fTb0 (Pw w b1 false) (tdB g si sj) t.lens t.v' t.k') [1,9,11,3,13,15,17,2,4,6],uS 11 (fSumX t.lens (fun px n=>pxN px 0 (n+2)) t.bo) [4],uS 13 (fGetI ⟨g.lkV⟩ i (.str (tx t.A) t.ta)) [5],uS 15 (fLenS (tx t.A) t.na) [],uS 17 (fGetI ⟨g.lkV⟩ g.j (.str (tx t.B) t.tb)) [5],uS 19 (fLenS (tx t.B) t.nb) [],uS 21 (fMax2 t.na t.nb t.mx) [],uS 23 (fIIi "int.__sub__" t.mx t.bo t.df) [],uS 25 (fIIi "int.__mul__" 2 t.df t.ne) [],uS 27 (fIIi "int.__add__" i 1 t.i1) [],uS 29 (fIIi "int.__add__" g.j 1 t.j1) [],uS 31 (fSliceL ⟨g.lwV⟩ (fun tk=>.int t.i1 tk) (fun tk=>.int t.j1 tk) (fun _=>.none) t.sl) [7,8],uS 33 (fMinX t.sl t.bo) [10],uS 35 (fII "int.__ne__" t.bo t.bo false) [],uS 37 (fGetI ⟨g.lkV⟩ i (.str (tx t.A) t.ta)) [5],uS 39 (fGetI ⟨g.lkV⟩ g.j (.str (tx t.B) t.tb)) [5],uS 40 (fLevX t.A t.B 12 t.ne) [],uS 42 (fII "int.__ne__" t.ne t.ne false) [],uS 44 (fGetI ⟨g.lkV⟩ g.j (.str (tx t.B) t.tb)) [5],uS 46 (fGetI ⟨g.lkV⟩ i (.str (tx t.A) t.ta)) [5],uS 47 (fOth (Pw w b1 false) t.A t.A') [],uS 48 (fLevX t.B t.A' g.bd t.to) [],uS 50 (fIIi "int.__add__" t.ne t.bo t.su) [],uS 52 (fII "int.__ne__" t.to t.su false) []] 53 (tdK (Pw w b1 false) g si sj ⟨i,t.bo,t.ne,t.to⟩ (i+1) (nl-1)) plTd
    ⟨fNextR_ok H.hnl,fGetI_ok ni hni (by simpa using gsi) (z100 H.zse),Fam.Ok.mono (fam1_ok fun _ _=>H.tbk _ _ _ _) le84_168,fSumX_ok H.bo H.bfit,fGetI_ok mi hmi (by simpa using gli) (z100 H.zlk),fLenS_ok (by rw [tx_len]; exact H.na) (by rw [tx_len]; exact z100 H.zA),fGetI_ok nj hnj (by simpa using glj) (z100 H.zlk),fLenS_ok (by rw [tx_len]; exact H.nb) (by rw [tx_len]; exact z100 H.zB),Fam.Ok.mono (fMax2_ok H.mx) le42_168,int_sub_ok H.df,int_mul_ok (by decide) H.dfr H.ne,int_add_ok H.i1,int_add_ok H.j1,fSliceL_ok (some t.i1) (some t.j1) none (fun tk=>IsPart.int _ tk) (fun tk=>IsPart.int _ tk) (fun _=>IsPart.none) (by simp) (by simpa using z100 H.zlw) H.sl,fMinX_ok hsl H.ns0 H.mi,int_ne_ok (by simp),fGetI_ok mi hmi (by simpa using gli) (z100 H.zlk),fGetI_ok nj hnj (by simpa using glj) (z100 H.zlk),fam1_ok fun _ _=>H.lev1 _ _ _,int_ne_ok (by simp),fGetI_ok nj hnj (by simpa using glj) (z100 H.zlk),fGetI_ok mi hmi (by simpa using gli) (z100 H.zlk),Fam.Ok.mono (fam1_ok fun _ _=>H.oth _) le126_168,fam1_ok fun _ _=>H.lev2 _ _ _,int_add_ok H.su,int_ne_ok (by simpa using he),trivial⟩
 ·exact Way.of2b (A:=tdPt (Pw w b1 true) g si sj kt v vt fe i nl) 168 hsTdEt [uS 1 (fNextR i nl 1) [21],uS 3 (fGetI ⟨g.seV⟩ i (.ref si.a)) [3],uS 7 (fTb0 (Pw w b1 true) (tdB g si sj) t.lens t.v' t.k') [1,9,11,3,13,15,17,2,4,6],uS 9 (fSumX t.lens (fun px n=>pxN px 0 (n+2)) t.bo) [4],uS 11 (fGetI ⟨g.lkV⟩ i (.str (tx t.A) t.ta)) [5],uS 13 (fLenS (tx t.A) t.na) [],uS 15 (fGetI ⟨g.lkV⟩ g.j (.str (tx t.B) t.tb)) [5],uS 17 (fLenS (tx t.B) t.nb) [],uS 19 (fMax2 t.na t.nb t.mx) [],uS 21 (fIIi "int.__sub__" t.mx t.bo t.df) [],uS 23 (fIIi "int.__mul__" 2 t.df t.ne) [],uS 25 (fIIi "int.__add__" i 1 t.i1) [],uS 27 (fIIi "int.__add__" g.j 1 t.j1) [],uS 29 (fSliceL ⟨g.lwV⟩ (fun tk=>.int t.i1 tk) (fun tk=>.int t.j1 tk) (fun _=>.none) t.sl) [7,8],uS 31 (fMinX t.sl t.bo) [10],uS 33 (fII "int.__ne__" t.bo t.bo false) [],uS 35 (fGetI ⟨g.lkV⟩ i (.str (tx t.A) t.ta)) [5],uS 37 (fGetI ⟨g.lkV⟩ g.j (.str (tx t.B) t.tb)) [5],uS 38 (fLevX t.A t.B 12 t.ne) [],uS 40 (fII "int.__ne__" t.ne t.ne false) [],uS 42 (fGetI ⟨g.lkV⟩ g.j (.str (tx t.B) t.tb)) [5],uS 44 (fGetI ⟨g.lkV⟩ i (.str (tx t.A) t.ta)) [5],uS 45 (fOth (Pw w b1 true) t.A t.A') [],uS 46 (fLevX t.B t.A' g.bd t.to) [],uS 48 (fIIi "int.__add__" t.ne t.bo t.su) [],uS 50 (fII "int.__ne__" t.to t.su false) []] 51 (tdK (Pw w b1 true) g si sj ⟨i,t.bo,t.ne,t.to⟩ (i+1) (nl-1)) plTd
    ⟨fNextR_ok H.hnl,fGetI_ok ni hni (by simpa using gsi) (z100 H.zse),Fam.Ok.mono (fam1_ok fun _ _=>H.tbk _ _ _ _) le84_168,fSumX_ok H.bo H.bfit,fGetI_ok mi hmi (by simpa using gli) (z100 H.zlk),fLenS_ok (by rw [tx_len]; exact H.na) (by rw [tx_len]; exact z100 H.zA),fGetI_ok nj hnj (by simpa using glj) (z100 H.zlk),fLenS_ok (by rw [tx_len]; exact H.nb) (by rw [tx_len]; exact z100 H.zB),Fam.Ok.mono (fMax2_ok H.mx) le42_168,int_sub_ok H.df,int_mul_ok (by decide) H.dfr H.ne,int_add_ok H.i1,int_add_ok H.j1,fSliceL_ok (some t.i1) (some t.j1) none (fun tk=>IsPart.int _ tk) (fun tk=>IsPart.int _ tk) (fun _=>IsPart.none) (by simp) (by simpa using z100 H.zlw) H.sl,fMinX_ok hsl H.ns0 H.mi,int_ne_ok (by simp),fGetI_ok mi hmi (by simpa using gli) (z100 H.zlk),fGetI_ok nj hnj (by simpa using glj) (z100 H.zlk),fam1_ok fun _ _=>H.lev1 _ _ _,int_ne_ok (by simp),fGetI_ok nj hnj (by simpa using glj) (z100 H.zlk),fGetI_ok mi hmi (by simpa using gli) (z100 H.zlk),Fam.Ok.mono (fam1_ok fun _ _=>H.oth _) le126_168,fam1_ok fun _ _=>H.lev2 _ _ _,int_add_ok H.su,int_ne_ok (by simpa using he),trivial⟩
theorem td1N_ok (w:World) (b1 b2:Bool) (g:TG) (si sj:RW) (i nl:Int) (t:TT) (kt:Nat→Tok) (v:TV) (vt:Nat→Tok) (fe:Nat) (H:TurnOk w b1 b2 g si sj i nl t) (he:t.to≠t.su) (h1:g.bd<t.su) (h2:g.bd<t.to) :
  Way (Mo w b1 b2) (Kt w b1 b2) 210 (tdPt (Pw w b1 b2) g si sj kt v vt fe i nl) (fun z:StI=>tdK (Pw w b1 b2) g si sj ⟨i,t.bo,t.ne,t.to⟩ (i+1) (nl-1) z.1 z.2.1 z.2.2) (fun z=>evs plTd (tdK (Pw w b1 b2) g si sj ⟨i,t.bo,t.ne,t.to⟩ (i+1) (nl-1) z.1 z.2.1 z.2.2).need):=by
 obtain ⟨ni,hni,gsi⟩:=H.gsi
 obtain ⟨mi,hmi,gli⟩:=H.gli
 obtain ⟨nj,hnj,glj⟩:=H.glj
 obtain ⟨fsl,hsl⟩:=H.ns
 cases b2
 ·exact Way.of2b (A:=tdPt (Pw w b1 false) g si sj kt v vt fe i nl) 168 hsTdNf [uS 1 (fNextR i nl 1) [21],uS 3 (fGetI ⟨g.seV⟩ i (.ref si.a)) [3],uS 9 (fTb0 (Pw w b1 false) (tdB g si sj) t.lens t.v' t.k') [1,9,11,3,13,15,17,2,4,6],uS 11 (fSumX t.lens (fun px n=>pxN px 0 (n+2)) t.bo) [4],uS 13 (fGetI ⟨g.lkV⟩ i (.str (tx t.A) t.ta)) [5],uS 15 (fLenS (tx t.A) t.na) [],uS 17 (fGetI ⟨g.lkV⟩ g.j (.str (tx t.B) t.tb)) [5],uS 19 (fLenS (tx t.B) t.nb) [],uS 21 (fMax2 t.na t.nb t.mx) [],uS 23 (fIIi "int.__sub__" t.mx t.bo t.df) [],uS 25 (fIIi "int.__mul__" 2 t.df t.ne) [],uS 27 (fIIi "int.__add__" i 1 t.i1) [],uS 29 (fIIi "int.__add__" g.j 1 t.j1) [],uS 31 (fSliceL ⟨g.lwV⟩ (fun tk=>.int t.i1 tk) (fun tk=>.int t.j1 tk) (fun _=>.none) t.sl) [7,8],uS 33 (fMinX t.sl t.bo) [10],uS 35 (fII "int.__ne__" t.bo t.bo false) [],uS 37 (fGetI ⟨g.lkV⟩ i (.str (tx t.A) t.ta)) [5],uS 39 (fGetI ⟨g.lkV⟩ g.j (.str (tx t.B) t.tb)) [5],uS 40 (fLevX t.A t.B 12 t.ne) [],uS 42 (fII "int.__ne__" t.ne t.ne false) [],uS 44 (fGetI ⟨g.lkV⟩ g.j (.str (tx t.B) t.tb)) [5],uS 46 (fGetI ⟨g.lkV⟩ i (.str (tx t.A) t.ta)) [5],uS 47 (fOth (Pw w b1 false) t.A t.A') [],uS 48 (fLevX t.B t.A' g.bd t.to) [],uS 50 (fIIi "int.__add__" t.ne t.bo t.su) [],uS 52 (fII "int.__ne__" t.to t.su true) [],uS 54 (fIIi "int.__add__" t.ne t.bo t.su) [],uS 56 (fII "int.__le__" t.su g.bd false) [],uS 58 (fII "int.__le__" t.to g.bd false) []] 59 (tdK (Pw w b1 false) g si sj ⟨i,t.bo,t.ne,t.to⟩ (i+1) (nl-1)) plTd
    ⟨fNextR_ok H.hnl,fGetI_ok ni hni (by simpa using gsi) (z100 H.zse),Fam.Ok.mono (fam1_ok fun _ _=>H.tbk _ _ _ _) le84_168,fSumX_ok H.bo H.bfit,fGetI_ok mi hmi (by simpa using gli) (z100 H.zlk),fLenS_ok (by rw [tx_len]; exact H.na) (by rw [tx_len]; exact z100 H.zA),fGetI_ok nj hnj (by simpa using glj) (z100 H.zlk),fLenS_ok (by rw [tx_len]; exact H.nb) (by rw [tx_len]; exact z100 H.zB),Fam.Ok.mono (fMax2_ok H.mx) le42_168,int_sub_ok H.df,int_mul_ok (by decide) H.dfr H.ne,int_add_ok H.i1,int_add_ok H.j1,fSliceL_ok (some t.i1) (some t.j1) none (fun tk=>IsPart.int _ tk) (fun tk=>IsPart.int _ tk) (fun _=>IsPart.none) (by simp) (by simpa using z100 H.zlw) H.sl,fMinX_ok hsl H.ns0 H.mi,int_ne_ok (by simp),fGetI_ok mi hmi (by simpa using gli) (z100 H.zlk),fGetI_ok nj hnj (by simpa using glj) (z100 H.zlk),fam1_ok fun _ _=>H.lev1 _ _ _,int_ne_ok (by simp),fGetI_ok nj hnj (by simpa using glj) (z100 H.zlk),fGetI_ok mi hmi (by simpa using gli) (z100 H.zlk),Fam.Ok.mono (fam1_ok fun _ _=>H.oth _) le126_168,fam1_ok fun _ _=>H.lev2 _ _ _,int_add_ok H.su,int_ne_ok (by simpa using he),int_add_ok H.su,int_le_ok (by simpa using h1),int_le_ok (by simpa using h2),trivial⟩
 ·exact Way.of2b (A:=tdPt (Pw w b1 true) g si sj kt v vt fe i nl) 168 hsTdNt [uS 1 (fNextR i nl 1) [21],uS 3 (fGetI ⟨g.seV⟩ i (.ref si.a)) [3],uS 7 (fTb0 (Pw w b1 true) (tdB g si sj) t.lens t.v' t.k') [1,9,11,3,13,15,17,2,4,6],uS 9 (fSumX t.lens (fun px n=>pxN px 0 (n+2)) t.bo) [4],uS 11 (fGetI ⟨g.lkV⟩ i (.str (tx t.A) t.ta)) [5],uS 13 (fLenS (tx t.A) t.na) [],uS 15 (fGetI ⟨g.lkV⟩ g.j (.str (tx t.B) t.tb)) [5],uS 17 (fLenS (tx t.B) t.nb) [],uS 19 (fMax2 t.na t.nb t.mx) [],uS 21 (fIIi "int.__sub__" t.mx t.bo t.df) [],uS 23 (fIIi "int.__mul__" 2 t.df t.ne) [],uS 25 (fIIi "int.__add__" i 1 t.i1) [],uS 27 (fIIi "int.__add__" g.j 1 t.j1) [],uS 29 (fSliceL ⟨g.lwV⟩ (fun tk=>.int t.i1 tk) (fun tk=>.int t.j1 tk) (fun _=>.none) t.sl) [7,8],uS 31 (fMinX t.sl t.bo) [10],uS 33 (fII "int.__ne__" t.bo t.bo false) [],uS 35 (fGetI ⟨g.lkV⟩ i (.str (tx t.A) t.ta)) [5],uS 37 (fGetI ⟨g.lkV⟩ g.j (.str (tx t.B) t.tb)) [5],uS 38 (fLevX t.A t.B 12 t.ne) [],uS 40 (fII "int.__ne__" t.ne t.ne false) [],uS 42 (fGetI ⟨g.lkV⟩ g.j (.str (tx t.B) t.tb)) [5],uS 44 (fGetI ⟨g.lkV⟩ i (.str (tx t.A) t.ta)) [5],uS 45 (fOth (Pw w b1 true) t.A t.A') [],uS 46 (fLevX t.B t.A' g.bd t.to) [],uS 48 (fIIi "int.__add__" t.ne t.bo t.su) [],uS 50 (fII "int.__ne__" t.to t.su true) [],uS 52 (fIIi "int.__add__" t.ne t.bo t.su) [],uS 54 (fII "int.__le__" t.su g.bd false) [],uS 56 (fII "int.__le__" t.to g.bd false) []] 57 (tdK (Pw w b1 true) g si sj ⟨i,t.bo,t.ne,t.to⟩ (i+1) (nl-1)) plTd
    ⟨fNextR_ok H.hnl,fGetI_ok ni hni (by simpa using gsi) (z100 H.zse),Fam.Ok.mono (fam1_ok fun _ _=>H.tbk _ _ _ _) le84_168,fSumX_ok H.bo H.bfit,fGetI_ok mi hmi (by simpa using gli) (z100 H.zlk),fLenS_ok (by rw [tx_len]; exact H.na) (by rw [tx_len]; exact z100 H.zA),fGetI_ok nj hnj (by simpa using glj) (z100 H.zlk),fLenS_ok (by rw [tx_len]; exact H.nb) (by rw [tx_len]; exact z100 H.zB),Fam.Ok.mono (fMax2_ok H.mx) le42_168,int_sub_ok H.df,int_mul_ok (by decide) H.dfr H.ne,int_add_ok H.i1,int_add_ok H.j1,fSliceL_ok (some t.i1) (some t.j1) none (fun tk=>IsPart.int _ tk) (fun tk=>IsPart.int _ tk) (fun _=>IsPart.none) (by simp) (by simpa using z100 H.zlw) H.sl,fMinX_ok hsl H.ns0 H.mi,int_ne_ok (by simp),fGetI_ok mi hmi (by simpa using gli) (z100 H.zlk),fGetI_ok nj hnj (by simpa using glj) (z100 H.zlk),fam1_ok fun _ _=>H.lev1 _ _ _,int_ne_ok (by simp),fGetI_ok nj hnj (by simpa using glj) (z100 H.zlk),fGetI_ok mi hmi (by simpa using gli) (z100 H.zlk),Fam.Ok.mono (fam1_ok fun _ _=>H.oth _) le126_168,fam1_ok fun _ _=>H.lev2 _ _ _,int_add_ok H.su,int_ne_ok (by simpa using he),int_add_ok H.su,int_le_ok (by simpa using h1),int_le_ok (by simpa using h2),trivial⟩
end Td
end Mine
namespace Mine
namespace Td
open Mine.Sn (ceO)
noncomputable def tdFull (g:TG) (r:Nat→RW) (fr:Obj) (k nl:Int):List (Addr×Obj) :=
 [(g.H,lsO g.hs g.eh),(g.SE,lsO g.seV g.ese),(g.LK,lsO g.lkV g.elk),(g.LW,lsO g.lwV g.elw),((r 0).a,lsO (r 0).v (r 0).e),((r 1).a,lsO (r 1).v (r 1).e),((r 2).a,lsO (r 2).v (r 2).e),((r 3).a,lsO (r 3).v (r 3).e),((r 4).a,lsO (r 4).v (r 4).e),
  (g.CH,ceO (.ref g.H)),(g.CS,ceO (.ref g.SE)),(g.CJ,ceO (.int g.j g.tj)),(g.L,fr),(g.I,rgIt k nl)]
noncomputable def tdGive (P:Params) (g:TG) (r:Nat→RW) (v':TV) (k':Int) (xs:Nat→Nat):List Obj :=
 (tdFull g r (tdFr P g (fun m=>xs (2*m+1)) v' (fun m=>xs (2*m+2)) (xs 0)) k' 0).map (·.2)
noncomputable def kIn (P:Params) (g:TG) (r:Nat→RW) (fr:Obj) (k nl:Int) (v':TV) (k':Int):Con :=
 ⟨tdC P g,tdFull g r fr k nl,tdGive P g r v' k',fun _=>[],fun _=>.ok .next⟩
noncomputable def kIn0 (P:Params) (g:TG) (r:Nat→RW) (fr:Obj) (k:Int):Con :=
 ⟨tdC P g,tdFull g r fr k 0,fun _=>(tdFull g r fr k 0).map (·.2),fun _=>[],fun _=>.ok .next⟩
noncomputable def tokS (fe:Nat) (kt vt:Nat→Tok) (n:Nat):Nat:=match n with
 | 0=>fe
 | n+1=>match n % 2 with
  | 0=>kt (n / 2)
  | _=>vt (n / 2)
theorem kIn0_ok (w:World) (b1 b2:Bool) (g:TG) (r:Nat→RW) (kt:Nat→Tok) (fe:Nat) (k:Int):(kIn0 (Pw w b1 b2) g r (tdFr0 (Pw w b1 b2) g kt fe) k).Ok2 w b1 b2 210 :=
 Con.of2 168 [27,27,4] [uS 1 (fNextRE k 0 1) [27]] [] (fun _ _ _ _=>0) ⟨fNextRE_ok (Int.le_refl 0),trivial⟩
theorem kInE_ok (w:World) (b1 b2:Bool) (g:TG) (r:Nat→RW) (kt:Nat→Tok) (v:TV) (vt:Nat→Tok) (fe:Nat) (k:Int):(kIn (Pw w b1 b2) g r (tdFr (Pw w b1 b2) g kt v vt fe) k 0 v k).Ok2 w b1 b2 210 :=
 Con.of2 168 [27,27,4] [uS 1 (fNextRE k 0 1) [27]] [] (fun _ _ _=>tokS fe kt vt) ⟨fNextRE_ok (Int.le_refl 0),trivial⟩
theorem part_mem {T nb pk:List (Addr×Obj)} (idx:List (Bool×Nat)) (e:T.map some=idx.map fun x=>nth (match x.1 with | true=>nb | false=>pk) x.2):∀ q∈T,q∈nb∨q∈pk:=by
 intro q hq
 have h:some q∈T.map some:=List.mem_map_of_mem hq
 rw [e] at h
 obtain ⟨⟨b,n⟩,_,e⟩:=List.mem_map.mp h
 cases b with
 | true=>exact .inl (nth_mem e)
 | false=>exact .inr (nth_mem e)
noncomputable def selP (i j:Nat):List Nat:=[0,1,2,3,4+i,4+j,9,10,11,12,13]
noncomputable def selQ (i j:Nat):List Nat:=[4,5,6,7,8].filter fun n=>!(Nat.beq n (4+i)||Nat.beq n (4+j))
noncomputable def idxR (i j:Nat):Nat→Nat→List (Bool×Nat)
 | 0,_=>[]
 | d+1,m=>match Nat.beq (5-(d+1)) i with
  | true=>(true,4)::idxR i j d m
  | false=>match Nat.beq (5-(d+1)) j with
   | true=>(true,5)::idxR i j d m
   | false=>(false,m)::idxR i j d (m+1)
noncomputable def idxP (i j:Nat):List (Bool×Nat):=[(true,0),(true,1),(true,2),(true,3)]++idxR i j 5 0++[(true,6),(true,7),(true,8),(true,9),(true,10)]
theorem Way.part2 {M:Model} {kt:Addr→Option Obj} {x:Nat} {ι:Type} {c:Code} {L:List (Addr×Obj)} {c':ι→Code} {nb T:ι→List (Addr×Obj)} {nw:ι→List Addr} (sel sel':List Nat) (hs:sel.Nodup) (hd:∀ i∈sel,∀ j∈sel',i≠j)
  (W:Way M kt x ⟨c,pickNew sel L⟩ (fun i=>⟨c' i,nb i⟩) nw) (hT:∀ i,(T i).map (·.1)=L.map (·.1)) (hq:∀ i,∀ q∈T i,q∈nb i∨q∈pickNew sel' L):Way M kt x ⟨c,L⟩ (fun i=>⟨c' i,T i⟩) nw :=
 Way.part (A:=⟨c,L⟩) sel sel' hs hd W hT hq
structure Places (i j:Nat):Prop where
 nd:(selP i j).Nodup
 ap:∀ a∈selP i j,∀ b∈selQ i j,a≠b
 at1:∀ (g:TG) (r:Nat→RW) (fr:Obj) (k nl:Int),pickNew (selP i j) (tdFull g r fr k nl)=tdNeed g (r i) (r j) fr k nl
 at2:∀ (g:TG) (r:Nat→RW) (fr fr':Obj) (k nl k' nl':Int),(tdFull g r fr' k' nl').map some=(idxP i j).map fun x=>nth (match x.1 with | true=>tdNeed g (r i) (r j) fr' k' nl' | false=>pickNew (selQ i j) (tdFull g r fr k nl)) x.2
theorem ten:∀ j i:Fin 5,i.1<j.1→(i.1,j.1)∈[(0,1),(0,2),(1,2),(0,3),(1,3),(2,3),(0,4),(1,4),(2,4),(3,4)]:=by decide
theorem all10 {P:Nat×Nat→Prop}:∀ {l:List (Nat×Nat)} {x:Nat×Nat},l.foldr (fun x p=>P x∧p) True→x∈l→P x
 | y::l,x,h,m=>by
  cases m with
  | head=>exact h.1
  | tail _ m=>exact all10 h.2 m
theorem places (i j:Nat) (h:i<j) (hj:j<5):Places i j:=by
 refine all10 (P:=fun x=>Places x.1 x.2) ?_ (ten ⟨j,hj⟩ ⟨i,Nat.lt_trans h hj⟩ h)
 refine ⟨?_,?_,?_,?_,?_,?_,?_,?_,?_,?_,trivial⟩<;>exact ⟨by decide,by decide,fun _ _ _ _ _=>by rfl,fun _ _ _ _ _ _ _ _=>by rfl⟩
noncomputable def kInZ (P:Params) (g:TG) (r:Nat→RW) (v:TV) (k nl:Int) (v':TV) (k':Int) (z:StI):Con:=kIn P g r (tdFr P g (fun m=>tokV (keyN z.2.1 9 m)) v (fun m=>tokV (vN z.2.1 9 (m+3))) (epN z.2.1 9)) k nl v' k'
theorem kIn_zip (P:Params) (g:TG) (r:Nat→RW) (fr fr':Obj) (k nl k1 nl1:Int) (v':TV) (k':Int) (xs:Nat→Nat):zipObj (kIn P g r fr k nl v' k').need ((kIn P g r fr k nl v' k').give xs)=zipObj (kIn P g r fr' k1 nl1 v' k').need ((kIn P g r fr' k1 nl1 v' k').give xs):=by kernel_rfl
theorem kIn_len (P:Params) (g:TG) (r:Nat→RW) (fr:Obj) (k nl:Int) (v':TV) (k':Int) (xs:Nat→Nat):((kIn P g r fr k nl v' k').give xs).length=(kIn P g r fr k nl v' k').need.length:=by kernel_rfl
noncomputable def tdNb (P:Params) (g:TG) (si sj:RW) (v:TV) (k nl:Int) (z:StI):List (Addr×Obj):=tdNeed g si sj (tdFr P g (fun m=>tokV (keyN z.2.1 9 m)) v (fun m=>tokV (vN z.2.1 9 (m+3))) (epN z.2.1 9)) k nl
theorem tdK_is (P:Params) (g:TG) (si sj:RW) (v:TV) (k nl:Int):(fun z:StI=>tdK P g si sj v k nl z.1 z.2.1 z.2.2)=fun z=>⟨tdC P g,tdNb P g si sj v k nl z⟩:=by kernel_rfl
theorem kIn_pt (P:Params) (g:TG) (r:Nat→RW) (fr:Obj) (k nl:Int) (v':TV) (k':Int):(⟨tdC P g,tdFull g r fr k nl⟩:Pt)=⟨(kIn P g r fr k nl v' k').c,(kIn P g r fr k nl v' k').need⟩:=by kernel_rfl
theorem kInZ_ad (P:Params) (g:TG) (r:Nat→RW) (fr:Obj) (v:TV) (k nl:Int) (v':TV) (k' k0 nl0:Int) (z:StI):(kInZ P g r v k nl v' k' z).need.map (·.1)=(tdFull g r fr k0 nl0).map (·.1):=by kernel_rfl
theorem tdStep (w:World) (b1 b2:Bool) (g:TG) (r:Nat→RW) (i j:Nat) (h:i<j) (hj:j<5) (iI nl:Int) (v:TV) (fr:Obj) (v':TV) (k':Int) (nw:StI→List Addr)
  (W:Way (Mo w b1 b2) (Kt w b1 b2) 210 ⟨tdC (Pw w b1 b2) g,tdNeed g (r i) (r j) fr iI nl⟩ (fun z:StI=>tdK (Pw w b1 b2) g (r i) (r j) v (iI+1) (nl-1) z.1 z.2.1 z.2.2) nw)
  (ih:∀ z,(kInZ (Pw w b1 b2) g r v (iI+1) (nl-1) v' k' z).Ok2 w b1 b2 210) :
  (kIn (Pw w b1 b2) g r fr iI nl v' k').Ok2 w b1 b2 210:=by
 have Q:=places i j h hj
 rw [tdK_is,← Q.at1] at W
 have V:=Way.part2 (c':=fun _=>tdC (Pw w b1 b2) g) (nb:=fun z=>tdNb (Pw w b1 b2) g (r i) (r j) v (iI+1) (nl-1) z) (selP i j) (selQ i j) Q.nd Q.ap W
  (T:=fun z:StI=>(kInZ (Pw w b1 b2) g r v (iI+1) (nl-1) v' k' z).need)
  (fun z=>kInZ_ad _ _ _ _ _ _ _ _ _ _ _ z) (fun z=>part_mem (idxP i j) (Q.at2 g r fr _ iI nl (iI+1) (nl-1)))
 refine Way.con2 (C:=kIn (Pw w b1 b2) g r fr iI nl v' k') (A:=⟨tdC (Pw w b1 b2) g,tdFull g r fr iI nl⟩) (fun z:StI=>kInZ (Pw w b1 b2) g r v (iI+1) (nl-1) v' k' z) (fun _ xs=>xs) (kIn_pt _ _ _ _ _ _ _ _) V ih ?_ ?_ ?_ ?_ ?_ ?_
 ·intro z; kernel_rfl
 ·intro z xs; kernel_rfl
 ·intro z xs q h
  rw [kIn_zip] at h
  exact h
 ·intro z xs q h
  cases h
 ·intro z xs h
  exact List.nodup_nil
 ·intro xs
  exact kIn_len _ _ _ _ _ _ _ _ _
theorem tdTurn (w:World) (b1 b2:Bool) (g:TG) (r:Nat→RW) (i j:Nat) (h:i<j) (hj:j<5) (iI nl:Int) (t:TT) (v':TV) (k':Int) (H:TurnOk w b1 b2 g (r i) (r j) iI nl t) (ht:t.to=t.su∨(g.bd<t.su∧t.to=g.bd+1))
  (ih:∀ kt vt fe,(kIn (Pw w b1 b2) g r (tdFr (Pw w b1 b2) g kt ⟨iI,t.bo,t.ne,t.to⟩ vt fe) (iI+1) (nl-1) v' k').Ok2 w b1 b2 210) :
  (∀ kt fe,(kIn (Pw w b1 b2) g r (tdFr0 (Pw w b1 b2) g kt fe) iI nl v' k').Ok2 w b1 b2 210)∧∀ kt v vt fe,(kIn (Pw w b1 b2) g r (tdFr (Pw w b1 b2) g kt v vt fe) iI nl v' k').Ok2 w b1 b2 210:=by
 by_cases e:t.to=t.su
 ·exact ⟨fun kt fe=>tdStep w b1 b2 g r i j h hj iI nl _ _ v' k' _ (td0E_ok w b1 b2 g (r i) (r j) iI nl t kt fe H e) (fun z=>ih _ _ _),fun kt v vt fe=>tdStep w b1 b2 g r i j h hj iI nl _ _ v' k' _ (td1E_ok w b1 b2 g (r i) (r j) iI nl t kt v vt fe H e) (fun z=>ih _ _ _)⟩
 ·have ⟨h1,h2⟩:g.bd<t.su∧g.bd<t.to:=by
   rcases ht with h | ⟨h,h'⟩
   ·exact absurd h e
   ·exact ⟨h,by omega⟩
  exact ⟨fun kt fe=>tdStep w b1 b2 g r i j h hj iI nl _ _ v' k' _ (td0N_ok w b1 b2 g (r i) (r j) iI nl t kt fe H e h1 h2) (fun z=>ih _ _ _),fun kt v vt fe=>tdStep w b1 b2 g r i j h hj iI nl _ _ v' k' _ (td1N_ok w b1 b2 g (r i) (r j) iI nl t kt v vt fe H e h1 h2) (fun z=>ih _ _ _)⟩
end Td
end Mine
namespace Mine
namespace Td
structure TX where
 hs:List Value
 eh:Nat
 seV:List Value
 ese:Nat
 lkV:List Value
 elk:Nat
 lwV:List Value
 elw:Nat
 bd:Int
 tbd:Tok
noncomputable def tgN (x:TX) (j:Int) (os:List (Addr×Obj)):TG:=⟨adN os 12,adN os 13,adN os 0,adN os 1,adN os 2,adN os 3,adN os 9,adN os 10,adN os 11,x.hs,x.eh,x.seV,x.ese,x.lkV,x.elk,x.lwV,x.elw,x.bd,x.tbd,j,tokV (vN os 11 0)⟩
noncomputable def fIn0 (P:Params) (x:TX) (r:Nat→RW):Fam:=fam1 fun _ os=>kIn0 P (tgN x 0 os) r (tdFr0 P (tgN x 0 os) (fun m=>tokV (keyN os 12 m)) (epN os 12)) 0
noncomputable def fIn1 (P:Params) (x:TX) (r:Nat→RW) (v':TV) (k':Int):Fam:=fam1 fun _ os=>kIn P (tgN x 1 os) r (tdFr0 P (tgN x 1 os) (fun m=>tokV (keyN os 12 m)) (epN os 12)) 0 1 v' k'
noncomputable def fInV (P:Params) (x:TX) (r:Nat→RW) (j:Int) (v v':TV) (k':Int):Fam:=fam1 fun _ os=>kIn P (tgN x j os) r (tdFr P (tgN x j os) (fun m=>tokV (keyN os 12 m)) v (fun m=>tokV (vN os 12 (m+3))) (epN os 12)) 0 j v' k'
noncomputable def toNeed (x:TX) (H SE LK LW:Addr) (r:Nat→RW):List (Addr×Obj) :=
 [(H,lsO x.hs x.eh),(SE,lsO x.seV x.ese),(LK,lsO x.lkV x.elk),(LW,lsO x.lwV x.elw),((r 0).a,lsO (r 0).v (r 0).e),((r 1).a,lsO (r 1).v (r 1).e),((r 2).a,lsO (r 2).v (r 2).e),((r 3).a,lsO (r 3).v (r 3).e),((r 4).a,lsO (r 4).v (r 4).e)]
noncomputable def kTold (x:TX) (H SE LK LW:Addr) (r:Nat→RW):Con :=
 ⟨.call (.ref 207) ⟨[.ref H,.ref SE,.ref LK,.ref LW,.int x.bd x.tbd],[]⟩,toNeed x H SE LK LW r,fun _=>(toNeed x H SE LK LW r).map (·.2),fun _=>[],fun _=>.ok (.ret (.bool true))⟩
noncomputable def plTo (I:Nat):List Nat:=[1,3,5,7,9,11,13,15,17,4,6,8,2,I]
theorem kTold1_ok (w:World) (b1 b2:Bool) (x:TX) (H SE LK LW:Addr) (r:Nat→RW) (v1 v2 v3 v4:TV) (k1 k2 k3 k4:Int)
  (h0:(fIn0 (Pw w b1 b2) x r).Ok2 w b1 b2 210) (h1:(fIn1 (Pw w b1 b2) x r v1 k1).Ok2 w b1 b2 210)
  (h2:(fInV (Pw w b1 b2) x r 2 v1 v2 k2).Ok2 w b1 b2 210) (h3:(fInV (Pw w b1 b2) x r 3 v2 v3 k3).Ok2 w b1 b2 210) (h4:(fInV (Pw w b1 b2) x r 4 v3 v4 k4).Ok2 w b1 b2 210) :
  (kTold x H SE LK LW r).Ok2 w b1 b2 252:=by
 exact Con.of2b 210 (hD 156 0x90c30c30c81e79e79e79e79e78800020830c30c30c30c31c69a69a69a69a69a20000820c30c30c30c30c61659659659659658800020830c30c30c30c31449249249249249220000820c30c30c30c30c40e38e38e38e38e38800020830c30c30c30c30c28a28a28a28a28a000082082082186104000) [⟨20,fIn0 (Pw w b1 b2) x r,plTo 16,false⟩,⟨32,fIn1 (Pw w b1 b2) x r v1 k1,plTo 20,false⟩,⟨44,fInV (Pw w b1 b2) x r 2 v1 v2 k2,plTo 24,false⟩,⟨56,fInV (Pw w b1 b2) x r 3 v2 v3 k3,plTo 28,false⟩,⟨68,fInV (Pw w b1 b2) x r 4 v3 v4 k4,plTo 32,false⟩] [] (fun _ _ _ _=>0)
  ⟨h0,h1,h2,h3,h4,trivial⟩
end Td
end Mine
namespace Mine
namespace Pl
noncomputable def lnO (l0 l1 l2 l3 l4:Nat):Nat→Nat
 | 0=>l0
 | 1=>l1
 | 2=>l2
 | 3=>l3
 | _=>l4
noncomputable def sI (ln:Nat→Nat) (k:Nat):List Int:=Sn.outIs ln k (k+1) 0
noncomputable def sN (ln:Nat→Nat) (k:Nat):List Nat:=(sI ln k).map Int.toNat
noncomputable def exL (ln:Nat→Nat):List Nat→List Nat
 | []=>[]
 | i::l=>List.replicate (ln i) i++exL ln l
noncomputable def pkK (ln:Nat→Nat) (ps:List Nat) (w:Nat):List Nat:=ps.filter fun q=>Nat.blt (ln w) (ln q)
noncomputable def pkP (ln:Nat→Nat) (ps:List Nat) (w:Nat):List Nat:=pkK ln ps w++[w]
noncomputable def pk (ln:Nat→Nat):Nat→List Nat
 | 0=>[0]
 | k+1=>pkP ln (pk ln k) (k+1)
noncomputable def sumN (ln:Nat→Nat):List Nat→Nat
 | []=>0
 | i::l=>ln i+sumN ln l
noncomputable def low (ln:Nat→Nat):Nat→Nat
 | 0=>0
 | k+1=>sumN ln (pkK ln (pk ln k) (k+1))
noncomputable def lows (ln:Nat→Nat):List Int:=[(low ln 0:Nat),(low ln 1:Nat),(low ln 2:Nat),(low ln 3:Nat),(low ln 4:Nat)]
noncomputable def lens (ln:Nat→Nat) (i j:Nat):List Int:=Td.bothL ln (sI ln j) (sI ln i)
noncomputable def both (ln:Nat→Nat) (i j:Nat):Nat:=(preSum (numL (lens ln i j)) (lens ln i j).length).toNat
noncomputable def cut (ln:Nat→Nat) (i j:Nat):List Int:=((lows ln).drop (i+1)).take (j-i)
noncomputable def pairB (ln:Nat→Nat) (i j:Nat):Bool :=
 let E:=exL ln (pk ln i)
 let F:=exL ln (pk ln j)
 let p:=both ln i j
 let le:=lens ln i j
 decide (preSum (numL le) le.length=(p:Int))&&(le.all fun n=>decide (0≤n∧n≤100))&&decide (E.take p=F.take p)&&Nat.ble p E.length&&Nat.blt p F.length&&Nat.ble E.length 6&&Nat.ble F.length 6&&Nat.blt 0 E.length &&
  ((List.range E.length).all fun m=>(List.range F.length).all fun n=>!(Nat.beq (E.getD m 9) (F.getD n 9))||(Nat.blt m p&&Nat.blt n p))&&!(Nat.beq (E.getLastD 9) (F.getLastD 9)) &&
  decide (minL (cut ln i j)=(p:Int))&&Nat.beq (cut ln i j).length (j-i)&&E.all (Nat.blt · 5)&&F.all (Nat.blt · 5)
noncomputable def rowB (ln:Nat→Nat) (k:Nat):Bool:=decide (pk ln k=sN ln k)&&(sI ln k).all (fun v=>decide (0≤v∧v≤4))&&!(sI ln k).isEmpty&&Nat.ble (sI ln k).length 3&&Nat.ble (sumN ln (pk ln k)) 6&&(pk ln k).all (Nat.blt · 5)
noncomputable def allB (ln:Nat→Nat):Bool:=([(0,1),(0,2),(1,2),(0,3),(1,3),(2,3),(0,4),(1,4),(2,4),(3,4)].all fun q:Nat×Nat=>pairB ln q.1 q.2)&&[0,1,2,3,4].all fun k=>rowB ln k
noncomputable def L3:List Nat:=[1,2,3]
theorem all243:(L3.all fun l0=>L3.all fun l1=>L3.all fun l2=>L3.all fun l3=>L3.all fun l4=>allB (lnO l0 l1 l2 l3 l4))=true:=by decide +kernel
end Pl
end Mine
namespace Mine
namespace Pl
structure Let5 (cc:Nat→Nat):Prop where
 is:∀ k,k<5→isLet (cc k)
 lw:∀ k,k<5→lw1 (cc k)=96+k
theorem lw1_all:∀ c,c<101→((96≤c∧c≤100)∨(64≤c∧c≤68))→lw1 (sw c)=lw1 c∧sw c≠c∧((96≤sw c∧sw c≤100)∨(64≤sw c∧sw c≤68)):=by decide +kernel
theorem lw1_sw {c:Nat} (h:isLet c):lw1 (sw c)=lw1 c∧sw c≠c∧isLet (sw c):=lw1_all c (by rcases h with h | h<;>omega) h
theorem subC_far {cc:Nat→Nat} (h:Let5 cc) {u v:Nat} (hu:u<5) (hv:v<5) (n:u≠v):subC (cc u) (cc v)=2∧subC (sw (cc u)) (cc v)=2:=by
 have e1:lw1 (cc u)≠lw1 (cc v):=by rw [h.lw u hu,h.lw v hv]; omega
 have e2:lw1 (sw (cc u))≠lw1 (cc v):=by rw [(lw1_sw (h.is u hu)).1]; exact e1
 unfold subC
 exact ⟨by rw [if_neg (fun e=>e1 (by rw [e])),if_neg e1],by rw [if_neg (fun e=>e2 (by rw [e])),if_neg e2]⟩
theorem subC_near {cc:Nat→Nat} (h:Let5 cc) {u:Nat} (hu:u<5):subC (sw (cc u)) (cc u)=1:=by
 obtain ⟨a,b,_⟩:=lw1_sw (h.is u hu)
 unfold subC
 rw [if_neg b,if_pos a]
structure PairF (E F:List Nat) (p:Nat):Prop where
 tk:E.take p=F.take p
 pE:p≤E.length
 pF:p<F.length
 zE:E.length≤6
 zF:F.length≤6
 nE:0<E.length
 only:∀ m n x,E[m]?=some x→F[n]?=some x→m<p∧n<p
 last:E.getLast?≠F.getLast?
 fE:∀ x∈E,x<5
 fF:∀ x∈F,x<5
theorem last_split {l:List Nat} (h:l≠[]):∃ r x,l=r++[x]∧l.getLast?=some x:=by
 refine ⟨l.dropLast,l.getLast h,(List.dropLast_concat_getLast h).symm,List.getLast?_eq_some_getLast h⟩
theorem fL_zero (i j:Nat):fL 0 i j=2*(max i j:Nat):=by
 unfold fL
 rw [Nat.min_zero]
 exact Int.sub_zero _
theorem told1 (w:World) (b1 b2:Bool) {cc:Nat→Nat} (hc:Let5 cc) {E F:List Nat} {p:Nat} (H:PairF E F p) (ne:Int) (hne:ne=2*((max E.length F.length:Nat)-(p:Int))) (ta tb tbd:Tok) :
  (kLev (E.map cc) (F.map cc) ta tb 12 tbd ne).Ok2 w b1 b2 168:=by
 have eE:E.map cc=(E.take p).map cc++(E.drop p).map cc:=by rw [← List.map_append,List.take_append_drop]
 have eF:F.map cc=(E.take p).map cc++(F.drop p).map cc:=by rw [H.tk,← List.map_append,List.take_append_drop]
 have far:∀ i j x y,(F.drop p)[i]?=some x→(E.drop p)[j]?=some y→x≠y:=fun i j x y hx hy e=>by
  rw [List.getElem?_drop] at hx hy
  have:=(H.only (p+j) (p+i) x (by rw [hy,e]) hx).1
  omega
 have mE:∀ {x},x∈E.drop p→x<5:=fun h=>H.fE _ (List.mem_of_mem_drop h)
 have mF:∀ {x},x∈F.drop p→x<5:=fun h=>H.fF _ (List.mem_of_mem_drop h)
 have zE:=H.zE
 have zF:=H.zF
 have pE:=H.pE
 have pF:=H.pF
 have lE:(E.drop p).length=E.length-p:=List.length_drop
 have lF:(F.drop p).length=F.length-p:=List.length_drop
 have nF:F.drop p≠[]:=fun e=>by rw [e] at lF; simp at lF; omega
 obtain ⟨to,ht,K⟩:=lev_ok w b1 b2 ((E.take p).map cc) ((E.drop p).map cc) ((F.drop p).map cc) 0 12 (by rw [List.length_map,List.length_take]; omega)
  (fun c h=>by obtain ⟨x,hx,rfl⟩:=List.mem_map.mp h; exact hc.is x (mE hx)) (fun c h=>by obtain ⟨x,hx,rfl⟩:=List.mem_map.mp h; exact hc.is x (mF hx))
  (by rw [List.length_map,lE]; omega) (by rw [List.length_map,lF]; omega) (by simpa using nF)
  (by
   rcases Classical.em (E.drop p=[]) with e | e
   ·exact .inl (by rw [e]; rfl)
   ·obtain ⟨x,rx,ex⟩:=List.exists_cons_of_ne_nil e
    obtain ⟨y,ry,ey⟩:=List.exists_cons_of_ne_nil nF
    refine .inr ⟨cc x,rx.map cc,cc y,ry.map cc,by rw [ex]; rfl,by rw [ey]; rfl,fun q=>?_⟩
    have n:y≠x:=far 0 0 y x (by rw [ey]; rfl) (by rw [ex]; rfl)
    have:=congrArg lw1 q
    rw [hc.lw x (mE (by rw [ex]; exact .head _)),hc.lw y (mF (by rw [ey]; exact .head _))] at this
    omega)
  (by
   rcases Classical.em (E.drop p=[]) with e | e
   ·exact .inl (by rw [e]; rfl)
   ·obtain ⟨rx,x,ex,gx⟩:=last_split e
    obtain ⟨ry,y,ey,gy⟩:=last_split nF
    refine .inr ⟨rx.map cc,cc x,ry.map cc,cc y,by rw [ex]; simp,by rw [ey]; simp,fun q=>?_⟩
    have n:x≠y:=fun e=>by
     refine H.last ?_
     rw [List.getLast?_drop] at gx gy
     split at gx
     ·cases gx
     ·split at gy
      ·cases gy
      ·rw [gx,gy,e]
    have:=congrArg lw1 q
    rw [hc.lw x (mE (by rw [ex]; simp)),hc.lw y (mF (by rw [ey]; simp))] at this
    omega)
  (fun i j x y hx hy=>by
   rw [List.getElem?_map] at hx hy
   obtain ⟨u,hu,rfl⟩:=Option.map_eq_some_iff.mp hx
   obtain ⟨v,hv,rfl⟩:=Option.map_eq_some_iff.mp hy
   have:=(subC_far hc (mF (List.mem_of_getElem? hu)) (mE (List.mem_of_getElem? hv)) (far i j u v hu hv)).1
   exact ⟨.inr this,fun e=>(by rw [this] at e; cases e),fun _ h=>absurd h (Nat.not_lt_zero _)⟩)
 rw [eE,eF]
 have hf:fL 0 ((F.drop p).map cc).length ((E.drop p).map cc).length=ne:=by
  rw [List.length_map,List.length_map,lE,lF,hne,fL_zero,Nat.sub_max_sub_right,Nat.max_comm F.length,
   Int.ofNat_sub (Nat.le_trans pE (Nat.le_max_left ..))]
 have:to=ne:=by
  rcases ht with h | ⟨h,_⟩
  ·rw [h,hf]
  ·rw [hf,hne] at h
   omega
 subst this
 exact K ta tb tbd
theorem told2 (w:World) (b1 b2:Bool) {cc:Nat→Nat} (hc:Let5 cc) {E F:List Nat} {p:Nat} (H:PairF E F p) (su bd:Int) (hsu:su=2*(max E.length F.length:Nat)-(p:Int)) :
  ∃ to,(to=su∨(bd<su∧to=bd+1))∧∀ ta tb tbd,(kLev (F.map cc) ((E.map cc).map sw) ta tb bd tbd to).Ok2 w b1 b2 168:=by
 have zE:=H.zE
 have zF:=H.zF
 have pE:=H.pE
 have pF:=H.pF
 have nE:=H.nE
 have nE':E≠[]:=fun e=>by rw [e] at nE; exact absurd nE (Nat.lt_irrefl 0)
 have nF':F≠[]:=fun e=>by rw [e] at pF; exact absurd pF (Nat.not_lt_zero _)
 have mp:(E.map cc).map sw=E.map fun x=>sw (cc x):=by rw [List.map_map]; rfl
 have neq:∀ x∈E,∀ y∈F,cc y≠sw (cc x):=fun x hx y hy q=>by
  have:=congrArg lw1 q
  rw [(lw1_sw (hc.is x (H.fE x hx))).1,hc.lw x (H.fE x hx),hc.lw y (H.fF y hy)] at this
  have:y=x:=by omega
  subst this
  exact (lw1_sw (hc.is y (H.fE y hx))).2.1 q.symm
 obtain ⟨to,ht,K⟩:=lev_ok w b1 b2 [] (F.map cc) ((E.map cc).map sw) p bd (Nat.zero_le _)
  (fun c h=>by obtain ⟨x,hx,rfl⟩:=List.mem_map.mp h; exact hc.is x (H.fF x hx)) (fun c h=>by rw [mp] at h; obtain ⟨x,hx,rfl⟩:=List.mem_map.mp h; exact (lw1_sw (hc.is x (H.fE x hx))).2.2)
  (by rw [List.length_map]; exact zF) (by rw [List.length_map,List.length_map]; exact zE) (by rw [mp]; simpa using nE')
  (by
   obtain ⟨x,rx,ex⟩:=List.exists_cons_of_ne_nil nE'
   obtain ⟨y,ry,ey⟩:=List.exists_cons_of_ne_nil nF'
   exact .inr ⟨cc y,ry.map cc,sw (cc x),(rx.map cc).map sw,by rw [ey]; rfl,by rw [ex]; rfl,neq x (by rw [ex]; exact .head _) y (by rw [ey]; exact .head _)⟩)
  (by
   obtain ⟨rx,x,ex,_⟩:=last_split nE'
   obtain ⟨ry,y,ey,_⟩:=last_split nF'
   exact .inr ⟨ry.map cc,cc y,(rx.map cc).map sw,sw (cc x),by rw [ey]; simp,by rw [ex]; simp,neq x (by rw [ex]; simp) y (by rw [ey]; simp)⟩)
  (fun i j x y hx hy=>by
   rw [mp] at hx
   rw [List.getElem?_map] at hx hy
   obtain ⟨u,hu,rfl⟩:=Option.map_eq_some_iff.mp hx
   obtain ⟨v,hv,rfl⟩:=Option.map_eq_some_iff.mp hy
   have mu:=H.fE u (List.mem_of_getElem? hu)
   have mv:=H.fF v (List.mem_of_getElem? hv)
   by_cases q:u=v
   ·subst q
    have:=subC_near hc mu
    exact ⟨.inl this,fun _=>H.only i j u hu hv,fun _ _=>this⟩
   ·have:=(subC_far hc mu mv q).2
    refine ⟨.inr this,fun e=>(by rw [this] at e; cases e),fun e h=>?_⟩
    subst e
    have:(E.take p)[i]?=(F.take p)[i]?:=by rw [H.tk]
    rw [List.getElem?_take_of_lt h,List.getElem?_take_of_lt h,hu,hv] at this
    exact absurd (Option.some.inj this) q)
 have hf:fL p ((E.map cc).map sw).length (F.map cc).length=su:=by
  rw [List.length_map,List.length_map,List.length_map,hsu]
  unfold fL
  omega
 rw [hf] at ht
 exact ⟨to,ht,K⟩
end Pl
end Mine
namespace Mine
namespace Pl
open Mine.Td
structure PairG (ln:Nat→Nat) (i j:Nat):Prop where
 F:PairF (exL ln (pk ln i)) (exL ln (pk ln j)) (both ln i j)
 bo:preSum (numL (lens ln i j)) (lens ln i j).length=(both ln i j:Nat)
 le:∀ n∈lens ln i j,0≤n∧n≤100
 mi:minL (cut ln i j)=(both ln i j:Nat)
 cl:(cut ln i j).length=j-i
theorem getD_of {l:List Nat} {m x:Nat} (h:l[m]?=some x):l.getD m 9=x∧m<l.length:=by
 obtain ⟨h1,e⟩:=List.getElem?_eq_some_iff.mp h
 exact ⟨by simp [List.getD,h],h1⟩
theorem pair_of {ln:Nat→Nat} {i j:Nat} (h:pairB ln i j=true):PairG ln i j:=by
 unfold pairB at h
 simp only [Bool.and_eq_true,decide_eq_true_eq,List.all_eq_true,Bool.not_eq_true',Bool.or_eq_true] at h
 obtain ⟨⟨⟨⟨⟨⟨⟨⟨⟨⟨⟨⟨⟨h1,h2⟩,h3⟩,h4⟩,h5⟩,h6⟩,h7⟩,h8⟩,h9⟩,h10⟩,h11⟩,h12⟩,h13⟩,h14⟩:=h
 have blt:∀ {a b:Nat},Nat.blt a b=true→a<b:=fun q=>Nat.blt_eq.mp q
 have ble:∀ {a b:Nat},Nat.ble a b=true→a≤b:=fun q=>Nat.le_of_ble_eq_true q
 refine ⟨⟨h3,ble h4,blt h5,ble h6,ble h7,blt h8,fun m n x hm hn=>?_,fun e=>?_,fun x hx=>blt (h13 x hx),fun x hx=>blt (h14 x hx)⟩,h1,h2,h11,Nat.eq_of_beq_eq_true h12⟩
 ·obtain ⟨em,lm⟩:=getD_of hm
  obtain ⟨en,ln'⟩:=getD_of hn
  rcases h9 m (List.mem_range.mpr lm) n (List.mem_range.mpr ln') with q | q
  ·rw [em,en] at q
   exact absurd rfl (Nat.ne_of_beq_eq_false q)
  ·exact ⟨blt q.1,blt q.2⟩
 ·have:(exL ln (pk ln i)).getLastD 9=(exL ln (pk ln j)).getLastD 9:=by
   rw [List.getLastD_eq_getLast?,List.getLastD_eq_getLast?,e]
  exact absurd this (Nat.ne_of_beq_eq_false h10)
structure RowG (ln:Nat→Nat) (k:Nat):Prop where
 pk:pk ln k=sN ln k
 v:∀ v∈sI ln k,∃ vn:Nat,v=vn∧vn<5
 ne:sI ln k≠[]
 le:(sI ln k).length≤3
 su:sumN ln (Pl.pk ln k)≤6
 p5:∀ x∈Pl.pk ln k,x<5
theorem row_of {ln:Nat→Nat} {k:Nat} (h:rowB ln k=true):RowG ln k:=by
 unfold rowB at h
 simp only [Bool.and_eq_true,decide_eq_true_eq,List.all_eq_true,Bool.not_eq_true',List.isEmpty_eq_false_iff] at h
 obtain ⟨⟨⟨⟨⟨h1,h2⟩,h3⟩,h4⟩,h5⟩,h6⟩:=h
 exact ⟨h1,fun v hv=>⟨v.toNat,by have:=h2 v hv; omega,by have:=h2 v hv; omega⟩,h3,Nat.le_of_ble_eq_true h4,Nat.le_of_ble_eq_true h5,fun x hx=>Nat.blt_eq.mp (h6 x hx)⟩
noncomputable def lk (ln cc:Nat→Nat) (k:Nat):List Nat:=(exL ln (pk ln k)).map cc
structure PlainT (ln cc:Nat→Nat) (x:TX) (r:Nat→RW):Prop where
 hs:Sn.HsOk x.hs ln 5
 se:x.seV=[.ref (r 0).a,.ref (r 1).a,.ref (r 2).a,.ref (r 3).a,.ref (r 4).a]
 rv:∀ k,k<5→∃ f,(r k).v=nlV [] (sI ln k) f
 lk:∃ f:Nat→Tok,x.lkV=[.str (tx (lk ln cc 0)) (f 0),.str (tx (lk ln cc 1)) (f 1),.str (tx (lk ln cc 2)) (f 2),.str (tx (lk ln cc 3)) (f 3),.str (tx (lk ln cc 4)) (f 4)]
 lw:∃ f,x.lwV=iL (lows ln) f
theorem five {i:Nat} (h:i<5):i=0∨i=1∨i=2∨i=3∨i=4:=by omega
theorem cut_slice (ln:Nat→Nat) (f:Nat→Tok) (i j:Nat) (h:i<j) (hj:j<5):slicePick ⟨iL (lows ln) f⟩ (some ((i:Int)+1)) (some ((j:Int)+1)) none=⟨iL (cut ln i j) fun n=>f (n+i+1)⟩:=by
 have:(i=0∧j=1)∨(i=0∧j=2)∨(i=1∧j=2)∨(i=0∧j=3)∨(i=1∧j=3)∨(i=2∧j=3)∨(i=0∧j=4)∨(i=1∧j=4)∨(i=2∧j=4)∨(i=3∧j=4):=by omega
 rcases this with ⟨rfl,rfl⟩ | ⟨rfl,rfl⟩ | ⟨rfl,rfl⟩ | ⟨rfl,rfl⟩ | ⟨rfl,rfl⟩ | ⟨rfl,rfl⟩ | ⟨rfl,rfl⟩ | ⟨rfl,rfl⟩ | ⟨rfl,rfl⟩ | ⟨rfl,rfl⟩<;>rfl
theorem numL_mem {ns:List Int} {m:Nat} (h:m<ns.length):numL ns m∈ns:=by
 unfold numL
 rw [List.getElem?_eq_getElem h]
 exact List.getElem_mem h
theorem preSum_fit {ns:List Int} (h:∀ n∈ns,0≤n∧n≤100):∀ m,m≤ns.length→0≤preSum (numL ns) m∧preSum (numL ns) m≤100*(m:Int)
 | 0,_=>⟨Int.le_refl 0,Int.le_refl 0⟩
 | m+1,hm=>by
  have ih:=preSum_fit h m (by omega)
  have:=h _ (numL_mem (show m<ns.length by omega))
  show 0≤preSum (numL ns) m+numL ns m∧preSum (numL ns) m+numL ns m≤_
  omega
theorem exL_length (ln:Nat→Nat):∀ l,(exL ln l).length=sumN ln l
 | []=>rfl
 | i::l=>by rw [exL,List.length_append,List.length_replicate,exL_length ln l]; rfl
theorem other_ok (w:World) (b1 b2:Bool) {l:List Nat} (h0:l≠[]) (hl:∀ c∈l,isLet c) (hn:l.length≤900) (ta:Tok):(kOther (Pw w b1 b2) l (l.map sw) ta).Ok2 w b1 b2 126:=by
 obtain ⟨d,rem,rfl⟩:=List.exists_cons_of_ne_nil h0
 have hs:(tx (d::rem)).cps.all (·<128)=true:=by
  show (⟨(d::rem).map (·+1)⟩:Array Nat).all (·<128)=true
  rw [List.all_toArray,List.all_eq_true]
  intro x hx
  obtain ⟨y,hy,rfl⟩:=List.mem_map.mp hx
  have:=hl y hy
  unfold isLet at this
  simp; omega
 have hr:∀ x∈rem,isLet x:=fun x hx=>hl x (.tail _ hx)
 have hz:rem.length≤900:=by simp at hn; omega
 rcases hl d (.head _) with h | h
 ·exact kOther_small w b1 b2 d rem ta h hs hr hz
 ·exact kOther_great w b1 b2 d rem ta h hs hr hz
end Pl
end Mine
namespace Mine
namespace Pl
open Mine.Td
theorem turnOk (w:World) (b1 b2:Bool) {ln cc:Nat→Nat} (hc:Let5 cc) {x:TX} {r:Nat→RW} (X:PlainT ln cc x r) {i j:Nat} (hij:i<j) (hj:j<5) (Q:PairG ln i j) (Ri:RowG ln i) (Rj:RowG ln j) (iI nlI jI:Int) (hi:iI=i) (hnl:0<nlI) (hjI:jI=j) :
  ∃ t:TT,(t.to=t.su∨(x.bd<t.su∧t.to=x.bd+1))∧∀ os,TurnOk w b1 b2 (tgN x jI os) (r i) (r j) iI nlI t:=by
 subst hi; subst hjI
 obtain ⟨v',k',T⟩:=tbStart w b1 b2 ln 5 (sI ln i) (sI ln j) Ri.v Ri.ne (Nat.le_trans Ri.le (by decide))
 obtain ⟨fl,hlk⟩:=X.lk
 obtain ⟨fw,hlw⟩:=X.lw
 have zi:(lk ln cc i).length=(exL ln (pk ln i)).length:=List.length_map _
 have zj:(lk ln cc j).length=(exL ln (pk ln j)).length:=List.length_map _
 have zE:=Q.F.zE
 have zF:=Q.F.zF
 have pE:=Q.F.pE
 have pF:=Q.F.pF
 obtain ⟨to,hto,L2⟩:=told2 w b1 b2 hc Q.F (2*((max (exL ln (pk ln i)).length (exL ln (pk ln j)).length:Nat)-((both ln i j:Nat):Int))+((both ln i j:Nat):Int)) x.bd (by omega)
 have glk:∀ k,k<5→x.lkV[k]?=some (.str (tx (lk ln cc k)) (fl k)):=fun k hk=>by
  rw [hlk]
  rcases five hk with rfl | rfl | rfl | rfl | rfl<;>rfl
 have gse:∀ k,k<5→x.seV[k]?=some (.ref (r k).a):=fun k hk=>by
  rw [X.se]
  rcases five hk with rfl | rfl | rfl | rfl | rfl<;>rfl
 have hi5:i<5:=by omega
 have lI:∀ c∈lk ln cc i,isLet c:=fun c h=>by obtain ⟨y,hy,rfl⟩:=List.mem_map.mp h; exact hc.is y (Q.F.fE y hy)
 have nI:lk ln cc i≠[]:=fun e=>by rw [e] at zi; have:=Q.F.nE; rw [← zi] at this; exact absurd this (Nat.lt_irrefl 0)
 refine ⟨⟨lk ln cc i,lk ln cc j,fl i,fl j,lens ln i j,(both ln i j:Nat),(exL ln (pk ln i)).length,(exL ln (pk ln j)).length,(max (exL ln (pk ln i)).length (exL ln (pk ln j)).length:Nat),(max (exL ln (pk ln i)).length (exL ln (pk ln j)).length:Nat)-((both ln i j:Nat):Int),2*((max (exL ln (pk ln i)).length (exL ln (pk ln j)).length:Nat)-((both ln i j:Nat):Int)),(i:Int)+1,(j:Int)+1,cut ln i j,iL (cut ln i j) (fun n=>fw (n+i+1)),(lk ln cc i).map sw,to,2*((max (exL ln (pk ln i)).length (exL ln (pk ln j)).length:Nat)-((both ln i j:Nat):Int))+((both ln i j:Nat):Int),v',k'⟩,hto,fun os=>?_⟩
 have fit:=preSum_fit Q.le
 refine ⟨hnl,fun I A D ea=>T (tdB (tgN x j os) (r i) (r j)) ⟨X.hs,X.rv i hi5,X.rv j hj,?_,⟨j,rfl,gse j hj⟩⟩ I A D ea,⟨i,rfl,gse i hi5⟩,⟨i,rfl,glk i hi5⟩,⟨j,rfl,glk j hj⟩,?_,?_,?_,Q.bo,fun m hm=>?_,?_,?_,?_,?_,?_,rfl,?_,rfl,rfl,rfl,?_,⟨_,rfl⟩,?_,Q.mi,fun ta tb tbd=>told1 w b1 b2 hc Q.F _ rfl ta tb tbd,fun ta=>other_ok w b1 b2 nI lI (by rw [zi]; omega) ta,fun ta tb tbd=>L2 ta tb tbd,rfl⟩
 ·show x.seV.length≤100
  rw [X.se]; exact Nat.le_of_ble_eq_true rfl
 ·show x.seV.length≤100
  rw [X.se]; exact Nat.le_of_ble_eq_true rfl
 ·show x.lkV.length≤100
  rw [hlk]; exact Nat.le_of_ble_eq_true rfl
 ·show x.lwV.length≤100
  rw [hlw]; exact Nat.le_of_ble_eq_true rfl
 ·have a:=Q.le _ (numL_mem hm)
  have b:=fit (m+1) hm
  have c:(lens ln i j).length≤3:=by
   have:∀ (js:List Int) (l:List Int),(Td.bothL ln js l).length≤l.length:=by
    intro js l
    induction l with
    | nil=>exact Nat.le_refl 0
    | cons v l ih=>unfold Td.bothL; split<;>simp<;>omega
   exact Nat.le_trans (this _ _) Ri.le
  have hm':m<(lens ln i j).length:=hm
  show (-(2 ^ 63)≤numL (lens ln i j) m∧numL (lens ln i j) m<2 ^ 63)∧-(2 ^ 63)≤preSum (numL (lens ln i j)) (m+1)∧preSum (numL (lens ln i j)) (m+1)<2 ^ 63
  omega
 ·show ((exL ln (pk ln i)).length:Int)=((lk ln cc i).length:Int)
  rw [zi]
 ·show ((exL ln (pk ln j)).length:Int)=((lk ln cc j).length:Int)
  rw [zj]
 ·show (lk ln cc i).length≤100
  rw [zi]; omega
 ·show (lk ln cc j).length≤100
  rw [zj]; omega
 ·show max ((exL ln (pk ln i)).length:Int) ((exL ln (pk ln j)).length:Int)=((max (exL ln (pk ln i)).length (exL ln (pk ln j)).length:Nat):Int)
  omega
 ·show -1000≤((max (exL ln (pk ln i)).length (exL ln (pk ln j)).length:Nat):Int)-((both ln i j:Nat):Int)∧((max (exL ln (pk ln i)).length (exL ln (pk ln j)).length:Nat):Int)-((both ln i j:Nat):Int)≤1000
  omega
 ·show slicePick ⟨x.lwV⟩ _ _ none=_
  rw [hlw]
  exact cut_slice ln fw i j hij hj
 ·show 0<(cut ln i j).length
  rw [Q.cl]; omega
structure Facts (ln:Nat→Nat):Prop where
 pair:∀ i j,i<j→j<5→PairG ln i j
 row:∀ k,k<5→RowG ln k
noncomputable def ChainOk (w:World) (b1 b2:Bool) (x:TX) (r:Nat→RW) (iI nlI jI:Int) (v':TV) (k':Int):Prop:=∀ os,
 (∀ kt fe,(Td.kIn (Pw w b1 b2) (tgN x jI os) r (tdFr0 (Pw w b1 b2) (tgN x jI os) kt fe) iI nlI v' k').Ok2 w b1 b2 210) ∧
  ∀ kt v vt fe,(Td.kIn (Pw w b1 b2) (tgN x jI os) r (tdFr (Pw w b1 b2) (tgN x jI os) kt v vt fe) iI nlI v' k').Ok2 w b1 b2 210
theorem chain (w:World) (b1 b2:Bool) {ln cc:Nat→Nat} (hc:Let5 cc) {x:TX} {r:Nat→RW} (X:PlainT ln cc x r) (G:Facts ln) {j:Nat} (hj:j<5) (jI:Int) (hjI:jI=j):∀ (d i:Nat),i+(d+1)=j→∀ (iI nlI:Int),iI=i→nlI=((d+1:Nat):Int)→∃ v' k',ChainOk w b1 b2 x r iI nlI jI v' k'
 | 0,i,h,iI,nlI,hi,hn=>by
  obtain ⟨t,ht,T⟩:=turnOk w b1 b2 hc X (show i<j by omega) hj (G.pair i j (by omega) hj) (G.row i (by omega)) (G.row j hj) iI nlI jI hi (by omega) hjI
  refine ⟨⟨iI,t.bo,t.ne,t.to⟩,iI+1,fun os=>?_⟩
  refine tdTurn w b1 b2 (tgN x jI os) r i j (by omega) hj iI nlI t _ _ (T os) ht fun kt vt fe=>?_
  have e:nlI-1=0:=by omega
  rw [e]
  exact Td.kInE_ok w b1 b2 _ r kt _ vt fe _
 | d+1,i,h,iI,nlI,hi,hn=>by
  obtain ⟨t,ht,T⟩:=turnOk w b1 b2 hc X (show i<j by omega) hj (G.pair i j (by omega) hj) (G.row i (by omega)) (G.row j hj) iI nlI jI hi (by omega) hjI
  obtain ⟨v',k',C⟩:=chain w b1 b2 hc X G hj jI hjI d (i+1) (by omega) (iI+1) (nlI-1) (by omega) (by omega)
  exact ⟨v',k',fun os=>tdTurn w b1 b2 (tgN x jI os) r i j (by omega) hj iI nlI t _ _ (T os) ht fun kt vt fe=>(C os).2 kt _ vt fe⟩
theorem kTold_ok (w:World) (b1 b2:Bool) {ln cc:Nat→Nat} (hc:Let5 cc) {x:TX} {r:Nat→RW} (X:PlainT ln cc x r) (G:Facts ln) (H SE LK LW:Addr):(kTold x H SE LK LW r).Ok2 w b1 b2 252:=by
 obtain ⟨v1,k1,C1⟩:=chain w b1 b2 hc X G (j:=1) (by decide) 1 rfl 0 0 rfl 0 1 rfl rfl
 obtain ⟨v2,k2,C2⟩:=chain w b1 b2 hc X G (j:=2) (by decide) 2 rfl 1 0 rfl 0 2 rfl rfl
 obtain ⟨v3,k3,C3⟩:=chain w b1 b2 hc X G (j:=3) (by decide) 3 rfl 2 0 rfl 0 3 rfl rfl
 obtain ⟨v4,k4,C4⟩:=chain w b1 b2 hc X G (j:=4) (by decide) 4 rfl 3 0 rfl 0 4 rfl rfl
 exact kTold1_ok w b1 b2 x H SE LK LW r v1 v2 v3 v4 k1 k2 k3 k4 (fam1_ok fun _ os=>Td.kIn0_ok w b1 b2 _ r _ _ 0) (fam1_ok fun _ os=>(C1 os).1 _ _) (fam1_ok fun _ os=>(C2 os).2 _ _ _ _) (fam1_ok fun _ os=>(C3 os).2 _ _ _ _) (fam1_ok fun _ os=>(C4 os).2 _ _ _ _)
end Pl
end Mine
namespace Mine
namespace Lw
open Mine.Sn (ceO ownSc dE0)
noncomputable def lwSc (P:Params) (e:PySem.Expr):Scope:=ownSc (fdOf P 212).scope (lcScope e)
noncomputable def lwEnv (P:Params) (e:PySem.Expr) (L D:Addr) (cells:List (Str×Addr)):Env:={cEnv P 212 e "law.<locals>." L D cells with scope:=lwSc P e}
noncomputable def lwC (P:Params) (e:PySem.Expr) (I A L D:Addr) (cells:List (Str×Addr)):Code:=.compLoop e 0 (.ref I) (.ref A) (lwEnv P e L D cells)
noncomputable def kD (P:Params) (nm:String) (kt:Tok) (v:Value):Obj:={cls:=.type "dict",data:=.dict ⟨[ent P nm kt v]⟩ 1}
noncomputable def lwE (P:Params) (n:Nat):PySem.Expr:=retE (stN (stsOf P 212) n)
noncomputable def v5 (r:Nat→Str) (t:Nat→Tok):List Value:=[.str (r 0) (t 0),.str (r 1) (t 1),.str (r 2) (t 2),.str (r 3) (t 3),.str (r 4) (t 4)]
noncomputable def numC (CN:Addr):Str×Addr:=(Str.ofString "numbers",CN)
noncomputable def houC (CH:Addr):Str×Addr:=(Str.ofString "houses",CH)
noncomputable def lexC (CX:Addr):Str×Addr:=(Str.ofString "lexer",CX)
noncomputable def chNeed (CN NS:Addr) (v:Nat→Int) (tn:Nat→Tok) (en:Nat) (I A D:Addr):List (Addr×Obj):=[(CN,ceO (.ref NS)),(NS,lsO (l6 v tn) en),(I,rgIt 0 5),(A,lsO [] 0),(D,dE0)]
noncomputable def kCh (P:Params) (L CN NS:Addr) (v:Nat→Int) (tn:Nat→Tok) (en:Nat) (I A D:Addr) (r:Nat→Str):Con :=
 ⟨lwC P (lwE P 1) I A L D [numC CN],chNeed CN NS v tn en I A D,
  fun xs=>[ceO (.ref NS),lsO (l6 v tn) en,rgIt 5 0,lsO (v5 r xs) 5,kD P "k" (xs 5) (.int 4 (xs 6))],fun _=>[],fun _=>.ok .next⟩
noncomputable def fHo (c:Nat) (n:Int) (r:Str):Fam:=fam1 fun d _=>kHouse c (argT d 0) n (argT d 1) r
noncomputable def hsCh:List Nat:=hD 131 0x41451451471c71c00c30c30c90490092451451451451451c71c70030c30c32412402491451451451451471c71c00c30c30c90490092451451451451451c71c70030c30c32412402491451451451451471c71c00c30c30c9049009245145145145145
noncomputable def HoOk (w:World) (b1 b2:Bool) (v:Nat→Int) (r:Nat→Str):Prop:=∀ k,k<5→∀ t u,(kHouse (96+k) t (v k) u (r k)).Ok2 w b1 b2 42
theorem kCh_ok (w:World) (b1 b2:Bool) (L CN NS:Addr) (v:Nat→Int) (tn:Nat→Tok) (en:Nat) (I A D:Addr) (r:Nat→Str) (H:HoOk w b1 b2 v r):(kCh (Pw w b1 b2) L CN NS v tn en I A D r).Ok2 w b1 b2 84 :=
 Con.of2b 42 hsCh [uS 6 (fHo 96 (v 0) (r 0)) [],uS 16 (fHo 97 (v 1) (r 1)) [],uS 26 (fHo 98 (v 2) (r 2)) [],uS 36 (fHo 99 (v 3) (r 3)) [],uS 46 (fHo 100 (v 4) (r 4)) []] [] (fun N T sg j=>match j with | 5=>T+1 | 6=>sg 3 1+0 | j=>sg j 2)
   ⟨fam1_ok fun _ _=>H 0 (by decide) _ _,fam1_ok fun _ _=>H 1 (by decide) _ _,fam1_ok fun _ _=>H 2 (by decide) _ _,fam1_ok fun _ _=>H 3 (by decide) _ _,fam1_ok fun _ _=>H 4 (by decide) _ _,trivial⟩
end Lw
end Mine
namespace Mine
namespace Lw
open Mine.Sn (ceO ownSc dE0)
noncomputable def cwE (P:Params):PySem.Expr:=callA (lwE P 2) 0
noncomputable def cwNeed (CN CH NS H:Addr) (v:Nat→Int) (tn:Nat→Tok) (en:Nat) (hs:List Value) (eh:Nat) (I A D:Addr):List (Addr×Obj):=[(CN,ceO (.ref NS)),(CH,ceO (.ref H)),(NS,lsO (l6 v tn) en),(H,lsO hs eh),(I,rgIt 0 5),(A,lsO [] 0),(D,dE0)]
noncomputable def kCw (P:Params) (L CN CH NS H:Addr) (v:Nat→Int) (tn:Nat→Tok) (en:Nat) (r:Nat→Str) (th:Nat→Tok) (eh:Nat) (I A D:Addr) (y:Nat→Str):Con :=
 ⟨lwC P (cwE P) I A L D [numC CN,houC CH],cwNeed CN CH NS H v tn en (v5 r th) eh I A D,
  fun xs=>[ceO (.ref NS),ceO (.ref H),lsO (l6 v tn) en,lsO (v5 r th) eh,rgIt 5 0,lsO (v5 y xs) 5,kD P "k" (xs 5) (.int 4 (xs 6))],fun _=>[],fun _=>.ok .next⟩
noncomputable def kWrx (x:Str) (tl:Tok) (n:Int) (tn:Tok) (y:Str):Con:=⟨.call (.ref 180) ⟨[.str x tl,.int n tn],[]⟩,[],fun _=>[],fun _=>[],fun xs=>.ok (.ret (.str y (xs 0)))⟩
noncomputable def fWrx (x:Str) (n:Int) (y:Str):Fam:=fam1 fun d _=>kWrx x (argT d 0) n (argT d 1) y
noncomputable def hsCw:List Nat:=hD 161 0x424924924b2cb2c014514514d0471c71c734300d3492492492492492cb2cb0051451453411c71c71cd0c034d24924924924924b2cb2c014514514d0471c71c734300d3492492492492492cb2cb0051451453411c71c71cd0c034d24924924924924b2cb2c014514514d0471c71c734300d349249249249249
noncomputable def WrOk (w:World) (b1 b2:Bool) (v:Nat→Int) (r y:Nat→Str):Prop:=∀ k,k<5→∀ t u,(kWrx (r k) t (v k) u (y k)).Ok2 w b1 b2 42
theorem kCw_ok (w:World) (b1 b2:Bool) (L CN CH NS H:Addr) (v:Nat→Int) (tn:Nat→Tok) (en:Nat) (r:Nat→Str) (th:Nat→Tok) (eh:Nat) (I A D:Addr) (y:Nat→Str) (hw:WrOk w b1 b2 v r y):(kCw (Pw w b1 b2) L CN CH NS H v tn en r th eh I A D y).Ok2 w b1 b2 84 :=
 Con.of2b 42 hsCw [uS 6 (fWrx (r 0) (v 0) (y 0)) [],uS 16 (fWrx (r 1) (v 1) (y 1)) [],uS 26 (fWrx (r 2) (v 2) (y 2)) [],uS 36 (fWrx (r 3) (v 3) (y 3)) [],uS 46 (fWrx (r 4) (v 4) (y 4)) []] [] (fun N T sg j=>match j with | 5=>T+1 | 6=>sg 3 1+0 | j=>sg j 2)
   ⟨fam1_ok fun _ _=>hw 0 (by decide) _ _,fam1_ok fun _ _=>hw 1 (by decide) _ _,fam1_ok fun _ _=>hw 2 (by decide) _ _,fam1_ok fun _ _=>hw 3 (by decide) _ _,fam1_ok fun _ _=>hw 4 (by decide) _ _,trivial⟩
structure WD where
 f:Nat→Nat
 L:Nat→Nat
 c:Nat→Nat
 b:Nat→Nat
noncomputable def WD.w (d:WD) (k:Nat):Str:=wd (d.L k) (d.c k)
noncomputable def WD.ld (d:WD):Nat→Option Nat
 | 0=>none
 | k+1=>match d.f k with
  | 1=>some (d.b k)
  | _=>none
noncomputable def WD.fo (d:WD) (k:Nat):List Nat:=ldN (d.ld k) (foN (d.f k) (d.L k) (d.c k) (d.b k))
noncomputable def WD.st (d:WD):Nat→Nat→List Nat
 | 0,k=>ldN (d.ld k) []
 | m+1,k=>d.fo k++d.st m (k+1)
noncomputable def WD.F (d:WD) (F:Nat→Tok):Nat→Nat→Tok
 | 0=>F
 | k+1=>fun j=>d.F F k (j+(d.fo k).length)
noncomputable def WD.ep (d:WD) (ep:Nat):Nat→Nat
 | 0=>ep
 | k+1=>d.ep ep k+(d.fo k).length
noncomputable def WD.n (d:WD) (n:Int):Nat→Int
 | 0=>n
 | k+1=>nA (d.ld k) (d.f k) (d.b k) (d.n n k)
noncomputable def fTok (P:Params) (l:LA) (d:WD) (F:Nat→Tok) (ep:Nat) (n:Int) (m k:Nat):Fam:=fam1 fun _ os=>kTok P l (d.ld k) (d.f k) (d.L k) (d.c k) (d.b k) (d.st m (k+1)) (d.F F k) (d.ep ep k) (d.n n k) (tokV (slotN os 7 0)) (epN os 8)
noncomputable def ctNeed (P:Params) (l:LA) (CX H:Addr) (hs:List Value) (eh:Nat) (ss:List Value) (ep:Nat) (n:Int) (tn:Tok) (epb:Nat) (I A D:Addr):List (Addr×Obj) :=
 (CX,ceO (.ref l.X))::(H,lsO hs eh)::(lexNeed P l ss ep n tn [] epb++[(I,lisIt (.ref H) 0 0),(A,lsO [] 0),(D,dE0)])
noncomputable def kCt (P:Params) (L CX H:Addr) (l:LA) (d:WD) (th:Nat→Tok) (eh:Nat) (F:Nat→Tok) (ep:Nat) (n:Int) (tn:Tok) (epb:Nat) (I A D:Addr):Con :=
 ⟨lwC P (lwE P 4) I A L D [lexC CX],ctNeed P l CX H (v5 d.w th) eh (mkV (d.st 5 0) F) ep n tn epb I A D,
  fun xs=>ceO (.ref l.X)::lsO (v5 d.w th) eh::((lexNeed P l (mkV (d.st 0 5) (d.F F 5)) (d.ep ep 5) (d.n n 5) (xs 6) [] epb).map (·.2)++[lisIt .none 5 0,lsO (v5 d.w xs) 5,kD P "house" (xs 5) (.str (d.w 4) (th 4))]),fun _=>[],fun _=>.ok .next⟩
noncomputable def hsCt:List Nat:=hD 158 0x1175c35d75d765965901344000001100001100001105b6d75c35d75d765965901344000001100001100001105b6d75c35d75d765965901344000001100001100001105b6d75c35d75d765965901344000001100001100001105b6d75c35d75d765965901344000001100001100001105b6d75c35d75d7
noncomputable def plCt:List Nat:=hD 9 0x154d13cd2c91c5
structure WD.Ok (d:WD):Prop where
 f:∀ k,d.f k<3
 L:∀ k,1≤d.L k∧d.L k≤3
 c:∀ k,k<5→isLet (d.c k)
 b:∀ k,isBl (d.b k)
theorem WD.ld_ok {d:WD} (h:d.Ok):∀ k,okLd (d.ld k)
 | 0=>trivial
 | k+1=>by
  show okLd (match d.f k with
   | 1=>some (d.b k)
   | _=>none)
  split
  ·exact h.b k
  ·trivial
theorem WD.fo_len {d:WD} (h:d.Ok) (k:Nat):(d.fo k).length≤9:=by
 have hL:=h.L k
 have hf:=h.f k
 have a:∀ L c,(reN L c).length=L:=by
  intro L c; induction L with
  | zero=>rfl
  | succ L ih=>show (reN L c).length+1=_; rw [ih]
 have b:∀ L c,(esN L c).length=2*L:=by
  intro L c; induction L with
  | zero=>rfl
  | succ L ih=>show (esN L c).length+1+1=_; rw [ih]; omega
 have e:(foN (d.f k) (d.L k) (d.c k) (d.b k)).length≤8:=by
  have:d.f k=0∨d.f k=1∨d.f k=2:=by omega
  rcases this with q | q | q<;>rw [q]<;>simp [foN,a,b]<;>omega
 unfold WD.fo ldN
 split
 ·omega
 ·simp; omega
theorem WD.st_len {d:WD} (h:d.Ok):∀ m k,(d.st m k).length≤9*m+1
 | 0,k=>by unfold WD.st ldN; split<;>simp
 | m+1,k=>by
  have:=WD.st_len h m (k+1)
  have:=WD.fo_len h k
  unfold WD.st
  rw [List.length_append]
  omega
theorem fTok_ok {w:World} {b1 b2:Bool} {l:LA} {d:WD} {F:Nat→Tok} {ep:Nat} {n:Int} {m k:Nat} (h:d.Ok) (hk:k<5) (hm:m≤5):(fTok (Pw w b1 b2) l d F ep n m k).Ok2 w b1 b2 168 :=
 fam1_ok fun _ os=>kTok_ok w b1 b2 l _ _ _ _ _ _ _ _ _ _ _ (WD.ld_ok h k) (h.f k) (h.L k) (h.c k hk) (h.b k) (by have:=WD.st_len h m (k+1); omega)
theorem kCt_ok (w:World) (b1 b2:Bool) (L CX H:Addr) (l:LA) (d:WD) (th:Nat→Tok) (eh:Nat) (F:Nat→Tok) (ep:Nat) (n:Int) (tn:Tok) (epb:Nat) (I A D:Addr) (h:d.Ok):(kCt (Pw w b1 b2) L CX H l d th eh F ep n tn epb I A D).Ok2 w b1 b2 210 :=
 Con.of2b 168 hsCt [⟨2,fTok (Pw w b1 b2) l d F ep n 4 0,plCt,false⟩,⟨8,fTok (Pw w b1 b2) l d F ep n 3 1,plCt,false⟩,⟨14,fTok (Pw w b1 b2) l d F ep n 2 2,plCt,false⟩,⟨20,fTok (Pw w b1 b2) l d F ep n 1 3,plCt,false⟩,⟨26,fTok (Pw w b1 b2) l d F ep n 0 4,plCt,false⟩] [] (fun N T sg j=>match j with | 5=>T | 6=>sg 4 3 | j=>sg j 2)
   ⟨fTok_ok h (by decide) (by decide),fTok_ok h (by decide) (by decide),fTok_ok h (by decide) (by decide),fTok_ok h (by decide) (by decide),fTok_ok h (by decide) (by decide),trivial⟩
end Lw
end Mine
namespace Mine
noncomputable def decR (xs:Nat→Nat):Sg:=fun k n=>xs (8*n+k % 8)
noncomputable def encR (s:Sg):Nat→Nat:=fun m=>s (m % 8) (m / 8)
theorem dec_enc (s:Sg):decR (encR s)=fun k n=>s (k % 8) n:=by
 funext k n
 unfold decR encR
 have a:(8*n+k % 8) % 8=k % 8:=by omega
 have b:(8*n+k % 8) / 8=n:=by omega
 rw [a,b]
noncomputable def conG (c:Code) (need:List (Addr×Obj)) (give:Sg→List Obj) (new:Sg→List (Addr×Obj)) (res:Sg→Result):Con:=⟨c,need,fun xs=>give (decR xs),fun xs=>new (decR xs),fun xs=>res (decR xs)⟩
noncomputable def dueG (need:List (Addr×Obj)) (give:Sg→List Obj) (new:Sg→List (Addr×Obj)) (res:Sg→Result) (s:Sg):Out→Option End4
 | none=>none
 | some o=>some (res s,zipObj need (give s),new s,o.2.ex)
theorem dueG_is (c:Code) (need:List (Addr×Obj)) (give:Sg→List Obj) (new:Sg→List (Addr×Obj)) (res:Sg→Result) (s:Sg) (o:Out):dueG need give new res (fun k n=>s (k % 8) n) o=dueIf (conG c need give new res) (encR s) o:=by
 rw [← dec_enc]
 cases o<;>rfl
theorem Con.of2g {w:World} {b1 b2:Bool} {x:Nat} {c:Code} {need:List (Addr×Obj)} {give:Sg→List Obj} {new:Sg→List (Addr×Obj)} {res:Sg→Result} (y:Nat) (hs:List Nat) (us:List Use) (sel:List Nat) (pick:Nat→Nat→Sg→Sg) (huses:AllFam (Mo w b1 b2) (Kt w b1 b2) x y us)
  (E:∀ (own past:Option Value) (below:List (Code×Pos)) (p:Pos) (N T:Nat) (sg:Sg),endIf sel (ev2 w b1 b2 (conG c need give new res) hs us own past below p N T sg)=dueG need give new res (fun k n=>pick N T sg (k % 8) n) (ev2 w b1 b2 (conG c need give new res) hs us own past below p N T sg):=by intros; kernel_rfl)
  (hx:42+y≤x:=by decide) (hlen:∀ s,(give s).length=need.length:=by intro _; rfl) (hsel:sel.Nodup:=by decide):(conG c need give new res).Ok2 w b1 b2 x :=
 Con.of2 y hs us sel (fun N T sg=>encR (pick N T sg)) huses (fun own past below p N T sg=>(E own past below p N T sg).trans (dueG_is c need give new res _ _)) hx (fun xs=>hlen _) hsel
namespace Lw
open Mine.Sn (ceO ownSc dE0)
theorem Con.of2gb {w:World} {b1 b2:Bool} {x:Nat} {c:Code} {need:List (Addr×Obj)} {give:Sg→List Obj} {new:Sg→List (Addr×Obj)} {res:Sg→Result} (y:Nat) (hs:List Nat) (us:List Use) (sel:List Nat) (pick:Nat→Nat→Sg→Sg) (huses:AllFam (Mo w b1 b2) (Kt w b1 b2) x y us)
  (E:∀ (own past:Option Value) (below:List (Code×Pos)) (p:Pos) (N T:Nat) (sg:Sg),endIf sel (ev2 w b1 b2 (conG c need give new res) hs us own past below p N T sg)=dueG need give new res (fun k n=>pick N T sg (k % 8) n) (ev2 w b1 b2 (conG c need give new res) hs us own past below p N T sg):=by intros; cases b1<;>kernel_rfl)
  (hx:42+y≤x:=by decide) (hlen:∀ s,(give s).length=need.length:=by intro _; rfl) (hsel:sel.Nodup:=by decide):(conG c need give new res).Ok2 w b1 b2 x :=
 Con.of2g y hs us sel pick huses E hx hlen hsel
noncomputable def csNeed (CH H:Addr) (hs:List Value) (eh:Nat) (I A D:Addr):List (Addr×Obj):=[(CH,ceO (.ref H)),(H,lsO hs eh),(I,rgIt 0 5),(A,lsO [] 0),(D,dE0)]
noncomputable def rowO (is:Nat→List Int) (s:Sg) (k:Nat):Addr×Obj:=(s k 0,lsO (nlV [] (is k) fun n=>s k (n+2)) (epL (is k) 0))
noncomputable def kCs (P:Params) (L CH H:Addr) (hs:List Value) (eh:Nat) (I A D:Addr) (is:Nat→List Int):Con :=
 conG (lwC P (lwE P 8) I A L D [houC CH]) (csNeed CH H hs eh I A D)
  (fun s=>[ceO (.ref H),lsO hs eh,rgIt 5 0,lsO [.ref (s 0 0),.ref (s 1 0),.ref (s 2 0),.ref (s 3 0),.ref (s 4 0)] 5,kD P "k" (s 5 0) (.int 4 (s 5 1))])
  (fun s=>[rowO is s 4,rowO is s 3,rowO is s 2,rowO is s 1,rowO is s 0]) fun _=>.ok .next
noncomputable def fSeenX (hs:List Value) (k:Int) (is:List Int):Fam:=fam1 fun d os=>Sn.kSeen (adN os 0) hs (epN os 0) k (argT d 1) is
noncomputable def hsCs:List Nat:=hD 101 0xe1451451471c71c02410092451451451451451c71c70090402491451451451451471c71c02410092451451451451451c71c70090402491451451451451471c71c0241009245145145145145
noncomputable def SeOk (w:World) (b1 b2:Bool) (hs:List Value) (is:Nat→List Int):Prop:=∀ (k:Nat) (kI:Int),k<5→kI=k→∀ H eh t,(Sn.kSeen H hs eh kI t (is k)).Ok2 w b1 b2 168
theorem kCs_ok (w:World) (b1 b2:Bool) (L CH H:Addr) (hs:List Value) (eh:Nat) (I A D:Addr) (is:Nat→List Int) (h:SeOk w b1 b2 hs is):(kCs (Pw w b1 b2) L CH H hs eh I A D is).Ok2 w b1 b2 210 :=
 Con.of2gb 168 hsCs [uS 2 (fSeenX hs 0 (is 0)) [3],uS 8 (fSeenX hs 1 (is 1)) [3],uS 14 (fSeenX hs 2 (is 2)) [3],uS 20 (fSeenX hs 3 (is 3)) [3],uS 26 (fSeenX hs 4 (is 4)) [3]] [2,3,4,5,6]
  (fun N T sg k n=>match k with | 5=>(match n with | 0=>T+1 | _=>sg 3 1+0) | k=>sg k (n+2))
  ⟨fam1_ok fun _ _=>h 0 0 (by decide) rfl _ _ _,fam1_ok fun _ _=>h 1 1 (by decide) rfl _ _ _,fam1_ok fun _ _=>h 2 2 (by decide) rfl _ _ _,fam1_ok fun _ _=>h 3 3 (by decide) rfl _ _ _,fam1_ok fun _ _=>h 4 4 (by decide) rfl _ _ _,trivial⟩
noncomputable def looE (P:Params):PySem.Expr:=match stN (stsOf P 212) 9 with
 | .If (.Compare _ _ (e::_) _) _ _ _=>e
 | _=>default
noncomputable def looI (P:Params):PySem.Expr:=match looE P with
 | .ListComp e _ _ _=>callA e 0
 | _=>default
structure RO where
 L:Addr
 CH:Addr
 H:Addr
 R:Addr
 hs:List Value
 eh:Nat
 rv:List Value
 er:Nat
noncomputable def roC (P:Params) (o:RO) (I A D:Addr):Code:=.compLoop (looI P) 0 (.ref I) (.ref A) {cEnv P 212 (looI P) "law.<locals>." o.L D [houC o.CH] with scope:=ownSc (lwSc P (looE P)) (lcScope (looI P))}
noncomputable def apV (its:List Value):List Value→List Value
 | []=>its
 | v::vs=>apV (its.concat v) vs
noncomputable def kRo (P:Params) (o:RO) (I A D:Addr) (k:Int) (its:List Value) (ea:Nat) (kt:Tok) (v:Int) (tv:Tok) (vs:List Value) (v' k':Int):Con :=
 ⟨roC P o I A D,[(o.CH,ceO (.ref o.H)),(o.H,lsO o.hs o.eh),(o.R,lsO o.rv o.er),(I,lisIt (.ref o.R) k 0),(A,lsO its ea),(D,kD P "k" kt (.int v tv))],
  fun xs=>[ceO (.ref o.H),lsO o.hs o.eh,lsO o.rv o.er,lisIt .none k' 0,lsO (apV its vs) (epL vs ea),kD P "k" kt (.int v' (xs 0))],fun _=>[],fun _=>.ok .next⟩
noncomputable def kRo0 (P:Params) (o:RO) (I A D:Addr) (k:Int) (its:List Value) (ea:Nat) (vs:List Value) (v' k':Int):Con :=
 ⟨roC P o I A D,[(o.CH,ceO (.ref o.H)),(o.H,lsO o.hs o.eh),(o.R,lsO o.rv o.er),(I,lisIt (.ref o.R) k 0),(A,lsO its ea),(D,dE0)],
  fun xs=>[ceO (.ref o.H),lsO o.hs o.eh,lsO o.rv o.er,lisIt .none k' 0,lsO (apV its vs) (epL vs ea),kD P "k" (xs 1) (.int v' (xs 0))],fun _=>[],fun _=>.ok .next⟩
noncomputable def fRo (P:Params) (o:RO) (k:Int) (its:List Value) (v:Int) (vs:List Value) (v' k':Int):Fam:=fam1 fun _ os =>
 kRo P o (adN os 3) (adN os 4) (adN os 5) k its (epN os 4) (tokV (keyN os 5 0)) v (tokV (vN os 5 0)) vs v' k'
theorem kRoE_ok (w:World) (b1 b2:Bool) (o:RO) (I A D:Addr) (k:Int) (its:List Value) (ea:Nat) (kt:Tok) (v:Int) (tv:Tok) (h:o.rv[k.toNat]?=none):(kRo (Pw w b1 b2) o I A D k its ea kt v tv [] v k).Ok2 w b1 b2 84 :=
 Con.of2 42 [7,7,4] [uS 1 (fNextLE ⟨o.rv⟩ k) [7,5]] [] (fun _ _ _ _=>tv) ⟨fNextLE_ok (by simpa using h),trivial⟩
noncomputable def hsRo:List Nat:=hD 11 0x90c30c32c12cb1c7
noncomputable def usRo (P:Params) (o:RO) (k:Int) (its:List Value) (v:Int) (tv:Tok) (x:Value) (vs:List Value) (v' k':Int):List Use:=[uS 1 (fNextL ⟨o.rv⟩ k (.int v tv)) [7,5],uS 3 (fGetI ⟨o.hs⟩ v x) [3],uS 5 (fAppend ⟨its⟩) [9],⟨6,fRo P o (k+1) (its.concat x) v vs v' k',[1,3,5,7,9,11],true⟩]
theorem usRo_ok {w:World} {b1 b2:Bool} {o:RO} {k:Int} {its:List Value} {v:Int} {tv:Tok} {x:Value} {vs:List Value} {v' k':Int} (vn:Nat) (gk:o.rv[k.toNat]?=some (.int v tv)) (hv:v=vn) (gv:o.hs[vn]?=some x) (hz:o.hs.length≤100) (hits:its.length≤1000)
  (ih:(fRo (Pw w b1 b2) o (k+1) (its.concat x) v vs v' k').Ok2 w b1 b2 84):AllFam (Mo w b1 b2) (Kt w b1 b2) 84 42 (usRo (Pw w b1 b2) o k its v tv x vs v' k') :=
 ⟨fNextL_ok (by simpa using gk),fGetI_ok vn hv (by simpa using gv) (by rw [sizeLine_eq]; show o.hs.length≤_; omega),fAppend_ok (by rw [sizeLine_eq]; show its.length≤_; omega),ih,trivial⟩
theorem kRoT_ok (w:World) (b1 b2:Bool) (o:RO) (I A D:Addr) (k:Int) (its:List Value) (ea:Nat) (kt:Tok) (v0:Int) (tv0:Tok) (v:Int) (tv:Tok) (x:Value) (vs:List Value) (v' k':Int) (H:AllFam (Mo w b1 b2) (Kt w b1 b2) 84 42 (usRo (Pw w b1 b2) o k its v tv x vs v' k')) :
  (kRo (Pw w b1 b2) o I A D k its ea kt v0 tv0 (x::vs) v' k').Ok2 w b1 b2 84 :=
 Con.of2b 42 hsRo _ [] (fun _ _ sg n=>sg 3 2) H
theorem kRo0T_ok (w:World) (b1 b2:Bool) (o:RO) (I A D:Addr) (k:Int) (its:List Value) (ea:Nat) (v:Int) (tv:Tok) (x:Value) (vs:List Value) (v' k':Int) (H:AllFam (Mo w b1 b2) (Kt w b1 b2) 84 42 (usRo (Pw w b1 b2) o k its v tv x vs v' k')) :
  (kRo0 (Pw w b1 b2) o I A D k its ea (x::vs) v' k').Ok2 w b1 b2 84 :=
 Con.of2b 42 hsRo _ [] (fun _ T sg n=>match n with | 0=>sg 3 2 | _=>sg 0 1) H
end Lw
end Mine
namespace Mine
namespace Lw
open Mine.Sn (ceO ownSc dE0)
noncomputable def valH (hs:List Value) (is:List Int):List Value:=is.map fun v=>(hs[v.toNat]?).getD .none
theorem roTurn (w:World) (b1 b2:Bool) (is:List Int) (hN:∀ v∈is,∃ vn:Nat,v=vn∧vn<5) (o:RO) (h5:o.hs.length=5) (f:Nat→Tok) (hr:o.rv=nlV [] is f) (k:Int) (n:Nat) (v:Int) (r:List Int) (hk:k=n) (hd:is.drop n=v::r) (its:List Value) (hits:its.length+(r.length+1)≤1000) (v' k':Int)
  (ih:∀ its:List Value,its.length+r.length≤1000→(fRo (Pw w b1 b2) o (k+1) its v (valH o.hs r) v' k').Ok2 w b1 b2 84) :
  (∀ I A D ea,(kRo0 (Pw w b1 b2) o I A D k its ea (valH o.hs (v::r)) v' k').Ok2 w b1 b2 84)∧∀ I A D ea kt v0 tv0,(kRo (Pw w b1 b2) o I A D k its ea kt v0 tv0 (valH o.hs (v::r)) v' k').Ok2 w b1 b2 84:=by
 have gv:is[n]?=some v:=by have:=congrArg (fun l=>l[0]?) hd; simpa using this
 have gk:o.rv[k.toNat]?=some (.int v (f n)):=by rw [hr,hk,nlV_get]; simp [gv]
 obtain ⟨vn,evn,hvn⟩:=hN v (List.mem_of_getElem? gv)
 have gx:o.hs[vn]?=some ((o.hs[v.toNat]?).getD .none):=by
  have:v.toNat=vn:=by omega
  rw [this,List.getElem?_eq_getElem (by omega)]; rfl
 have H:=usRo_ok (w:=w) (b1:=b1) (b2:=b2) (its:=its) (vs:=valH o.hs r) (v':=v') (k':=k') vn gk evn gx (by omega) (by omega) (ih (its.concat _) (by simp; omega))
 exact ⟨fun I A D ea=>kRo0T_ok w b1 b2 o I A D k its ea v _ _ _ v' k' H,fun I A D ea kt v0 tv0=>kRoT_ok w b1 b2 o I A D k its ea kt v0 tv0 v _ _ _ v' k' H⟩
theorem roRun (w:World) (b1 b2:Bool) (hs:List Value) (is:List Int) (hN:∀ v∈is,∃ vn:Nat,v=vn∧vn<5) (h5:hs.length=5):∀ (rem:List Int) (n:Nat) (k:Int),k=n→is.drop n=rem→∀ v0,∃ v' k',∀ (o:RO) (f:Nat→Tok),o.hs=hs→o.rv=nlV [] is f→∀ its:List Value,its.length+rem.length≤1000→(fRo (Pw w b1 b2) o k its v0 (valH hs rem) v' k').Ok2 w b1 b2 84
 | [],n,k,hk,hd,v0=>⟨v0,k,fun o f ho hr its hits=>fam1_ok fun _ os=>kRoE_ok w b1 b2 o _ _ _ k _ _ _ v0 _ (by
   rw [hr,hk,nlV_get]
   have:is[n]?=none:=by
    have:=congrArg (fun l=>l[0]?) hd
    simpa using this
   simp [this])⟩
 | v::r,n,k,hk,hd,v0=>by
  have hd':is.drop (n+1)=r:=by rw [← List.drop_drop,hd]; rfl
  obtain ⟨v',k',H⟩:=roRun w b1 b2 hs is hN h5 r (n+1) (k+1) (by omega) hd' v
  refine ⟨v',k',fun o f ho hr its hits=>fam1_ok fun _ os=>?_⟩
  subst ho
  exact (roTurn w b1 b2 is hN o h5 f hr k n v r hk hd its (by simpa using hits) v' k' (fun its' h'=>H o f rfl hr its' h')).2 _ _ _ _ _ _ _
theorem roStart (w:World) (b1 b2:Bool) (hs:List Value) (is:List Int) (hN:∀ v∈is,∃ vn:Nat,v=vn∧vn<5) (h5:hs.length=5) (h0:is≠[]) (h9:is.length≤900):∃ v' k',∀ (o:RO) (f:Nat→Tok),o.hs=hs→o.rv=nlV [] is f→∀ I A D ea,(kRo0 (Pw w b1 b2) o I A D 0 [] ea (valH hs is) v' k').Ok2 w b1 b2 84:=by
 obtain ⟨v,r,rfl⟩:=List.exists_cons_of_ne_nil h0
 obtain ⟨v',k',H⟩:=roRun w b1 b2 hs (v::r) hN h5 r 1 (0+1) rfl rfl v
 refine ⟨v',k',fun o f ho hr=>?_⟩
 subst ho
 exact (roTurn w b1 b2 (v::r) hN o h5 f hr 0 0 v r rfl rfl [] (by simp at h9 ⊢; omega) v' k' (fun its' h'=>H o f rfl hr its' h')).1
structure LO where
 L:Addr
 CH:Addr
 H:Addr
 SE:Addr
 hs:List Value
 eh:Nat
 es:Nat
noncomputable def clNeed (o:LO) (r:Nat→Td.RW) (I A D:Addr):List (Addr×Obj) :=
 [(o.CH,ceO (.ref o.H)),(o.H,lsO o.hs o.eh),(o.SE,lsO [.ref (r 0).a,.ref (r 1).a,.ref (r 2).a,.ref (r 3).a,.ref (r 4).a] o.es),((r 0).a,lsO (r 0).v (r 0).e),((r 1).a,lsO (r 1).v (r 1).e),((r 2).a,lsO (r 2).v (r 2).e),((r 3).a,lsO (r 3).v (r 3).e),((r 4).a,lsO (r 4).v (r 4).e),(I,lisIt (.ref o.SE) 0 0),(A,lsO [] 0),(D,dE0)]
noncomputable def kCl (P:Params) (o:LO) (r:Nat→Td.RW) (I A D:Addr) (y:Nat→Str):Con :=
 ⟨lwC P (looE P) I A o.L D [houC o.CH],clNeed o r I A D,
  fun xs=>((clNeed o r I A D).map (·.2)).take 8++[lisIt .none 5 0,lsO (v5 y xs) 5,kD P "row" (xs 5) (.ref (r 4).a)],fun _=>[],fun _=>.ok .next⟩
noncomputable def fRo0 (P:Params) (L:Addr) (hs:List Value) (rv:List Value) (vs:List Value) (v' k':Int):Fam:=fam1 fun _ os =>
 kRo0 P ⟨L,adN os 0,adN os 1,adN os 2,hs,epN os 1,rv,epN os 2⟩ (adN os 3) (adN os 4) (adN os 5) 0 [] 0 vs v' k'
noncomputable def fJoinA (vs:List Value) (r:Str):Fam:=fam1 fun c os=>kJoin st0 (argT c 0) (adN os 0) ⟨.type "list",oD os 0,.seq ⟨apV [] vs⟩ (epN os 0),oS os 0⟩ r
noncomputable def hsClf:List Nat:=hD 133 0x224511514514534d34de79e69a69a68f3cf5555514454514514d34d361861451451434d3555554511514514534d34d249238e38e38b2cb5555514454514514d34d330c3082082082492555554511514514534d34c61860820820871c7555551445451451
noncomputable def hsClt:List Nat:=hD 113 0x224511514514534d34de79e68f3cf5555514454514514d34d361861434d3555554511514514534d34d249238b2cb5555514454514514d34d330c3082492555554511514514534d34c61860871c7555551445451451
structure RoOk (w:World) (b1 b2:Bool) (o:LO) (r:Nat→Td.RW) (vs:Nat→List Value) (y:Nat→Str) (v' k':Nat→Int):Prop where
 ro:∀ k,k<5→(fRo0 (Pw w b1 b2) o.L o.hs (r k).v (vs k) (v' k) (k' k)).Ok2 w b1 b2 84
 jo:∀ k,k<5→(fJoinA (vs k) (y k)).Ok2 w b1 b2 84
theorem kCl1_ok (w:World) (b1 b2:Bool) (o:LO) (r:Nat→Td.RW) (I A D:Addr) (vs:Nat→List Value) (y:Nat→Str) (v' k':Nat→Int) (h:RoOk w b1 b2 o r vs y v' k'):(kCl (Pw w b1 b2) o r I A D y).Ok2 w b1 b2 126:=by
 have u:∀ (n0 n1 n2 n3 n4:Nat),AllFam (Mo w b1 b2) (Kt w b1 b2) 126 84 [⟨n0,fRo0 (Pw w b1 b2) o.L o.hs (r 0).v (vs 0) (v' 0) (k' 0),[1,3,7,2,4,6],false⟩,⟨n0+2,fJoinA (vs 0) (y 0),[4],false⟩,⟨n1,fRo0 (Pw w b1 b2) o.L o.hs (r 1).v (vs 1) (v' 1) (k' 1),[1,3,9,8,10,12],false⟩,⟨n1+2,fJoinA (vs 1) (y 1),[10],false⟩,⟨n2,fRo0 (Pw w b1 b2) o.L o.hs (r 2).v (vs 2) (v' 2) (k' 2),[1,3,11,14,16,18],false⟩,⟨n2+2,fJoinA (vs 2) (y 2),[16],false⟩,
   ⟨n3,fRo0 (Pw w b1 b2) o.L o.hs (r 3).v (vs 3) (v' 3) (k' 3),[1,3,13,20,22,24],false⟩,⟨n3+2,fJoinA (vs 3) (y 3),[22],false⟩,⟨n4,fRo0 (Pw w b1 b2) o.L o.hs (r 4).v (vs 4) (v' 4) (k' 4),[1,3,15,26,28,30],false⟩,⟨n4+2,fJoinA (vs 4) (y 4),[28],false⟩]:=fun _ _ _ _ _ =>
  ⟨h.ro 0 (by decide),h.jo 0 (by decide),h.ro 1 (by decide),h.jo 1 (by decide),h.ro 2 (by decide),h.jo 2 (by decide),h.ro 3 (by decide),h.jo 3 (by decide),h.ro 4 (by decide),h.jo 4 (by decide),trivial⟩
 cases b2
 ·exact Con.of2b 84 hsClf _ [] (fun N T sg j=>match j with | 0=>sg 1 2 | 1=>sg 3 2 | 2=>sg 5 2 | 3=>sg 7 2 | 4=>sg 9 2 | _=>T) (u 7 20 33 46 59)
 ·exact Con.of2b 84 hsClt _ [] (fun N T sg j=>match j with | 0=>sg 1 2 | 1=>sg 3 2 | 2=>sg 5 2 | 3=>sg 7 2 | 4=>sg 9 2 | _=>T) (u 5 16 27 38 49)
end Lw
end Mine
namespace Mine
namespace Lw
open Mine.Sn (ceO ownSc dE0)
open Mine.Td (isI allI fInI_ok)
theorem pick_rev:∀ l:List Value,l.length≤3→slicePick ⟨l⟩ none none (some (-1))=⟨l.reverse⟩
 | [],_=>rfl
 | [_],_=>by kernel_rfl
 | [_,_],_=>by kernel_rfl
 | [_,_,_],_=>by kernel_rfl
 | _::_::_::_::_,h=>by simp at h
theorem iL_append:∀ (a b:List Int) (f:Nat→Tok),iL (a++b) f=iL a f++iL b fun n=>f (n+a.length)
 | [],b,f=>rfl
 | x::a,b,f=>by
  rw [List.cons_append,iL,iL,iL_append a b]
  simp only [List.cons_append,List.length_cons]
  congr 2
theorem iL_congr:∀ (is:List Int) (f g:Nat→Tok),(∀ n,n<is.length→f n=g n)→iL is f=iL is g
 | [],_,_,_=>rfl
 | x::is,f,g,h=>by rw [iL,iL,h 0 (Nat.succ_pos _),iL_congr is _ _ fun n hn=>h (n+1) (Nat.succ_lt_succ hn)]
theorem iL_rev:∀ (is:List Int) (f:Nat→Tok),(iL is f).reverse=iL is.reverse fun n=>f (is.length-1-n)
 | [],_=>rfl
 | x::is,f=>by
  rw [iL,List.reverse_cons,iL_rev is,List.reverse_cons,iL_append]
  congr 1
  ·refine iL_congr _ _ _ fun n hn=>?_
   rw [List.length_reverse] at hn
   rw [List.length_cons]
   congr 1; omega
  ·rw [iL,iL,List.length_reverse,List.length_cons]
   congr 2; congr 1; omega
noncomputable def hiE (P:Params):PySem.Expr:=lwE P 11
noncomputable def seeC (CS:Addr):Str×Addr:=(Str.ofString "seen",CS)
structure HO where
 L:Addr
 CH:Addr
 CS:Addr
 H:Addr
 SE:Addr
 SJ:Addr
 R:Addr
 hs:List Value
 eh:Nat
 seV:List Value
 es:Nat
 sjV:List Value
 ej:Nat
 rv:List Value
 er:Nat
 j:Int
 kj:Tok
 tj:Tok
noncomputable def hdC (P:Params) (o:HO) (I A D:Addr):Code:=.compLoop (hiE P) 1 (.ref I) (.ref A) (lwEnv P (hiE P) o.L D [seeC o.CS,houC o.CH])
noncomputable def dJ (P:Params) (o:HO):Obj:={cls:=.type "dict",data:=.dict ⟨[ent P "j" o.kj (.int o.j o.tj)]⟩ 1}
noncomputable def dJI (P:Params) (o:HO) (ki:Tok) (v:Int) (tv:Tok):Obj:={cls:=.type "dict",data:=.dict ⟨[ent P "j" o.kj (.int o.j o.tj),ent P "i" ki (.int v tv)]⟩ 2}
noncomputable def hdNeed (o:HO) (dO:Obj) (I A D:Addr) (k:Int) (its:List Value) (ea:Nat):List (Addr×Obj) :=
 [(o.CH,ceO (.ref o.H)),(o.CS,ceO (.ref o.SE)),(o.H,lsO o.hs o.eh),(o.SE,lsO o.seV o.es),(o.SJ,lsO o.sjV o.ej),(A,lsO its ea),(D,dO),(o.R,lsO o.rv o.er),(I,lisIt (.ref o.R) k 0)]
noncomputable def hdGive (o:HO) (dO:Obj) (its:List Value) (ea:Nat) (k':Int):List Obj:=[ceO (.ref o.H),ceO (.ref o.SE),lsO o.hs o.eh,lsO o.seV o.es,lsO o.sjV o.ej,lsO its ea,dO,lsO o.rv o.er,lisIt .none k' 0]
noncomputable def kHd (P:Params) (o:HO) (I A D:Addr) (k:Int) (its:List Value) (ea:Nat) (ki:Tok) (v:Int) (tv:Tok) (vs:List Value) (v' k':Int):Con :=
 ⟨hdC P o I A D,hdNeed o (dJI P o ki v tv) I A D k its ea,fun xs=>hdGive o (dJI P o ki v' (xs 0)) (apV its vs) (epL vs ea) k',fun _=>[],fun _=>.ok .next⟩
noncomputable def kHd0 (P:Params) (o:HO) (I A D:Addr) (k:Int) (its:List Value) (ea:Nat) (vs:List Value) (v' k':Int):Con :=
 ⟨hdC P o I A D,hdNeed o (dJ P o) I A D k its ea,fun xs=>hdGive o (dJI P o (xs 1) v' (xs 0)) (apV its vs) (epL vs ea) k',fun _=>[],fun _=>.ok .next⟩
noncomputable def fHd (P:Params) (o:HO) (k:Int) (its:List Value) (v:Int) (vs:List Value) (v' k':Int):Fam:=fam1 fun _ os =>
 kHd P o (adN os 8) (adN os 5) (adN os 6) k its (epN os 5) (tokV (keyN os 6 1)) v (tokV (vN os 6 1)) vs v' k'
theorem kHdE_ok (w:World) (b1 b2:Bool) (o:HO) (I A D:Addr) (k:Int) (its:List Value) (ea:Nat) (ki:Tok) (v:Int) (tv:Tok) (h:o.rv[k.toNat]?=none):(kHd (Pw w b1 b2) o I A D k its ea ki v tv [] v k).Ok2 w b1 b2 84 :=
 Con.of2 42 [17,17,4] [uS 1 (fNextLE ⟨o.rv⟩ k) [17,15]] [] (fun _ _ _ _=>tv) ⟨fNextLE_ok (by simpa using h),trivial⟩
noncomputable def plHd:List Nat:=hD 9 0x113cd2c91c50c1
noncomputable def usHf (P:Params) (o:HO) (k:Int) (its:List Value) (v:Int) (tv:Tok) (x:Value) (vs:List Value) (v' k':Int):List Use:=[uS 1 (fNextL ⟨o.rv⟩ k (.int v tv)) [17,15],uS 3 (fGetI ⟨o.seV⟩ o.j (.ref o.SJ)) [7],uS 5 (fInL ⟨o.sjV⟩ (fun t=>.int v t) false) [9],uS 7 (fGetI ⟨o.hs⟩ v x) [5],uS 9 (fAppend ⟨its⟩) [11],⟨10,fHd P o (k+1) (its.concat x) v vs v' k',plHd,true⟩]
noncomputable def usHt (P:Params) (o:HO) (k:Int) (its:List Value) (v:Int) (tv:Tok) (vs:List Value) (v' k':Int):List Use:=[uS 1 (fNextL ⟨o.rv⟩ k (.int v tv)) [17,15],uS 3 (fGetI ⟨o.seV⟩ o.j (.ref o.SJ)) [7],uS 5 (fInL ⟨o.sjV⟩ (fun t=>.int v t) true) [9],⟨6,fHd P o (k+1) its v vs v' k',plHd,true⟩]
theorem usHf_ok {w:World} {b1 b2:Bool} {o:HO} {k:Int} {its:List Value} {v:Int} {tv:Tok} {x:Value} {vs:List Value} {v' k':Int} (vn jn:Nat) (gk:o.rv[k.toNat]?=some (.int v tv)) (hj:o.j=jn) (gj:o.seV[jn]?=some (.ref o.SJ)) (hv:v=vn) (gv:o.hs[vn]?=some x) (hz:o.hs.length≤100) (hzs:o.seV.length≤100) (hits:its.length≤1000) (hal:allI o.sjV) (hin:o.sjV.any (isI v)=false)
  (ih:(fHd (Pw w b1 b2) o (k+1) (its.concat x) v vs v' k').Ok2 w b1 b2 84):AllFam (Mo w b1 b2) (Kt w b1 b2) 84 42 (usHf (Pw w b1 b2) o k its v tv x vs v' k') :=
 ⟨fNextL_ok (by simpa using gk),fGetI_ok jn hj (by simpa using gj) (Td.z100 hzs),fInI_ok hal hin,fGetI_ok vn hv (by simpa using gv) (Td.z100 hz),fAppend_ok (by rw [sizeLine_eq]; show its.length≤_; omega),ih,trivial⟩
theorem usHt_ok {w:World} {b1 b2:Bool} {o:HO} {k:Int} {its:List Value} {v:Int} {tv:Tok} {vs:List Value} {v' k':Int} (jn:Nat) (gk:o.rv[k.toNat]?=some (.int v tv)) (hj:o.j=jn) (gj:o.seV[jn]?=some (.ref o.SJ)) (hzs:o.seV.length≤100) (hal:allI o.sjV) (hin:o.sjV.any (isI v)=true)
  (ih:(fHd (Pw w b1 b2) o (k+1) its v vs v' k').Ok2 w b1 b2 84):AllFam (Mo w b1 b2) (Kt w b1 b2) 84 42 (usHt (Pw w b1 b2) o k its v tv vs v' k') :=
 ⟨fNextL_ok (by simpa using gk),fGetI_ok jn hj (by simpa using gj) (Td.z100 hzs),fInI_ok hal hin,ih,trivial⟩
noncomputable def hsHf:List Nat:=hD 21 0xb1451453412492471c71cd0cd34d451
noncomputable def hsHt:List Nat:=hD 14 0x2492471c71cd0cd34d451
section
variable (w:World) (b1 b2:Bool) (o:HO) (I A D:Addr) (k:Int) (its:List Value) (ea:Nat) (ki:Tok) (v0:Int) (tv0:Tok) (v:Int) (tv:Tok) (x:Value) (vs:List Value) (v' k':Int)
theorem kHdf_ok (H:AllFam (Mo w b1 b2) (Kt w b1 b2) 84 42 (usHf (Pw w b1 b2) o k its v tv x vs v' k')):(kHd (Pw w b1 b2) o I A D k its ea ki v0 tv0 (x::vs) v' k').Ok2 w b1 b2 84 :=
 Con.of2b 42 hsHf _ [] (fun _ _ sg n=>sg 5 2) H
theorem kHd0f_ok (H:AllFam (Mo w b1 b2) (Kt w b1 b2) 84 42 (usHf (Pw w b1 b2) o k its v tv x vs v' k')):(kHd0 (Pw w b1 b2) o I A D k its ea (x::vs) v' k').Ok2 w b1 b2 84 :=
 Con.of2b 42 hsHf _ [] (fun _ T sg n=>match n with | 0=>sg 5 2 | _=>sg 0 1) H
theorem kHdt_ok (H:AllFam (Mo w b1 b2) (Kt w b1 b2) 84 42 (usHt (Pw w b1 b2) o k its v tv vs v' k')):(kHd (Pw w b1 b2) o I A D k its ea ki v0 tv0 vs v' k').Ok2 w b1 b2 84 :=
 Con.of2b 42 hsHt _ [] (fun _ _ sg n=>sg 3 2) H
theorem kHd0t_ok (H:AllFam (Mo w b1 b2) (Kt w b1 b2) 84 42 (usHt (Pw w b1 b2) o k its v tv vs v' k')):(kHd0 (Pw w b1 b2) o I A D k its ea vs v' k').Ok2 w b1 b2 84 :=
 Con.of2b 42 hsHt _ [] (fun _ T sg n=>match n with | 0=>sg 3 2 | _=>sg 0 1) H
end
end Lw
end Mine
namespace Mine
namespace Lw
open Mine.Sn (ceO ownSc dE0)
open Mine.Td (isI allI fInI_ok RW)
noncomputable def hidI (js:List Int):List Int→List Int
 | []=>[]
 | v::r=>if js.any (·==v)=true then hidI js r else v::hidI js r
noncomputable def lst (v:Int):List Int→Int
 | []=>v
 | x::r=>lst x r
structure HdFit (hs:List Value) (is js:List Int) (o:HO):Prop where
 hs:o.hs=hs
 rv:∃ f,o.rv=iL is f
 sj:∃ f,o.sjV=nlV [] js f
 se:o.seV.length≤100
 gj:∃ jn:Nat,o.j=jn∧o.seV[jn]?=some (.ref o.SJ)
theorem hdTurn (w:World) (b1 b2:Bool) (hs:List Value) (is js:List Int) (hN:∀ v∈is,∃ vn:Nat,v=vn∧vn<5) (h5:hs.length=5) (o:HO) (F:HdFit hs is js o) (k:Int) (n:Nat) (v:Int) (r:List Int) (hk:k=n) (hd:is.drop n=v::r) (its:List Value) (hits:its.length+(r.length+1)≤1000) (v' k':Int)
  (ih:∀ its:List Value,its.length+r.length≤1000→(fHd (Pw w b1 b2) o (k+1) its v (valH hs (hidI js r)) v' k').Ok2 w b1 b2 84) :
  (∀ I A D ea,(kHd0 (Pw w b1 b2) o I A D k its ea (valH hs (hidI js (v::r))) v' k').Ok2 w b1 b2 84)∧∀ I A D ea ki v0 tv0,(kHd (Pw w b1 b2) o I A D k its ea ki v0 tv0 (valH hs (hidI js (v::r))) v' k').Ok2 w b1 b2 84:=by
 obtain ⟨ho,⟨f,hr⟩,⟨g,hj⟩,hse,⟨jn,ej,gj⟩⟩:=F
 subst ho
 have gv:is[n]?=some v:=by have:=congrArg (fun l=>l[0]?) hd; simpa using this
 have gk:o.rv[k.toNat]?=some (.int v (f n)):=by rw [hr,hk,iL_get]; simp [gv]
 obtain ⟨vn,evn,hvn⟩:=hN v (List.mem_of_getElem? gv)
 have gx:o.hs[vn]?=some ((o.hs[v.toNat]?).getD .none):=by
  have:v.toNat=vn:=by omega
  rw [this,List.getElem?_eq_getElem (by omega)]; rfl
 have hal:allI o.sjV:=by rw [hj]; exact nlV_allI js g
 have hany:o.sjV.any (isI v)=js.any (·==v):=by rw [hj,nlV_any]
 cases q:js.any (·==v) with
 | true =>
  have e:hidI js (v::r)=hidI js r:=by rw [hidI,if_pos q]
  rw [e]
  have H:=usHt_ok (w:=w) (b1:=b1) (b2:=b2) (its:=its) (v':=v') (k':=k') jn gk ej gj hse hal (hany.trans q) (ih its (by omega))
  exact ⟨fun I A D ea=>kHd0t_ok w b1 b2 o I A D k its ea v _ _ v' k' H,fun I A D ea ki v0 tv0=>kHdt_ok w b1 b2 o I A D k its ea ki v0 tv0 v _ _ v' k' H⟩
 | false =>
  have e:hidI js (v::r)=v::hidI js r:=by rw [hidI,if_neg (by rw [q]; exact Bool.false_ne_true)]
  rw [e]
  have H:=usHf_ok (w:=w) (b1:=b1) (b2:=b2) (its:=its) (vs:=valH o.hs (hidI js r)) (v':=v') (k':=k') vn jn gk ej gj evn gx (by omega) hse (by omega) hal (hany.trans q) (ih _ (by simp; omega))
  exact ⟨fun I A D ea=>kHd0f_ok w b1 b2 o I A D k its ea v _ _ _ v' k' H,fun I A D ea ki v0 tv0=>kHdf_ok w b1 b2 o I A D k its ea ki v0 tv0 v _ _ _ v' k' H⟩
theorem hdRun (w:World) (b1 b2:Bool) (hs:List Value) (is js:List Int) (hN:∀ v∈is,∃ vn:Nat,v=vn∧vn<5) (h5:hs.length=5):∀ (rem:List Int) (n:Nat) (k:Int),k=n→is.drop n=rem→∀ v0,∃ k',∀ o:HO,HdFit hs is js o→∀ its:List Value,its.length+rem.length≤1000→(fHd (Pw w b1 b2) o k its v0 (valH hs (hidI js rem)) (lst v0 rem) k').Ok2 w b1 b2 84
 | [],n,k,hk,hd,v0=>⟨k,fun o F its hits=>fam1_ok fun _ os=>kHdE_ok w b1 b2 o _ _ _ k _ _ _ v0 _ (by
   obtain ⟨f,hr⟩:=F.rv
   rw [hr,hk,iL_get]
   have:is[n]?=none:=by
    have:=congrArg (fun l=>l[0]?) hd
    simpa using this
   simp [this])⟩
 | v::r,n,k,hk,hd,v0=>by
  have hd':is.drop (n+1)=r:=by rw [← List.drop_drop,hd]; rfl
  obtain ⟨k',H⟩:=hdRun w b1 b2 hs is js hN h5 r (n+1) (k+1) (by omega) hd' v
  exact ⟨k',fun o F its hits=>fam1_ok fun _ os=>(hdTurn w b1 b2 hs is js hN h5 o F k n v r hk hd its (by simpa using hits) (lst v r) k' (fun its' h'=>H o F its' h')).2 _ _ _ _ _ _ _⟩
theorem hdStart (w:World) (b1 b2:Bool) (hs:List Value) (is js:List Int) (hN:∀ v∈is,∃ vn:Nat,v=vn∧vn<5) (h5:hs.length=5) (h0:is≠[]):∃ k',∀ o:HO,HdFit hs is js o→∀ its:List Value,its.length+is.length≤1000 →
  (∀ I A D ea,(kHd0 (Pw w b1 b2) o I A D 0 its ea (valH hs (hidI js is)) (lst 0 is) k').Ok2 w b1 b2 84)∧∀ I A D ea ki v0 tv0,(kHd (Pw w b1 b2) o I A D 0 its ea ki v0 tv0 (valH hs (hidI js is)) (lst 0 is) k').Ok2 w b1 b2 84:=by
 obtain ⟨v,r,rfl⟩:=List.exists_cons_of_ne_nil h0
 obtain ⟨k',H⟩:=hdRun w b1 b2 hs (v::r) js hN h5 r 1 (0+1) rfl rfl v
 exact ⟨k',fun o F its hits=>hdTurn w b1 b2 hs (v::r) js hN h5 o F 0 0 v r rfl rfl its (by simpa using hits) (lst v r) k' (fun its' h'=>H o F its' h')⟩
structure IO where
 L:Addr
 CH:Addr
 CS:Addr
 H:Addr
 SE:Addr
 hs:List Value
 eh:Nat
 es:Nat
noncomputable def seL (r:Nat→RW):List Value:=[.ref (r 0).a,.ref (r 1).a,.ref (r 2).a,.ref (r 3).a,.ref (r 4).a]
noncomputable def hiNeed (o:IO) (r:Nat→RW) (I A D:Addr):List (Addr×Obj) :=
 [(o.CH,ceO (.ref o.H)),(o.CS,ceO (.ref o.SE)),(o.H,lsO o.hs o.eh),(o.SE,lsO (seL r) o.es),((r 0).a,lsO (r 0).v (r 0).e),((r 1).a,lsO (r 1).v (r 1).e),((r 2).a,lsO (r 2).v (r 2).e),((r 3).a,lsO (r 3).v (r 3).e),((r 4).a,lsO (r 4).v (r 4).e),(I,rgIt 1 4),(A,lsO [] 0),(D,dE0)]
noncomputable def kHi (P:Params) (o:IO) (r:Nat→RW) (I A D:Addr) (vs:Nat→List Value) (ve:Int):Con :=
 ⟨lwC P (hiE P) I A o.L D [seeC o.CS,houC o.CH],hiNeed o r I A D,
  fun xs=>((hiNeed o r I A D).map (·.2)).take 9++[rgIt 5 0,lsO (apV (apV (apV (apV [] (vs 1)) (vs 2)) (vs 3)) (vs 4)) (epL (vs 4) (epL (vs 3) (epL (vs 2) (epL (vs 1) 0)))),{cls:=.type "dict",data:=.dict ⟨[ent P "j" (xs 0) (.int 4 (xs 1)),ent P "i" (xs 2) (.int ve (xs 3))]⟩ 2}],fun _=>[],fun _=>.ok .next⟩
noncomputable def hoN (L:Addr) (hs:List Value) (r:Nat→RW) (sj rv:List Value) (j:Int) (os:List (Addr×Obj)):HO:=⟨L,adN os 0,adN os 1,adN os 2,adN os 3,(r j.toNat).a,adN os 7,hs,epN os 2,seL r,epN os 3,sj,epN os 4,rv,epN os 7,j,tokV (keyN os 6 0),tokV (vN os 6 0)⟩
noncomputable def fHd0X (P:Params) (L:Addr) (hs:List Value) (r:Nat→RW) (sj rv:List Value) (j:Int) (its vs:List Value) (v' k':Int):Fam:=fam1 fun _ os=>kHd0 P (hoN L hs r sj rv j os) (adN os 8) (adN os 5) (adN os 6) 0 its (epN os 5) vs v' k'
noncomputable def fHdX (P:Params) (L:Addr) (hs:List Value) (r:Nat→RW) (sj rv:List Value) (j:Int) (its:List Value) (v:Int) (vs:List Value) (v' k':Int):Fam:=fam1 fun _ os=>kHd P (hoN L hs r sj rv j os) (adN os 8) (adN os 5) (adN os 6) 0 its (epN os 5) (tokV (keyN os 6 1)) v (tokV (vN os 6 1)) vs v' k'
noncomputable def fRev (l:List Value):Fam:=fSliceL ⟨l⟩ (fun _=>.none) (fun _=>.none) (fun t=>.int (-1) t) l.reverse
noncomputable def usHi (P:Params) (o:IO) (r:Nat→RW) (vs:Nat→List Value) (v' k':Nat→Int) (n:Nat→Nat):List Use :=
 [uS 5 (fGetI ⟨seL r⟩ 0 (.ref (r 0).a)) [7],uS 9 (fRev (r 0).v) [9,2],⟨n 0,fHd0X P o.L o.hs r (r 1).v (r 0).v.reverse 1 [] (vs 1) (v' 1) (k' 1),[1,3,5,7,11,21,23,4,6],false⟩,
  ⟨n 0+7,fGetI ⟨seL r⟩ 1 (.ref (r 1).a),[7],false⟩,⟨n 0+11,fRev (r 1).v,[11,8],false⟩,⟨n 1,fHdX P o.L o.hs r (r 2).v (r 1).v.reverse 2 (apV [] (vs 1)) (v' 1) (vs 2) (v' 2) (k' 2),[1,3,5,7,13,21,23,10,12],false⟩,
  ⟨n 1+7,fGetI ⟨seL r⟩ 2 (.ref (r 2).a),[7],false⟩,⟨n 1+11,fRev (r 2).v,[13,14],false⟩,⟨n 2,fHdX P o.L o.hs r (r 3).v (r 2).v.reverse 3 (apV (apV [] (vs 1)) (vs 2)) (v' 2) (vs 3) (v' 3) (k' 3),[1,3,5,7,15,21,23,16,18],false⟩,
  ⟨n 2+7,fGetI ⟨seL r⟩ 3 (.ref (r 3).a),[7],false⟩,⟨n 2+11,fRev (r 3).v,[15,20],false⟩,⟨n 3,fHdX P o.L o.hs r (r 4).v (r 3).v.reverse 4 (apV (apV (apV [] (vs 1)) (vs 2)) (vs 3)) (v' 3) (vs 4) (v' 4) (k' 4),[1,3,5,7,17,21,23,22,24],false⟩]
noncomputable def hsHif:List Nat:=hD 122 0x7134d34d36186186165963cf3cf1c71c75c35d74d34d34d34d34d249249241040d34d3471c71d70d75d34d34d34d34d330c30c30a28a2cb2cb1c71c75c35d74d34d34d34d34c61861861041092492471c71d70d75d34d34d34d34d3
noncomputable def hsHit:List Nat:=hD 106 0x7134d34d36165963cf3cf1c71c75c35d74d34d34d34d34d241040d34d3471c71d70d75d34d34d34d34d330a28a2cb2cb1c71c75c35d74d34d34d34d34c61041092492471c71d70d75d34d34d34d34d3
noncomputable def pkHi (T:Nat) (sg:Sg) (j:Nat):Nat:=match j with
 | 0=>T+1
 | 1=>sg 8 1
 | 2=>sg 2 3
 | _=>sg 11 2
theorem kHi1_ok (w:World) (b1 b2:Bool) (o:IO) (r:Nat→RW) (I A D:Addr) (vs:Nat→List Value) (v' k':Nat→Int) (h:∀ n,AllFam (Mo w b1 b2) (Kt w b1 b2) 126 84 (usHi (Pw w b1 b2) o r vs v' k' n)):(kHi (Pw w b1 b2) o r I A D vs (v' 4)).Ok2 w b1 b2 126:=by
 cases b2
 ·exact Con.of2b 84 hsHif _ [] (fun _ T sg=>pkHi T sg) (h fun k=>16+18*k)
 ·exact Con.of2b 84 hsHit _ [] (fun _ T sg=>pkHi T sg) (h fun k=>14+16*k)
end Lw
end Mine
namespace Mine
section
variable {prog:Program} {w:World} {kt:Addr→Option Obj} {x:Nat}
open PySem.SeqAt PySem.Builtin
noncomputable def kMulL (l:Addr) (o:Obj) (k:Int) (t:Tok) (its':List Value):Con :=
 ⟨.builtin "list.__mul__" ⟨[.ref l,.int k t],[]⟩,[(l,o)],fun _=>[o],fun xs=>[(xs 0,lsO its' 0)],fun xs=>.ok (.ret (.ref (xs 0)))⟩
theorem rep_fold (v:Value) (n:Nat):List.foldl (fun x1 x2=>x1++x2) (#[]:Array Value) (List.replicate n #[v])=⟨List.replicate n v⟩:=by
 have:∀ (n:Nat) (a:Array Value),List.foldl (fun x1 x2=>x1++x2) a (List.replicate n #[v])=a++(⟨List.replicate n v⟩:Array Value):=by
  intro n
  induction n with
  | zero=>intro a; simp
  | succ n ih =>
   intro a
   rw [List.replicate_succ,List.foldl_cons,ih,List.replicate_succ]
   apply Array.toList_inj.mp
   simp
 rw [this]; simp
theorem kMulL_ok (l:Addr) (v:Value) (n:Nat) (d:Option Addr) (sl:Array (Option Value)) (k:Int) (t:Tok) (m:Nat) (hk:k=m) (hm:m≤1000):(kMulL l ⟨.type "list",d,.seq ⟨[v]⟩ n,sl⟩ k t (List.replicate m v)).Ok (model prog w) kt x:=by
 refine Con.of_any fun A s R _ _ _ _ _ hneed _ _ hR=>?_
 have hl:s.heap.get? l=some ⟨.type "list",d,.seq ⟨[v]⟩ n,sl⟩:=hneed (l,_) (.head _)
 refine codeAny_builtin F.entry_list_mul ?_
 rw [Around.under_plainId (by decide +kernel)]
 have ek:k.toNat=m:=by omega
 have em:(⟨[v]⟩:Array Value).size*k.toNat=m:=by rw [ek]; show 1*m=m; omega
 have h1:¬(!Builtin.List.listFitsIndex k)=true:=by
  have:(-(2 ^ 63):Int)≤k∧k<2 ^ 63:=by omega
  simp only [Builtin.List.listFitsIndex,Bool.not_eq_true',Bool.not_eq_false]
  simpa using this
 have h2:¬(⟨[v]⟩:Array Value).size*k.toNat > (2 ^ 63-1) / 8:=by rw [em]; omega
 have h3:¬Builtin.List.listTooLong ((⟨[v]⟩:Array Value).size*k.toNat)=true:=by
  rw [em]
  unfold Builtin.List.listTooLong
  rw [sizeLine_eq]
  simp; omega
 refine lm_list_mul_any l ⟨[v]⟩ n d sl k t h1 h2 h3 prog w A R s ⟨hl,?_⟩
 have fin:=hR (fun _=>s.heap.objs.size) _ (After.push (tk:=s.toks) (o:=lsO (List.replicate m v) 0) hneed rfl rfl rfl)
 have e:List.foldl (fun x1 x2=>x1++x2) (#[]:Array Value) (List.replicate (if (⟨[v]⟩:Array Value).isEmpty=true then 0 else k.toNat) ⟨[v]⟩)=⟨List.replicate m v⟩:=by
  rw [if_neg (by simp),ek]
  exact rep_fold v m
 rw [e]
 exact fin
noncomputable def kAddL (l b:Addr) (o o2:Obj) (its':List Value):Con :=
 ⟨.builtin "list.__add__" ⟨[.ref l,.ref b],[]⟩,[(l,o),(b,o2)],fun _=>[o,o2],fun xs=>[(xs 0,lsO its' 0)],fun xs=>.ok (.ret (.ref (xs 0)))⟩
theorem kAddL_ok (l b:Addr) (a c:List Value) (n n2:Nat) (d d2:Option Addr) (sl sl2:Array (Option Value)) (hz:a.length+c.length≤1000):(kAddL l b ⟨.type "list",d,.seq ⟨a⟩ n,sl⟩ ⟨.type "list",d2,.seq ⟨c⟩ n2,sl2⟩ (a++c)).Ok (model prog w) kt x:=by
 refine Con.of_any fun A s R _ _ _ _ _ hneed _ _ hR=>?_
 have hl:s.heap.get? l=some ⟨.type "list",d,.seq ⟨a⟩ n,sl⟩:=hneed (l,_) (.head _)
 have hb:s.heap.get? b=some ⟨.type "list",d2,.seq ⟨c⟩ n2,sl2⟩:=hneed (b,_) (.tail _ (.head _))
 refine codeAny_builtin F.entry_list_add ?_
 rw [Around.under_plainId (by decide +kernel)]
 refine list_addW l b ⟨a⟩ ⟨c⟩ n n2 d d2 sl sl2 (by rw [sizeLine_eq]; show a.length+c.length≤_; omega) prog w A R s ⟨hl,hb,?_⟩
 have fin:=hR (fun _=>s.heap.objs.size) _ (After.push (tk:=s.toks) (o:=lsO (a++c) 0) hneed rfl rfl rfl)
 have e:(⟨a⟩:Array Value)++(⟨c⟩:Array Value)=⟨a++c⟩:=by simp
 rw [e]
 exact fin
structure TP where
 a:Addr
 x:Str
 tx:Tok
 y:Str
 ty:Tok
noncomputable def TP.o (p:TP):Addr×Obj:=(p.a,tpO [.str p.x p.tx,.str p.y p.ty])
noncomputable def TP.r (p:TP):Value:=.ref p.a
noncomputable def kEqT (l b:Addr) (ea eb:Nat) (as bs:List TP) (ex:List (Addr×Obj)):Con :=
 ⟨.builtin "list.__eq__" ⟨[.ref l,.ref b],[]⟩,(l,lsO (as.map TP.r) ea)::(b,lsO (bs.map TP.r) eb)::ex,fun _=>lsO (as.map TP.r) ea::lsO (bs.map TP.r) eb::ex.map (·.2),fun _=>[],fun _=>.ok (.ret (.bool true))⟩
theorem eqAt_pair {A:Around} {s:Shared} {p q:TP} (hp:s.heap.get? p.a=some p.o.2) (hq:s.heap.get? q.a=some q.o.2) (hx:p.x=q.x) (hy:p.y=q.y) (hu:A.units<cLine):EqAt A s p.r q.r true:=by
 by_cases e:p.a=q.a
 ·unfold TP.r
  rw [e]
  exact EqAt.same _
 ·refine EqAt.of_refs e ?_
  have h:=RcAt.tuples (A:=A) (s:=s) (l:=p.a) (b:=q.a) (items:=⟨[.str p.x p.tx,.str p.y p.ty]⟩) (items2:=⟨[.str q.x q.tx,.str q.y q.ty]⟩) (e:=fun _=>true) ⟨_,hp,rfl,_,rfl⟩ ⟨_,hq,rfl,_,rfl⟩ hu
  rw [hx,hy] at h
  refine h ?_
  intro j h1 h2
  have h1':j<2:=h1
  have:j=0∨j=1:=by omega
  rcases this with rfl | rfl
  ·have:=EqGives.str q.x q.x p.tx q.tx
   rw [decide_eq_true rfl] at this
   exact this.at _ _
  ·have:=EqGives.str q.y q.y p.ty q.ty
   rw [decide_eq_true rfl] at this
   exact this.at _ _
theorem kEqT_ok (hx:1≤x) (l b:Addr) (ea eb:Nat) (as bs:List TP) (ex:List (Addr×Obj)) (h1:∀ p∈as,p.o∈ex) (h2:∀ p∈bs,p.o∈ex) (he:as.map (fun p=>(p.x,p.y))=bs.map fun p=>(p.x,p.y)):(kEqT l b ea eb as bs ex).Ok (model prog w) kt x:=by
 refine Con.of_any fun A s R hh hd hu _ _ hneed _ _ hR=>?_
 refine codeAny_builtin F.entry_list_eq ?_
 rw [Around.under_plainId (by decide +kernel)]
 have hz:as.length=bs.length:=by have:=congrArg List.length he; simpa using this
 have ha:s.heap.get? l=some (lsO (as.map TP.r) ea):=hneed (l,_) (.head _)
 have hb:s.heap.get? b=some (lsO (bs.map TP.r) eb):=hneed (b,_) (.tail _ (.head _))
 have fin:=hR (fun _=>0) s (After.same hneed rfl rfl rfl rfl rfl rfl)
 refine list_eqAt l b ⟨as.map TP.r⟩ ⟨bs.map TP.r⟩ ea eb none none #[] #[] (by simp [hz]) (fun _=>true) prog w A R s ⟨ha,hb,fun j j1 j2=>?_,?_⟩
 ·have j1':j<as.length:=by simpa using j1
  have j2':j<bs.length:=by simpa using j2
  have e1:(⟨as.map TP.r⟩:Array Value)[j]=as[j].r:=by simp
  have e2:(⟨bs.map TP.r⟩:Array Value)[j]=bs[j].r:=by simp
  rw [e1,e2]
  have m1:=h1 _ (List.getElem_mem j1')
  have m2:=h2 _ (List.getElem_mem j2')
  have e:(as[j].x,as[j].y)=(bs[j].x,bs[j].y):=by
   have:=congrArg (fun L=>L[j]?) he
   simpa [j1',j2'] using this
  exact eqAt_pair (hneed _ (.tail _ (.tail _ m1))) (hneed _ (.tail _ (.tail _ m2))) (congrArg Prod.fst e) (congrArg Prod.snd e) (by show A.units+_<_; omega)
 ·have:((List.range (⟨as.map TP.r⟩:Array Value).size).all fun _=>true)=true:=by simp
  rw [this]
  exact fin
end
theorem Con.Ok.sub {M:Model} {kt:Addr→Option Obj} {x:Nat} {C C':Con} (h:C.Ok M kt x) (f:(Nat→Nat)→Nat→Nat) (hc:C'.c=C.c) (hn:C'.need=C.need) (hg:∀ xs,C'.give (f xs)=C.give xs) (hw:∀ xs,C'.new (f xs)=C.new xs) (hr:∀ xs,C'.res (f xs)=C.res xs):C'.Ok M kt x:=by
 intro Γ p s R a1 a2 a3 a4 a5 a6 a7 a8
 rw [hn] at a5 a6 a7
 rw [hc] at a1
 refine h Γ p s R a1 a2 a3 a4 a5 a6 a7 fun xs s' T=>?_
 rw [← hr xs]
 refine a8 (f xs) s' ⟨?_,?_,?_,?_,?_,T.gens,T.drawn,T.os,T.size⟩
 ·rw [hn]; exact T.keep
 ·rw [hn,hg]; exact T.len
 ·rw [hn,hg]; exact T.give
 ·rw [hw]; exact T.new
 ·rw [hw]; exact T.nd
namespace Lw
noncomputable def hdX:List (Str×Tok)→Str
 | []=>st0
 | p::_=>p.1
noncomputable def hdT:List (Str×Tok)→Tok→Tok
 | [],t=>t
 | p::_,_=>p.2
noncomputable def hdS (ps:List (Str×Tok)) (t:Tok):Value:=.str (hdX ps) (hdT ps t)
noncomputable def epS:List (Str×Tok)→Nat→Nat
 | [],e=>e
 | _::_,e=>e+1
noncomputable def kGX (P:Params) (l:LA) (ep:Nat) (n:Int) (tn:Tok) (ps:List (Str×Tok)) (epb:Nat):Con :=
 ⟨.call (.ref 147) ⟨[.ref l.X],[]⟩,lexNeed P l [] ep n tn (strValues ps) epb,fun xs=>(lexNeed P l [] ep n (xs 1) (strValues ps.tail) (epS ps epb)).map (·.2),fun _=>[],fun xs=>.ok (.ret (hdS ps (xs 0)))⟩
theorem kGX_ok (w:World) (b1 b2:Bool) (l:LA) (ep:Nat) (n:Int) (tn:Tok) (ps:List (Str×Tok)) (epb:Nat) (h:ps.length≤1000):(kGX (Pw w b1 b2) l ep n tn ps epb).Ok2 w b1 b2 169:=by
 cases ps with
 | nil=>exact (kGT0_ok w b1 b2 l ep n tn epb).sub (fun xs=>xs) rfl rfl (fun _=>rfl) (fun _=>rfl) fun _=>rfl
 | cons p ps=>exact Con.Ok.mono ((kGP_ok w b1 b2 l [] ep n tn p.1 p.2 (strValues ps) epb (by rw [sizeLine_eq]; simp [strValues] at h ⊢; omega)).sub (fun _ _=>tn) rfl rfl (fun _=>rfl) (fun _=>rfl) fun _=>rfl) (by decide)
end Lw
end Mine
namespace Mine
namespace Lw
open Mine.Sn (ceO ownSc dE0)
noncomputable def tlN {α:Type}:Nat→List α→List α
 | 0,l=>l
 | k+1,l=>(tlN k l).tail
noncomputable def epG (ps:List (Str×Tok)) (e:Nat):Nat→Nat
 | 0=>e
 | k+1=>epS (tlN k ps) (epG ps e k)
noncomputable def tokE (P:Params):PySem.Expr:=match stN (stsOf P 212) 12 with
 | .If (.Compare e _ _ _) _ _ _=>e
 | _=>default
noncomputable def popE (P:Params):PySem.Expr:=match lwE P 14 with
 | .Compare e _ _ _=>e
 | _=>default
noncomputable def kCg (P:Params) (L CX:Addr) (l:LA) (ep:Nat) (n:Int) (tn:Tok) (ps:List (Str×Tok)) (epb:Nat) (I A D:Addr):Con :=
 ⟨lwC P (tokE P) I A L D [lexC CX],(CX,ceO (.ref l.X))::(lexNeed P l [] ep n tn (strValues ps) epb++[(I,rgIt 0 6),(A,lsO [] 0),(D,dE0)]),
  fun xs=>ceO (.ref l.X)::((lexNeed P l [] ep n (xs 8) (strValues (tlN 6 ps)) (epG ps epb 6)).map (·.2)++[rgIt 6 0,lsO [hdS (tlN 0 ps) (xs 0),hdS (tlN 1 ps) (xs 1),hdS (tlN 2 ps) (xs 2),hdS (tlN 3 ps) (xs 3),hdS (tlN 4 ps) (xs 4),hdS (tlN 5 ps) (xs 5)] 6,kD P "turn" (xs 6) (.int 5 (xs 7))]),fun _=>[],fun _=>.ok .next⟩
noncomputable def fGX (P:Params) (l:LA) (ep:Nat) (n:Int) (ps:List (Str×Tok)):Fam:=fam1 fun _ os=>kGX P l ep n (tokV (slotN os 7 0)) ps (epN os 8)
noncomputable def plCg:List Nat:=hD 9 0x1344f34b247143
noncomputable def hsCg:List Nat:=hD 198 0x1155555555d75d70113c000000f00000f00000f0596555555555555555d75d70113c000000f00000f00000f0596555555555555555d75d70113c000000f00000f00000f0596555555555555555d75d70113c000000f00000f00000f0596555555555555555d75d70113c000000f00000f00000f0596555555555555555d75d70113c000000f00000f00000f059655555555555555
theorem tlN_len {α:Type} (l:List α):∀ k,(tlN k l).length≤l.length
 | 0=>Nat.le_refl _
 | k+1=>by show (tlN k l).tail.length≤_; rw [List.length_tail]; have:=tlN_len l k; omega
theorem fGX_ok {w:World} {b1 b2:Bool} {l:LA} {ep:Nat} {n:Int} {ps:List (Str×Tok)} (h:ps.length≤1000) (k:Nat):(fGX (Pw w b1 b2) l ep n (tlN k ps)).Ok2 w b1 b2 169 :=
 fam1_ok fun _ _=>kGX_ok w b1 b2 _ _ _ _ _ _ (Nat.le_trans (tlN_len ps k) h)
theorem kCg_ok (w:World) (b1 b2:Bool) (L CX:Addr) (l:LA) (ep:Nat) (n:Int) (tn:Tok) (ps:List (Str×Tok)) (epb:Nat) (I A D:Addr) (h:ps.length≤1000):(kCg (Pw w b1 b2) L CX l ep n tn ps epb I A D).Ok2 w b1 b2 211 :=
 Con.of2b 169 hsCg [⟨2,fGX (Pw w b1 b2) l ep n (tlN 0 ps),plCg,false⟩,⟨8,fGX (Pw w b1 b2) l ep n (tlN 1 ps),plCg,false⟩,⟨14,fGX (Pw w b1 b2) l ep n (tlN 2 ps),plCg,false⟩,⟨20,fGX (Pw w b1 b2) l ep n (tlN 3 ps),plCg,false⟩,⟨26,fGX (Pw w b1 b2) l ep n (tlN 4 ps),plCg,false⟩,⟨32,fGX (Pw w b1 b2) l ep n (tlN 5 ps),plCg,false⟩] []
  (fun N T sg j=>match j with | 6=>T+1 | 7=>sg 4 1 | 8=>sg 5 3 | j=>sg j 2) ⟨fGX_ok h 0,fGX_ok h 1,fGX_ok h 2,fGX_ok h 3,fGX_ok h 4,fGX_ok h 5,trivial⟩
structure PZ where
 A:Addr
 D:Addr
 ti:Tok
 t0:Tok
 ed:Nat
noncomputable def pilC (CP:Addr):Str×Addr:=(Str.ofString "pile",CP)
noncomputable def PZ.need (P:Params) (z:PZ) (items:List Value) (ep:Nat):List (Addr×Obj):=pileNeed P z.A z.D z.ti z.t0 z.ed items ep
noncomputable def cpNeed (P:Params) (CP:Addr) (z:PZ) (items:List Value) (ep:Nat) (I A D:Addr):List (Addr×Obj):=(CP,ceO (.ref (z.A+213)))::(z.need P items ep++[(I,rgIt 0 6),(A,lsO [] 0),(D,dE0)])
noncomputable def st0T (s:Sg) (k:Nat):Addr×Obj:=(s k 0,tpO [.str st0 (s k 1),.str st0 (s k 2)])
noncomputable def cpGive (P:Params) (z:PZ) (ep:Nat) (vs:List Value) (s:Sg):List Obj:=ceO (.ref (z.A+213))::((z.need P [] ep).map (·.2)++[rgIt 6 0,lsO vs 6,kD P "turn" (s 6 0) (.int 5 (s 6 1))])
noncomputable def kCp1 (P:Params) (L CP:Addr) (z:PZ) (ep:Nat) (I A D p0:Addr):Con :=
 conG (lwC P (popE P) I A L D [pilC CP]) (cpNeed P CP z [.ref p0] ep I A D) (fun s=>cpGive P z (ep+1) [.ref p0,.ref (s 1 0),.ref (s 2 0),.ref (s 3 0),.ref (s 4 0),.ref (s 5 0)] s) (fun s=>[st0T s 5,st0T s 4,st0T s 3,st0T s 2,st0T s 1]) fun _=>.ok .next
noncomputable def kCp2 (P:Params) (L CP:Addr) (z:PZ) (ep:Nat) (I A D p0 p1:Addr):Con :=
 conG (lwC P (popE P) I A L D [pilC CP]) (cpNeed P CP z [.ref p0,.ref p1] ep I A D) (fun s=>cpGive P z (ep+1+1) [.ref p1,.ref p0,.ref (s 2 0),.ref (s 3 0),.ref (s 4 0),.ref (s 5 0)] s) (fun s=>[st0T s 5,st0T s 4,st0T s 3,st0T s 2]) fun _=>.ok .next
noncomputable def kCp3 (P:Params) (L CP:Addr) (z:PZ) (ep:Nat) (I A D p0 p1 p2:Addr):Con :=
 conG (lwC P (popE P) I A L D [pilC CP]) (cpNeed P CP z [.ref p0,.ref p1,.ref p2] ep I A D) (fun s=>cpGive P z (ep+1+1+1) [.ref p2,.ref p1,.ref p0,.ref (s 3 0),.ref (s 4 0),.ref (s 5 0)] s) (fun s=>[st0T s 5,st0T s 4,st0T s 3]) fun _=>.ok .next
noncomputable def fPopX (P:Params) (z:PZ) (items:List Value) (v:Addr):Fam:=fam1 fun _ os=>kPop P z.A z.D z.ti z.t0 z.ed items v (epN os 0)
noncomputable def fPop0X (P:Params) (z:PZ):Fam:=fam1 fun _ os=>kPop0e P z.A z.D z.ti z.t0 z.ed (epN os 0)
noncomputable def hsCp (h:Nat):List Nat:=[7,7,7,7,7,7,7,7,7,11,11,1,3,0,0,0,3,0,0,0,3,0,0,0,0,3,5,0,9,9,9,9,7,7,7,7,7,7,7,7,7,11,11,1,3,0,0,0,3,0,0,0,3,0,0,0,0,3,5,0,9,9,9,9,7,7,7,7,7,7,7,7,7,11,11,1,3,0,0,0,3,0,0,0,3,0,0,0,0,3,5,0,9,9,9,9,7,7,7,7,7,7,7,7,7,11,11,1,3,0,0,0,3,0,0,0,3,0,0,0,0,3,5,0,9,9,9,9,7,7,7,7,7,7,7,7,7,11,11,1,3,0,0,0,3,0,0,0,3,0,0,0,0,3,5,0,9,9,9,9,7,7,7,7,7,7,7,7,7,11,11,1,3,0,0,0,3,0,0,0,3,0,0,0,0,3,5,0,9,9,9,9,7,7,7,7,7,h]
noncomputable def pkCp (T:Nat) (sg:Sg):Sg:=fun k n=>match k with
 | 6=>(match n with
  | 0=>T+1
  | _=>sg 4 1)
 | k=>sg k (n+2)
theorem kCp1_ok (w:World) (b1 b2:Bool) (L CP:Addr) (z:PZ) (ep:Nat) (I A D p0:Addr):(kCp1 (Pw w b1 b2) L CP z ep I A D p0).Ok2 w b1 b2 84 :=
 Con.of2gb 42 (hsCp 14) [uS 2 (fPopX (Pw w b1 b2) z [] p0) [3,5],uS 8 (fPop0X (Pw w b1 b2) z) [3,5],uS 14 (fPop0X (Pw w b1 b2) z) [3,5],uS 20 (fPop0X (Pw w b1 b2) z) [3,5],uS 26 (fPop0X (Pw w b1 b2) z) [3,5],uS 32 (fPop0X (Pw w b1 b2) z) [3,5]] [2,3,4,5,6] (fun _ T sg=>pkCp T sg) ⟨fam1_ok fun _ _=>kPop_ok w b1 b2 _ _ _ _ _ _ _ _ (by rw [sizeLine_eq]; simp),fam1_ok fun _ _=>kPop0e_ok w b1 b2 _ _ _ _ _ _,fam1_ok fun _ _=>kPop0e_ok w b1 b2 _ _ _ _ _ _,fam1_ok fun _ _=>kPop0e_ok w b1 b2 _ _ _ _ _ _,fam1_ok fun _ _=>kPop0e_ok w b1 b2 _ _ _ _ _ _,fam1_ok fun _ _=>kPop0e_ok w b1 b2 _ _ _ _ _ _,trivial⟩
theorem kCp2_ok (w:World) (b1 b2:Bool) (L CP:Addr) (z:PZ) (ep:Nat) (I A D p0 p1:Addr):(kCp2 (Pw w b1 b2) L CP z ep I A D p0 p1).Ok2 w b1 b2 84 :=
 Con.of2gb 42 (hsCp 12) [uS 2 (fPopX (Pw w b1 b2) z [.ref p0] p1) [3,5],uS 8 (fPopX (Pw w b1 b2) z [] p0) [3,5],uS 14 (fPop0X (Pw w b1 b2) z) [3,5],uS 20 (fPop0X (Pw w b1 b2) z) [3,5],uS 26 (fPop0X (Pw w b1 b2) z) [3,5],uS 32 (fPop0X (Pw w b1 b2) z) [3,5]] [2,3,4,5] (fun _ T sg=>pkCp T sg) ⟨fam1_ok fun _ _=>kPop_ok w b1 b2 _ _ _ _ _ _ _ _ (by rw [sizeLine_eq]; simp),fam1_ok fun _ _=>kPop_ok w b1 b2 _ _ _ _ _ _ _ _ (by rw [sizeLine_eq]; simp),fam1_ok fun _ _=>kPop0e_ok w b1 b2 _ _ _ _ _ _,fam1_ok fun _ _=>kPop0e_ok w b1 b2 _ _ _ _ _ _,fam1_ok fun _ _=>kPop0e_ok w b1 b2 _ _ _ _ _ _,fam1_ok fun _ _=>kPop0e_ok w b1 b2 _ _ _ _ _ _,trivial⟩
theorem kCp3_ok (w:World) (b1 b2:Bool) (L CP:Addr) (z:PZ) (ep:Nat) (I A D p0 p1 p2:Addr):(kCp3 (Pw w b1 b2) L CP z ep I A D p0 p1 p2).Ok2 w b1 b2 84 :=
 Con.of2gb 42 (hsCp 10) [uS 2 (fPopX (Pw w b1 b2) z [.ref p0,.ref p1] p2) [3,5],uS 8 (fPopX (Pw w b1 b2) z [.ref p0] p1) [3,5],uS 14 (fPopX (Pw w b1 b2) z [] p0) [3,5],uS 20 (fPop0X (Pw w b1 b2) z) [3,5],uS 26 (fPop0X (Pw w b1 b2) z) [3,5],uS 32 (fPop0X (Pw w b1 b2) z) [3,5]] [2,3,4] (fun _ T sg=>pkCp T sg) ⟨fam1_ok fun _ _=>kPop_ok w b1 b2 _ _ _ _ _ _ _ _ (by rw [sizeLine_eq]; simp),fam1_ok fun _ _=>kPop_ok w b1 b2 _ _ _ _ _ _ _ _ (by rw [sizeLine_eq]; simp),fam1_ok fun _ _=>kPop_ok w b1 b2 _ _ _ _ _ _ _ _ (by rw [sizeLine_eq]; simp),fam1_ok fun _ _=>kPop0e_ok w b1 b2 _ _ _ _ _ _,fam1_ok fun _ _=>kPop0e_ok w b1 b2 _ _ _ _ _ _,fam1_ok fun _ _=>kPop0e_ok w b1 b2 _ _ _ _ _ _,trivial⟩
end Lw
end Mine
namespace Mine
namespace Lw
open Mine.Sn (ceO ownSc dE0)
open Mine.Td (RW)
noncomputable def kAccF (P:Params):Fam:=fam1 fun _ _=>kAcc P
structure LP where
 its:List Value
 v:Nat→Int
 d:WD
 y:Nat→Str
 e0:Nat
 cnt:Int
 s1:Int
 lk:Nat→Str
 lo:Nat→Int
 hid:List Str
 bd:Int
 hn:Int
 mn:Int
 mm:Nat
noncomputable def LP.pb (p:LP) (c:Nat→Tok):List (Str×Tok):=zt p.hid c
noncomputable def lk5 (p:LP):List Str:=[p.lk 0,p.lk 1,p.lk 2,p.lk 3,p.lk 4]
noncomputable def lo5 (p:LP):List Int:=[p.lo 0,p.lo 1,p.lo 2,p.lo 3,p.lo 4]
noncomputable def vT (os:List (Addr×Obj)) (i:Nat) (j:Nat):Tok:=tokV (vN os i j)
noncomputable def rwX (is:Nat→List Int) (xs:Nat→Nat) (k:Nat):RW:=⟨decR xs k 0,nlV [] (is k) fun n=>decR xs k (n+2),epL (is k) 0⟩
noncomputable def laP (px:List (Nat→Nat)) (i:Nat):LA:=laX (pxN px i)
noncomputable def g0 (p:LP):Fam:=fam1 fun _ os=>kNums (oD os 0) (oS os 0) (adN os 0) p.its (epN os 0) p.v
noncomputable def g1 (P:Params) (p:LP):Fam:=fam1 fun c os=>kCh P (frL c) (adN os 0) (adN os 1) p.v (vT os 1) (epN os 1) (adN os 2) (adN os 3) (adN os 4) p.d.w
noncomputable def g2 (P:Params) (p:LP):Fam:=fam1 fun c os=>kCw P (frL c) (adN os 0) (adN os 1) (adN os 2) (adN os 3) p.v (vT os 2) (epN os 2) p.d.w (vT os 3) (epN os 3) (adN os 4) (adN os 5) (adN os 6) p.y
noncomputable def g3 (p:LP):Fam:=fam1 fun c os=>kJoin st0 (argT c 0) (adN os 0) ⟨.type "list",oD os 0,.seq ⟨v5 p.y (vT os 0)⟩ (epN os 0),oS os 0⟩ (tx (p.d.st 5 0))
noncomputable def g4 (P:Params) (p:LP):Fam:=fam1 fun c _=>kLex P (p.d.st 5 0) p.e0 (argT c 0)
noncomputable def g5 (P:Params) (p:LP):Fam:=fam2 fun c os px=>kCt P (frL c) (adN os 0) (adN os 1) (laP px 0) p.d (vT os 1) (epN os 1) (fun j=>pxN px 0 (j+20)) p.e0 1 (pxN px 0 11+24) 0 (adN os 11) (adN os 12) (adN os 13)
noncomputable def g6 (p:LP):Fam:=fam1 fun _ os=>kNeL (adN os 0) (adN os 1) ⟨.type "list",oD os 0,.seq ⟨v5 p.d.w (vT os 0)⟩ (epN os 0),oS os 0⟩ ⟨.type "list",oD os 1,.seq ⟨v5 p.d.w (vT os 1)⟩ (epN os 1),oS os 1⟩ false
noncomputable def g7 (P:Params) (p:LP):Fam:=fam2 fun _ os px=>kEnd P (laP px 2) (p.d.ld 5) (p.d.F (fun j=>pxN px 2 (j+20)) 5) (p.d.ep p.e0 5) (p.d.n 1 5) (tokV (slotN os 7 0)) 0
noncomputable def LP.ess (p:LP):Nat:=p.d.ep p.e0 5+(ldN (p.d.ld 5) []).length
noncomputable def LP.n' (p:LP):Int:=nA (p.d.ld 5) 1 0 (p.d.n 1 5)
noncomputable def kWalkZ (P:Params) (A D:Addr) (ti t0:Tok) (ed ep:Nat) (W:Addr) (its:List Value) (esw:Nat) (l:LA) (ss:List Value) (ess:Nat) (n:Int) (tn:Tok) (epb:Nat) (looks:List Str) (lows:List Int) (hid:List Str) (fin:List (Nat×Nat)):Con :=
 ⟨.call (.ref 192) ⟨[.ref W,.ref (A+213),.ref l.X],[]⟩,waNeed P A D ti t0 ed ep W its esw l ss ess n tn [] epb,
  fun xs=>lsO its esw::{cls:=.ref 115,dict:=some D,data:=.seq ⟨pcV (pcOf (tk 0 (sh3 xs)) 18 fin)⟩ (tk 0 (sh3 xs) 2)}::pileD P ti t0 ed::tabO 72 19 (tk 0 (sh3 xs) 16)::tabO 75 32 (tk 0 (sh3 xs) 17)::(lexNeed P l ss ess n tn (strValues (zt hid (tk 3 (sh3 xs)))) (tk 0 (sh3 xs) 3)).map (·.2),
  fun xs=>(xs 2,tpO [.ref (xs 0),.ref (xs 1)])::(xs 0,lsO (glV [] looks (tk 1 (sh3 xs))) (tk 0 (sh3 xs) 0))::(xs 1,lsO (nlV [] lows (tk 2 (sh3 xs))) (tk 0 (sh3 xs) 1))::pcN (pcOf (tk 0 (sh3 xs)) 18 fin),fun xs=>.ok (.ret (.ref (xs 2)))⟩
theorem kWalkZ_ok {M:Model} {kt:Addr→Option Obj} {x:Nat} {P:Params} {A D:Addr} {ti t0:Tok} {ed ep:Nat} {W:Addr} {its:List Value} {esw:Nat} {l:LA} {ss:List Value} {ess:Nat} {n:Int} {tn:Tok} {epb:Nat} {looks:List Str} {lows:List Int} {hid:List Str} {fin:List (Nat×Nat)}
  (h:(kWalk P A D ti t0 ed ep W its esw l ss ess n tn [] epb looks lows hid fin).Ok M kt x):(kWalkZ P A D ti t0 ed ep W its esw l ss ess n tn epb looks lows hid fin).Ok M kt x:=by
 refine h.sub (fun xs=>xs) rfl rfl (fun xs=>?_) (fun _=>rfl) fun _=>rfl
 have e:glV [] hid (tk 3 (sh3 xs))=strValues (zt hid (tk 3 (sh3 xs))):=by rw [glV_zt,List.nil_append]
 show _=waGive P A D ti t0 ed its esw l ss ess n tn [] hid fin (tk 0 (sh3 xs)) (tk 3 (sh3 xs))
 unfold waGive
 rw [e]
 rfl
noncomputable def g13 (P:Params) (p:LP) (fin:List (Nat×Nat)):Fam:=fam2 fun _ os px=>kWalkZ P (pxN px 0 0) (pxN px 0 1+213) (pxN px 0 2) (pxN px 0 3) 1 0 (adN os 0) (v5 p.d.w (vT os 0)) (epN os 0) (laP px 8) [] p.ess p.n' (tokV (slotN os 12 0)) 0 (lk5 p) (lo5 p) p.hid fin
noncomputable def g14 (P:Params) (p:LP) (is:Nat→List Int):Fam:=fam1 fun c os=>kCs P (frL c) (adN os 0) (adN os 1) (v5 p.d.w (vT os 1)) (epN os 1) (adN os 2) (adN os 3) (adN os 4) is
noncomputable def g15 (P:Params) (p:LP) (is:Nat→List Int):Fam:=fam2 fun c os px=>kCl P ⟨frL c,adN os 0,adN os 1,adN os 2,v5 p.d.w (vT os 1),epN os 1,epN os 2⟩ (rwX is (pxN px 0)) (adN os 8) (adN os 9) (adN os 10) p.lk
noncomputable def lkV (p:LP) (f:Nat→Tok):List Value:=glV [] (lk5 p) f
noncomputable def g16 (p:LP):Fam:=fam2 fun _ os px=>kNeL (adN os 0) (adN os 1) ⟨.type "list",oD os 0,.seq ⟨lkV p (vT os 0)⟩ (epN os 0),oS os 0⟩ ⟨.type "list",oD os 1,.seq ⟨v5 p.lk (vT os 1)⟩ (epN os 1),oS os 1⟩ false
noncomputable def g17 (p:LP):Fam:=fam1 fun c os=>kGetI (adN os 0) ⟨oC os 0,oD os 0,.seq ⟨l6 p.v (vT os 0)⟩ (epN os 0),oS os 0⟩ 5 (argT c 1) (.int (p.v 5) (vT os 0 5))
noncomputable def txX (p:LP) (is:Nat→List Int) (os:List (Addr×Obj)) (px:List (Nat→Nat)) (tbd:Tok):Td.TX:=⟨v5 p.d.w (vT os 0),epN os 0,seL (rwX is (pxN px 4)),epN os 1,lkV p (vT os 2),epN os 2,nlV [] (lo5 p) (vT os 3),epN os 3,p.bd,tbd⟩
noncomputable def g19 (p:LP) (is:Nat→List Int):Fam:=fam2 fun c os px=>Td.kTold (txX p is os px (argT c 4)) (adN os 0) (adN os 1) (adN os 2) (adN os 3) (rwX is (pxN px 4))
noncomputable def hdV (is:Nat→List Int) (hs:List Value) (k:Nat):List Value:=valH hs (hidI (is k) (is (k-1)).reverse)
noncomputable def g20 (P:Params) (p:LP) (is:Nat→List Int):Fam:=fam2 fun c os px=>kHi P ⟨frL c,adN os 0,adN os 1,adN os 2,adN os 3,v5 p.d.w (vT os 2),epN os 2,epN os 3⟩ (rwX is (pxN px 5)) (adN os 9) (adN os 10) (adN os 11) (hdV is (v5 p.d.w (vT os 2))) (lst 0 (is 3).reverse)
noncomputable def g21 (P:Params) (p:LP):Fam:=fam2 fun c os px=>kCg P (frL c) (adN os 0) (laP px 16) p.ess p.n' (tokV (slotN os 8 0)) (p.pb (tk 3 (sh3 (pxN px 7)))) (epN os 9) (adN os 10) (adN os 11) (adN os 12)
noncomputable def hdA (p:LP) (is:Nat→List Int) (th:Nat→Tok):List Value:=apV (apV (apV (apV [] (hdV is (v5 p.d.w th) 1)) (hdV is (v5 p.d.w th) 2)) (hdV is (v5 p.d.w th) 3)) (hdV is (v5 p.d.w th) 4)
noncomputable def g22 (p:LP) (is:Nat→List Int):Fam:=fam2 fun _ os px=>kLenL (adN os 0) (hdA p is (pxN px 20)) (epN os 0) (oS os 0) p.hn
noncomputable def kMulS (l:Addr) (o:Obj) (k:Int) (t:Tok) (m:Nat):Con :=
 ⟨.builtin "list.__mul__" ⟨[.ref l,.int k t],[]⟩,[(l,o)],fun _=>[o],fun xs=>[(xs 0,lsO (List.replicate m (.str st0 (xs 1))) 0)],fun xs=>.ok (.ret (.ref (xs 0)))⟩
theorem kMulS_ok {prog:Program} {w:World} {kt:Addr→Option Obj} {x:Nat} (l:Addr) (u:Tok) (n:Nat) (d:Option Addr) (sl:Array (Option Value)) (k:Int) (t:Tok) (m:Nat) (hk:k=m) (hm:m≤1000):(kMulS l ⟨.type "list",d,.seq ⟨[.str st0 u]⟩ n,sl⟩ k t m).Ok (model prog w) kt x :=
 (kMulL_ok l (.str st0 u) n d sl k t m hk hm).sub (fun xs j=>match j with | 0=>xs 0 | _=>u) rfl rfl (fun _=>rfl) (fun _=>rfl) fun _=>rfl
noncomputable def g24 (p:LP):Fam:=fam1 fun c os=>kMulS (adN os 0) ⟨.type "list",oD os 0,.seq ⟨[.str st0 (vT os 0 0)]⟩ (epN os 0),oS os 0⟩ p.mn (argT c 1) p.mm
noncomputable def g25 (p:LP) (is:Nat→List Int):Fam:=fam2 fun _ os px=>kAddL (adN os 0) (adN os 1) ⟨.type "list",oD os 0,.seq ⟨hdA p is (pxN px 23)⟩ (epN os 0),oS os 0⟩ ⟨.type "list",oD os 1,.seq ⟨List.replicate p.mm (.str st0 (pxN px 0 1))⟩ (epN os 1),oS os 1⟩ (hdA p is (pxN px 23)++List.replicate p.mm (.str st0 (pxN px 0 1)))
noncomputable def outA (p:LP) (px:List (Nat→Nat)):List Value:=[hdS (tlN 0 (p.pb (tk 3 (sh3 (pxN px 12))))) (pxN px 4 0),hdS (tlN 1 (p.pb (tk 3 (sh3 (pxN px 12))))) (pxN px 4 1),hdS (tlN 2 (p.pb (tk 3 (sh3 (pxN px 12))))) (pxN px 4 2),hdS (tlN 3 (p.pb (tk 3 (sh3 (pxN px 12))))) (pxN px 4 3),hdS (tlN 4 (p.pb (tk 3 (sh3 (pxN px 12))))) (pxN px 4 4),hdS (tlN 5 (p.pb (tk 3 (sh3 (pxN px 12))))) (pxN px 4 5)]
noncomputable def g26 (p:LP) (is:Nat→List Int):Fam:=fam2 fun _ os px=>kNeL (adN os 0) (adN os 1) ⟨.type "list",oD os 0,.seq ⟨outA p px⟩ (epN os 0),oS os 0⟩ ⟨.type "list",oD os 1,.seq ⟨hdA p is (pxN px 24)++List.replicate p.mm (.str st0 (pxN px 1 1))⟩ (epN os 1),oS os 1⟩ false
noncomputable def g27 (is:Nat→List Int):Fam:=fam2 fun c os px=>kGetI (adN os 0) ⟨oC os 0,oD os 0,.seq ⟨seL (rwX is (pxN px 12))⟩ (epN os 0),oS os 0⟩ 4 (argT c 1) (.ref (rwX is (pxN px 12) 4).a)
noncomputable def g28 (is:Nat→List Int):Fam:=fam2 fun _ os px=>kSliceL (adN os 0) (adN os 1) ⟨oC os 0,oD os 0,.seq ⟨(rwX is (pxN px 13) 4).v⟩ (epN os 0),oS os 0⟩ .none .none (.int (-1) (tokV (vN os 1 2))) (rwX is (pxN px 13) 4).v.reverse
noncomputable def gHo (p:LP) (i:Int) (n:Nat):Fam:=fam1 fun c os=>kGetI (adN os 0) ⟨oC os 0,oD os 0,.seq ⟨v5 p.d.w (vT os 0)⟩ (epN os 0),oS os 0⟩ i (argT c 1) (.str (p.d.w n) (vT os 0 n))
noncomputable def pzX (px:List (Nat→Nat)) (k:Nat):PZ:=⟨pxN px k 0,pxN px k 1+213,pxN px k 2,pxN px k 3,1⟩
noncomputable def gCp1 (P:Params):Fam:=fam2 fun c os px=>kCp1 P (frL c) (adN os 0) (pzX px 17) (epN os 1) (adN os 3) (adN os 4) (adN os 5) (refV (vN os 1 0))
noncomputable def gCp2 (P:Params):Fam:=fam2 fun c os px=>kCp2 P (frL c) (adN os 0) (pzX px 18) (epN os 1) (adN os 3) (adN os 4) (adN os 5) (refV (vN os 1 0)) (refV (vN os 1 1))
noncomputable def gCp3 (P:Params):Fam:=fam2 fun c os px=>kCp3 P (frL c) (adN os 0) (pzX px 19) (epN os 1) (adN os 3) (adN os 4) (adN os 5) (refV (vN os 1 0)) (refV (vN os 1 1)) (refV (vN os 1 2))
noncomputable def lfV (os:List (Addr×Obj)) (i:Nat):Nat→Nat→List Value
 | 0,_=>[]
 | m+1,k=>.ref (refV (vN os i k))::lfV os i m (k+1)
noncomputable def gLen (m:Nat) (n:Int):Fam:=fam1 fun _ os=>kLenL (adN os 0) (lfV os 0 m 0) (epN os 0) (oS os 0) n
noncomputable def gMul (k:Int) (m:Nat):Fam:=fam1 fun c os=>kMulL (adN os 0) ⟨.type "list",oD os 0,.seq ⟨[.ref (refV (vN os 0 0))]⟩ (epN os 0),oS os 0⟩ k (argT c 1) (List.replicate m (.ref (refV (vN os 0 0))))
noncomputable def gAdd (m k:Nat):Fam:=fam1 fun _ os=>kAddL (adN os 0) (adN os 1) ⟨.type "list",oD os 0,.seq ⟨lfV os 0 m 0⟩ (epN os 0),oS os 0⟩ ⟨.type "list",oD os 1,.seq ⟨lfV os 1 k 0⟩ (epN os 1),oS os 1⟩ (lfV os 0 m 0++lfV os 1 k 0)
noncomputable def tpI (os:List (Addr×Obj)) (y:Str) (i:Nat):TP:=⟨adN os i,st0,vT os i 0,y,vT os i 1⟩
noncomputable def gEq1 (q0:Str) (w0:Str):Fam:=fam1 fun _ os=>kEqT (adN os 0) (adN os 1) (epN os 0) (epN os 1)
 [tpI os q0 2,tpI os st0 3,tpI os st0 4,tpI os st0 5,tpI os st0 6,tpI os st0 7] [tpI os w0 8,tpI os st0 9,tpI os st0 9,tpI os st0 9,tpI os st0 9,tpI os st0 9]
 [(tpI os q0 2).o,(tpI os st0 3).o,(tpI os st0 4).o,(tpI os st0 5).o,(tpI os st0 6).o,(tpI os st0 7).o,(tpI os w0 8).o,(tpI os st0 9).o]
noncomputable def gEq2 (q0 q1 w0 w1:Str):Fam:=fam1 fun _ os=>kEqT (adN os 0) (adN os 1) (epN os 0) (epN os 1)
 [tpI os q1 2,tpI os q0 3,tpI os st0 4,tpI os st0 5,tpI os st0 6,tpI os st0 7] [tpI os w0 8,tpI os w1 9,tpI os st0 10,tpI os st0 10,tpI os st0 10,tpI os st0 10]
 [(tpI os q1 2).o,(tpI os q0 3).o,(tpI os st0 4).o,(tpI os st0 5).o,(tpI os st0 6).o,(tpI os st0 7).o,(tpI os w0 8).o,(tpI os w1 9).o,(tpI os st0 10).o]
noncomputable def gEq3 (q0 q1 q2 w0 w1 w2:Str):Fam:=fam1 fun _ os=>kEqT (adN os 0) (adN os 1) (epN os 0) (epN os 1)
 [tpI os q2 2,tpI os q1 3,tpI os q0 4,tpI os st0 5,tpI os st0 6,tpI os st0 7] [tpI os w0 8,tpI os w1 9,tpI os w2 10,tpI os st0 11,tpI os st0 11,tpI os st0 11]
 [(tpI os q2 2).o,(tpI os q1 3).o,(tpI os q0 4).o,(tpI os st0 5).o,(tpI os st0 6).o,(tpI os st0 7).o,(tpI os w0 8).o,(tpI os w1 9).o,(tpI os w2 10).o,(tpI os st0 11).o]
noncomputable def isW (is:Nat→List Int) (i4:List Int) (k:Nat):List Int:=match k with
 | 4=>i4
 | k=>is k
noncomputable def kLaw (dd:Option Addr) (sl:Array (Option Value)) (S:Addr) (its:List Value) (es:Nat):Con :=
 ⟨.call (.ref 212) ⟨[.ref S],[]⟩,[(S,scO dd sl its es),(77,tabE),(84,tabE),(182,tabE)],fun xs=>[scO dd sl its es,tabO 72 19 (xs 0),tabO 75 32 (xs 1),tabO 150 18 (xs 2)],fun _=>[],fun _=>.ok (.ret (.bool true))⟩
noncomputable def mkUs:List Nat→List (Fam×List Nat)→List Use
 | n::ns,f::fs=>⟨n,f.1,f.2,false⟩::mkUs ns fs
 | _,_=>[]
noncomputable def AllG (M:Model) (kt:Addr→Option Obj) (y:Nat):List (Fam×List Nat)→Prop
 | []=>True
 | f::fs=>f.1.Ok M kt y∧AllG M kt y fs
theorem AllG.us {M:Model} {kt:Addr→Option Obj} {x y:Nat}:∀ {fs:List (Fam×List Nat)} (ns:List Nat),AllG M kt y fs→AllFam M kt x y (mkUs ns fs)
 | [],ns,_=>by cases ns<;>exact trivial
 | f::fs,[],_=>trivial
 | f::fs,n::ns,h=>⟨h.1,AllG.us ns h.2⟩
noncomputable def plLx:List Nat:=hD 9 0x30b2e9268a0a2a
noncomputable def gsA (P:Params) (p:LP) (is:Nat→List Int) (fin:List (Nat×Nat)) (c:Nat):List (Fam×List Nat) :=
 [(g0 p,[1]),(g1 P p,[4,14,18,20,22]),(g2 P p,[4,6,14,20,26,28,30]),(g3 p,[28]),(g4 P p,[7]),(g5 P p,[8,20]++plLx++[50,52,54]),(g6 p,[52,20]),(g7 P p,plLx),(fSS "str.__ne__" st0 st0 false,[]),(fCount (tx (p.d.st 5 0)) nl1 p.cnt,[]),(fIIi "int.__add__" 1 p.cnt p.s1,[]),(fII "int.__ne__" p.n' p.s1 false,[]),(kAccF P,[]),
  (g13 P p fin,[52,58,56,3,5]++plLx),(g14 P p is,[6,20,c+76,c+78,c+80]),(g15 P p is,[6,20,c+78,c+82,c+84,c+86,c+88,c+90,c+92,c+94,c+96]),(g16 p,[c+64,c+94]),(g17 p,[14]),(fIIi "int.__mod__" (p.v 5) 13 p.bd,[]),(g19 p is,[20,c+78,c+64,c+62,c+82,c+84,c+86,c+88,c+90]),
  (g20 P p is,[6,12,20,c+78,c+82,c+84,c+86,c+88,c+90,c+100,c+102,c+104]),(g21 P p,[8]++plLx++[c+108,c+110,c+112]),(g22 p is,[c+102]),(fIIi "int.__sub__" 6 p.hn p.mn,[]),(g24 p,[c+114]),(g25 p is,[c+102,c+116]),(g26 p is,[c+110,c+118]),(g27 is,[c+78]),(g28 is,[c+90,c+120])]
noncomputable def gsB1 (P:Params) (p:LP) (i0:Int) (n0:Nat) (q0:Str):List (Fam×List Nat) :=
 [(gHo p i0 n0,[20]),(gCp1 P,[10,58,56,138,140,142]),(gLen 1 1,[126]),(fIIi "int.__sub__" 6 1 5,[]),(gMul 5 5,[156]),(gAdd 1 5,[126,158]),(gEq1 q0 (p.d.w n0),[140,160,60,144,146,148,150,152,130,154])]
noncomputable def gsB2 (P:Params) (p:LP) (i0 i1:Int) (n0 n1:Nat) (q0 q1:Str):List (Fam×List Nat) :=
 [(gHo p i0 n0,[20]),(gHo p i1 n1,[20]),(gCp2 P,[10,58,56,142,144,146]),(gLen 2 2,[128]),(fIIi "int.__sub__" 6 2 4,[]),(gMul 4 4,[158]),(gAdd 2 4,[128,160]),(gEq2 q0 q1 (p.d.w n0) (p.d.w n1),[144,162,60,62,148,150,152,154,132,134,156])]
noncomputable def gsB3 (P:Params) (p:LP) (i0 i1 i2:Int) (n0 n1 n2:Nat) (q0 q1 q2:Str):List (Fam×List Nat) :=
 [(gHo p i0 n0,[20]),(gHo p i1 n1,[20]),(gHo p i2 n2,[20]),(gCp3 P,[10,58,56,146,148,150]),(gLen 3 3,[130]),(fIIi "int.__sub__" 6 3 3,[]),(gMul 3 3,[160]),(gAdd 3 3,[130,162]),(gEq3 q0 q1 q2 (p.d.w n0) (p.d.w n1) (p.d.w n2),[148,164,60,62,64,152,154,156,134,136,138,158])]
noncomputable def hsL1f:List Nat:=[0,0,2,2,0,2,0,4,4,0,0,16,16,16,16,16,16,16,16,16,16,18,18,18,18,18,22,22,22,6,6,0,0,24,24,24,24,24,24,24,24,24,24,26,26,26,26,26,30,30,30,2,2,0,2,0,8,8,6,20,20,20,50,50,50,50,50,2,2,54,54,54,2,6,52,20,52,52,8,46,0,0,0,46,0,0,0,46,0,0,0,0,46,44,0,8,46,0,0,0,46,0,0,0,46,46,0,44,2,0,0,0,10,10,0,2,10,8,0,66,66,66,66,68,68,68,68,68,66,68,68,68,68,68,68,66,68,68,68,68,68,68,66,68,68,72,2,2,2,2,0,0,74,74,74,74,74,74,74,74,74,74,76,76,76,76,76,80,80,80,12,12,2,12,78,78,78,92,92,92,92,92,96,96,96,64,94,64,64,0,6,12,2,2,4,14,14,14,14,0,0,0,98,98,98,98,98,98,98,98,98,98,100,100,100,100,100,2,2,104,104,104,104,104,104,0,0,106,106,106,106,106,106,106,106,106,106,108,108,108,108,108,112,112,112,2,0,0,2,114,114,114,114,102,116,102,102,110,118,110,110,12,78,78,78,78,90,90,90,90,122,122,122,124,124,124,124,124,124,124,124,124,122,124,124,128,128,6,128,20,20,20,20,126,126,126,126,124,124,124,124,122,124,124,134,2,2,128,128,128,0,0,136,136,136,136,136,136,136,136,136,136,138,138,138,138,138,142,142,142,2,0,0,2,156,156,156,156,126,158,126,126,140,160,140,140]
noncomputable def atL1f:List Nat:=[1,13,25,27,28,34,36,37,39,42,44,46,47,48,68,74,76,78,80,81,93,105,107,109,113,115,117,119,123,134,151,153,155,159,161,163]
noncomputable def hsL2f:List Nat:=[0,0,2,2,0,2,0,4,4,0,0,16,16,16,16,16,16,16,16,16,16,18,18,18,18,18,22,22,22,6,6,0,0,24,24,24,24,24,24,24,24,24,24,26,26,26,26,26,30,30,30,2,2,0,2,0,8,8,6,20,20,20,50,50,50,50,50,2,2,54,54,54,2,6,52,20,52,52,8,46,0,0,0,46,0,0,0,46,0,0,0,0,46,44,0,8,46,0,0,0,46,0,0,0,46,46,0,44,2,0,0,0,10,10,0,2,10,8,0,68,68,68,68,70,70,70,70,70,68,70,70,70,70,70,70,68,70,70,70,70,70,70,68,70,70,74,2,2,2,2,0,0,76,76,76,76,76,76,76,76,76,76,78,78,78,78,78,82,82,82,12,12,2,12,80,80,80,94,94,94,94,94,98,98,98,66,96,66,66,0,6,12,2,2,4,14,14,14,14,0,0,0,100,100,100,100,100,100,100,100,100,100,102,102,102,102,102,2,2,106,106,106,106,106,106,0,0,108,108,108,108,108,108,108,108,108,108,110,110,110,110,110,114,114,114,2,0,0,2,116,116,116,116,104,118,104,104,112,120,112,112,12,80,80,80,80,92,92,92,92,124,124,124,126,126,126,126,126,126,126,126,126,124,126,126,130,130,6,130,20,20,20,20,128,128,128,128,126,126,126,126,124,126,126,130,130,6,130,20,20,20,20,128,128,128,128,126,126,126,126,124,126,126,138,2,2,130,130,130,0,0,140,140,140,140,140,140,140,140,140,140,142,142,142,142,142,146,146,146,2,0,0,2,158,158,158,158,128,160,128,128,144,162,144,144]
noncomputable def atL2f:List Nat:=[1,13,25,27,28,34,36,37,39,42,44,46,47,48,68,74,76,78,80,81,93,105,107,109,113,115,117,119,123,134,141,158,160,162,166,168,170]
noncomputable def hsL3f:List Nat:=[0,0,2,2,0,2,0,4,4,0,0,16,16,16,16,16,16,16,16,16,16,18,18,18,18,18,22,22,22,6,6,0,0,24,24,24,24,24,24,24,24,24,24,26,26,26,26,26,30,30,30,2,2,0,2,0,8,8,6,20,20,20,50,50,50,50,50,2,2,54,54,54,2,6,52,20,52,52,8,46,0,0,0,46,0,0,0,46,0,0,0,0,46,44,0,8,46,0,0,0,46,0,0,0,46,46,0,44,2,0,0,0,10,10,0,2,10,8,0,70,70,70,70,72,72,72,72,72,70,72,72,72,72,72,72,70,72,72,72,72,72,72,70,72,72,76,2,2,2,2,0,0,78,78,78,78,78,78,78,78,78,78,80,80,80,80,80,84,84,84,12,12,2,12,82,82,82,96,96,96,96,96,100,100,100,68,98,68,68,0,6,12,2,2,4,14,14,14,14,0,0,0,102,102,102,102,102,102,102,102,102,102,104,104,104,104,104,2,2,108,108,108,108,108,108,0,0,110,110,110,110,110,110,110,110,110,110,112,112,112,112,112,116,116,116,2,0,0,2,118,118,118,118,106,120,106,106,114,122,114,114,12,82,82,82,82,94,94,94,94,126,126,126,128,128,128,128,128,128,128,128,128,126,128,128,132,132,6,132,20,20,20,20,130,130,130,130,128,128,128,128,126,128,128,132,132,6,132,20,20,20,20,130,130,130,130,128,128,128,128,126,128,128,132,132,6,132,20,20,20,20,130,130,130,130,128,128,128,128,126,128,128,142,2,2,132,132,132,0,0,144,144,144,144,144,144,144,144,144,144,146,146,146,146,146,150,150,150,2,0,0,2,160,160,160,160,130,162,130,130,148,164,148,148]
noncomputable def atL3f:List Nat:=[1,13,25,27,28,34,36,37,39,42,44,46,47,48,68,74,76,78,80,81,93,105,107,109,113,115,117,119,123,134,141,148,165,167,169,173,175,177]
noncomputable def hsL1t:List Nat:=[0,0,2,2,0,2,0,4,4,0,0,16,16,16,16,16,16,16,16,16,16,18,22,22,22,6,6,0,0,24,24,24,24,24,24,24,24,24,24,26,30,30,30,2,2,0,2,0,8,8,6,20,20,20,50,2,2,54,54,54,2,6,52,20,52,52,8,46,0,0,0,46,0,0,0,46,0,0,0,0,46,44,0,8,46,0,0,0,46,0,0,0,46,46,0,44,2,0,0,0,10,10,0,2,10,8,0,66,66,66,66,68,68,68,68,68,66,68,68,68,68,68,68,66,68,68,68,68,68,68,66,68,68,72,2,2,2,2,0,0,74,74,74,74,74,74,74,74,74,74,76,80,80,80,12,12,2,12,78,78,78,92,96,96,96,64,94,64,64,0,6,12,2,2,4,14,14,14,14,0,0,0,98,98,98,98,98,98,98,98,98,98,100,2,2,104,104,104,104,104,104,0,0,106,106,106,106,106,106,106,106,106,106,108,112,112,112,2,0,0,2,114,114,114,114,102,116,102,102,110,118,110,110,12,78,78,78,78,90,90,90,90,122,122,122,124,124,124,124,124,122,124,124,128,128,6,128,20,20,20,20,126,126,126,126,124,124,124,124,122,124,124,134,2,2,128,128,128,0,0,136,136,136,136,136,136,136,136,136,136,138,142,142,142,2,0,0,2,156,156,156,156,126,158,126,126,140,160,140,140]
noncomputable def atL1t:List Nat:=[1,11,21,23,24,28,30,31,33,36,38,40,41,42,60,64,66,68,70,71,81,91,93,95,99,101,103,105,109,118,133,135,137,141,143,145]
noncomputable def hsL2t:List Nat:=[0,0,2,2,0,2,0,4,4,0,0,16,16,16,16,16,16,16,16,16,16,18,22,22,22,6,6,0,0,24,24,24,24,24,24,24,24,24,24,26,30,30,30,2,2,0,2,0,8,8,6,20,20,20,50,2,2,54,54,54,2,6,52,20,52,52,8,46,0,0,0,46,0,0,0,46,0,0,0,0,46,44,0,8,46,0,0,0,46,0,0,0,46,46,0,44,2,0,0,0,10,10,0,2,10,8,0,68,68,68,68,70,70,70,70,70,68,70,70,70,70,70,70,68,70,70,70,70,70,70,68,70,70,74,2,2,2,2,0,0,76,76,76,76,76,76,76,76,76,76,78,82,82,82,12,12,2,12,80,80,80,94,98,98,98,66,96,66,66,0,6,12,2,2,4,14,14,14,14,0,0,0,100,100,100,100,100,100,100,100,100,100,102,2,2,106,106,106,106,106,106,0,0,108,108,108,108,108,108,108,108,108,108,110,114,114,114,2,0,0,2,116,116,116,116,104,118,104,104,112,120,112,112,12,80,80,80,80,92,92,92,92,124,124,124,126,126,126,126,126,124,126,126,130,130,6,130,20,20,20,20,128,128,128,128,126,126,126,126,124,126,126,130,130,6,130,20,20,20,20,128,128,128,128,126,126,126,126,124,126,126,138,2,2,130,130,130,0,0,140,140,140,140,140,140,140,140,140,140,142,146,146,146,2,0,0,2,158,158,158,158,128,160,128,128,144,162,144,144]
noncomputable def atL2t:List Nat:=[1,11,21,23,24,28,30,31,33,36,38,40,41,42,60,64,66,68,70,71,81,91,93,95,99,101,103,105,109,118,125,140,142,144,148,150,152]
noncomputable def hsL3t:List Nat:=[0,0,2,2,0,2,0,4,4,0,0,16,16,16,16,16,16,16,16,16,16,18,22,22,22,6,6,0,0,24,24,24,24,24,24,24,24,24,24,26,30,30,30,2,2,0,2,0,8,8,6,20,20,20,50,2,2,54,54,54,2,6,52,20,52,52,8,46,0,0,0,46,0,0,0,46,0,0,0,0,46,44,0,8,46,0,0,0,46,0,0,0,46,46,0,44,2,0,0,0,10,10,0,2,10,8,0,70,70,70,70,72,72,72,72,72,70,72,72,72,72,72,72,70,72,72,72,72,72,72,70,72,72,76,2,2,2,2,0,0,78,78,78,78,78,78,78,78,78,78,80,84,84,84,12,12,2,12,82,82,82,96,100,100,100,68,98,68,68,0,6,12,2,2,4,14,14,14,14,0,0,0,102,102,102,102,102,102,102,102,102,102,104,2,2,108,108,108,108,108,108,0,0,110,110,110,110,110,110,110,110,110,110,112,116,116,116,2,0,0,2,118,118,118,118,106,120,106,106,114,122,114,114,12,82,82,82,82,94,94,94,94,126,126,126,128,128,128,128,128,126,128,128,132,132,6,132,20,20,20,20,130,130,130,130,128,128,128,128,126,128,128,132,132,6,132,20,20,20,20,130,130,130,130,128,128,128,128,126,128,128,132,132,6,132,20,20,20,20,130,130,130,130,128,128,128,128,126,128,128,142,2,2,132,132,132,0,0,144,144,144,144,144,144,144,144,144,144,146,150,150,150,2,0,0,2,160,160,160,160,130,162,130,130,148,164,148,148]
noncomputable def atL3t:List Nat:=[1,11,21,23,24,28,30,31,33,36,38,40,41,42,60,64,66,68,70,71,81,91,93,95,99,101,103,105,109,118,125,132,147,149,151,155,157,159]
theorem kLaw1_ok (w:World) (b1 b2:Bool) (dd:Option Addr) (sl:Array (Option Value)) (S:Addr) (es:Nat) (p:LP) (is:Nat→List Int) (i0:Int) (n0:Nat) (q0:Nat×Nat) (H:AllG (Mo w b1 b2) (Kt w b1 b2) 252 (gsA (Pw w b1 b2) p (isW is [i0]) [q0] 0++gsB1 (Pw w b1 b2) p i0 n0 (wdP q0))):(kLaw dd sl S p.its es).Ok2 w b1 b2 294:=by
 cases b2
 ·exact Con.of2b 252 hsL1f _ [] (fun _ _ sg j=>match j with | 0=>tk 0 (sh3 fun j=>sg 13 (j+2)) 16 | 1=>tk 0 (sh3 fun j=>sg 13 (j+2)) 17 | _=>sg 4 8) (H.us atL1f)
 ·exact Con.of2b 252 hsL1t _ [] (fun _ _ sg j=>match j with | 0=>tk 0 (sh3 fun j=>sg 13 (j+2)) 16 | 1=>tk 0 (sh3 fun j=>sg 13 (j+2)) 17 | _=>sg 4 8) (H.us atL1t)
theorem kLaw2_ok (w:World) (b1 b2:Bool) (dd:Option Addr) (sl:Array (Option Value)) (S:Addr) (es:Nat) (p:LP) (is:Nat→List Int) (i0 i1:Int) (n0 n1:Nat) (q0 q1:Nat×Nat) (H:AllG (Mo w b1 b2) (Kt w b1 b2) 252 (gsA (Pw w b1 b2) p (isW is [i1,i0]) [q0,q1] 2++gsB2 (Pw w b1 b2) p i0 i1 n0 n1 (wdP q0) (wdP q1))):(kLaw dd sl S p.its es).Ok2 w b1 b2 294:=by
 cases b2
 ·exact Con.of2b 252 hsL2f _ [] (fun _ _ sg j=>match j with | 0=>tk 0 (sh3 fun j=>sg 13 (j+2)) 16 | 1=>tk 0 (sh3 fun j=>sg 13 (j+2)) 17 | _=>sg 4 8) (H.us atL2f)
 ·exact Con.of2b 252 hsL2t _ [] (fun _ _ sg j=>match j with | 0=>tk 0 (sh3 fun j=>sg 13 (j+2)) 16 | 1=>tk 0 (sh3 fun j=>sg 13 (j+2)) 17 | _=>sg 4 8) (H.us atL2t)
theorem kLaw3_ok (w:World) (b1 b2:Bool) (dd:Option Addr) (sl:Array (Option Value)) (S:Addr) (es:Nat) (p:LP) (is:Nat→List Int) (i0 i1 i2:Int) (n0 n1 n2:Nat) (q0 q1 q2:Nat×Nat) (H:AllG (Mo w b1 b2) (Kt w b1 b2) 252 (gsA (Pw w b1 b2) p (isW is [i2,i1,i0]) [q0,q1,q2] 4++gsB3 (Pw w b1 b2) p i0 i1 i2 n0 n1 n2 (wdP q0) (wdP q1) (wdP q2))):(kLaw dd sl S p.its es).Ok2 w b1 b2 294:=by
 cases b2
 ·exact Con.of2b 252 hsL3f _ [] (fun _ _ sg j=>match j with | 0=>tk 0 (sh3 fun j=>sg 13 (j+2)) 16 | 1=>tk 0 (sh3 fun j=>sg 13 (j+2)) 17 | _=>sg 4 8) (H.us atL3f)
 ·exact Con.of2b 252 hsL3t _ [] (fun _ _ sg j=>match j with | 0=>tk 0 (sh3 fun j=>sg 13 (j+2)) 16 | 1=>tk 0 (sh3 fun j=>sg 13 (j+2)) 17 | _=>sg 4 8) (H.us atL3t)
end Lw
end Mine
namespace Mine
noncomputable def occStep (l:List Nat) (c:Nat) (s:Array Nat×Nat) (i:Nat):Array Nat×Nat :=
 if (decide (s.1.size<l.length+1)&&decide (s.2≤i)&&decide (i+1≤l.length)&&Builtin.Str.subAt ⟨⟨l⟩⟩ ⟨#[c]⟩ i)=true then (s.1.push i,i+1) else s
theorem occ_for (l:List Nat) (c:Nat):∀ (rs:List Nat) (s:Array Nat×Nat),(forIn (m:=Id) rs s fun i s=>if (decide (s.1.size<l.length+1)&&decide (s.2≤i)&&decide (i+(⟨#[c]⟩:Str).length≤l.length)&&Builtin.Str.subAt ⟨⟨l⟩⟩ ⟨#[c]⟩ i)=true then pure (ForInStep.yield (s.1.push i,i+(⟨#[c]⟩:Str).length)) else pure (ForInStep.yield (s.1,s.2)))=rs.foldl (occStep l c) s
 | [],s=>rfl
 | i::rs,s=>by
  rw [List.forIn_cons,List.foldl_cons]
  have e:(⟨#[c]⟩:Str).length=1:=rfl
  by_cases h:(decide (s.1.size<l.length+1)&&decide (s.2≤i)&&decide (i+1≤l.length)&&Builtin.Str.subAt ⟨⟨l⟩⟩ ⟨#[c]⟩ i)=true
  ·have h1:occStep l c s i=(s.1.push i,i+1):=if_pos h
   rw [e,if_pos h,h1]
   exact occ_for l c rs _
  ·have h1:occStep l c s i=s:=if_neg h
   rw [e,if_neg h,h1]
   exact occ_for l c rs _
theorem subAt_is (l:List Nat) (c j:Nat) (h:j<l.length):Builtin.Str.subAt ⟨⟨l⟩⟩ ⟨#[c]⟩ j=(l[j]==c):=by
 unfold Builtin.Str.subAt
 have e:(⟨l⟩:Array Nat).extract j (j+(⟨#[c]⟩:Str).length)=#[l[j]]:=by
  apply Array.toList_inj.mp
  show ((⟨l⟩:Array Nat).extract j (j+1)).toList=_
  rw [Array.toList_extract]
  show (l.drop j).take (j+1-j)=[l[j]]
  rw [List.drop_eq_getElem_cons h,show j+1-j=1 by omega]
  rfl
 show ((⟨l⟩:Array Nat).extract j (j+(⟨#[c]⟩:Str).length)==#[c])=_
 rw [e]
 simp
theorem occ_count (l:List Nat) (c:Nat):∀ (m j:Nat) (a:Array Nat) (f:Nat),j+m=l.length+1→a.size≤j→f≤j→((List.range' j m).foldl (occStep l c) (a,f)).1.size=a.size+(l.drop j).count c
 | 0,j,a,f,h,_,_=>by
  have:l.drop j=[]:=List.drop_eq_nil_of_le (by omega)
  rw [this]; rfl
 | m+1,j,a,f,h,ha,hf=>by
  rw [List.range'_succ,List.foldl_cons]
  by_cases hj:j<l.length
  ·have hd:l.drop j=l[j]::l.drop (j+1):=List.drop_eq_getElem_cons hj
   have e:(decide (a.size<l.length+1)&&decide (f≤j)&&decide (j+1≤l.length)&&Builtin.Str.subAt ⟨⟨l⟩⟩ ⟨#[c]⟩ j)=(l[j]==c):=by
    rw [subAt_is l c j hj,decide_eq_true (by omega:a.size<l.length+1),decide_eq_true hf,decide_eq_true (by omega:j+1≤l.length)]
    rfl
   rw [hd,List.count_cons]
   by_cases q:(l[j]==c)=true
   ·have s:occStep l c (a,f) j=(a.push j,j+1):=if_pos (e.trans q)
    rw [s,occ_count l c m (j+1) _ _ (by omega) (by simp; omega) (Nat.le_refl _),if_pos q,Array.size_push]
    omega
   ·have s:occStep l c (a,f) j=(a,f):=if_neg (by rw [e]; exact q)
    rw [s,occ_count l c m (j+1) _ _ (by omega) (by omega) (by omega),if_neg q]
    omega
  ·have hd:l.drop j=[]:=List.drop_eq_nil_of_le (by omega)
   have hd':l.drop (j+1)=[]:=List.drop_eq_nil_of_le (by omega)
   have s:occStep l c (a,f) j=(a,f):=if_neg (by
    rw [decide_eq_false (by omega:¬ (j+1≤l.length))]
    simp)
   rw [s,occ_count l c m (j+1) _ _ (by omega) (by omega) (by omega),hd,hd']
theorem occ_is (l:List Nat) (c:Nat):(Builtin.Str.occurrences ⟨⟨l⟩⟩ ⟨#[c]⟩ 0 l.length (l.length+1)).length=l.count c:=by
 unfold Builtin.Str.occurrences
 simp only [Std.Legacy.Range.forIn_eq_forIn_range',Id.run]
 have sz:[:l.length+1].size=l.length+1:=by simp [Std.Legacy.Range.size]
 show List.length (Prod.fst (forIn (m:=Id) (List.range' 0 [:l.length+1].size) ((#[]:Array Nat),0) _)).toList=_
 rw [occ_for,sz]
 have:=occ_count l c (l.length+1) 0 #[] 0 (by omega) (Nat.le_refl _) (Nat.le_refl _)
 rw [Array.length_toList,this]
 simp
namespace Pl
open Mine.Lw
theorem fm (a b:Int) (hb:0<b):0≤a.fmod b∧a.fmod b<b:=⟨Int.fmod_nonneg_of_pos a hb,Int.fmod_lt_of_pos a hb⟩
noncomputable def blN (r:Int):Nat:=match r.toNat with
 | 0=>31
 | 1=>8
 | 2=>12
 | _=>9
noncomputable def lv (v:Nat→Int) (k:Nat):Nat:=1+((v k).fmod 3).toNat
noncomputable def wdOf (v:Nat→Int):WD:=⟨fun k=>(((v k).fdiv 6).fmod 3).toNat,lnO (lv v 0) (lv v 1) (lv v 2) (lv v 3) (lv v 4),fun k=>if ((v k).fdiv 3).fmod 2=1 then 64+k else 96+k,fun k=>blN (((v k).fdiv 18).fmod 4)⟩
theorem lv_in (v:Nat→Int) (k:Nat):lv v k∈L3:=by
 have:=fm (v k) 3 (by decide)
 have h:lv v k=1∨lv v k=2∨lv v k=3:=by unfold lv; omega
 rcases h with h | h | h<;>rw [h]<;>decide
theorem wdOf_L (v:Nat→Int) (k:Nat) (hk:k<5):(wdOf v).L k=lv v k:=by
 have:k=0∨k=1∨k=2∨k=3∨k=4:=by omega
 rcases this with rfl | rfl | rfl | rfl | rfl<;>rfl
theorem r4 {r:Int} (h:0≤r∧r<4):r=0∨r=1∨r=2∨r=3:=by omega
theorem r3 {r:Int} (h:0≤r∧r<3):r=0∨r=1∨r=2:=by omega
theorem wdOf_ok (v:Nat→Int):(wdOf v).Ok:=by
 refine ⟨fun k=>?_,fun k=>?_,fun k hk=>?_,fun k=>?_⟩
 ·have:=fm ((v k).fdiv 6) 3 (by decide)
  show (((v k).fdiv 6).fmod 3).toNat<3
  omega
 ·have h:∀ k,1≤lv v k∧lv v k≤3:=fun k=>by
   have:=fm (v k) 3 (by decide)
   unfold lv; omega
  show 1≤lnO (lv v 0) (lv v 1) (lv v 2) (lv v 3) (lv v 4) k∧lnO (lv v 0) (lv v 1) (lv v 2) (lv v 3) (lv v 4) k≤3
  unfold lnO
  split
  ·exact h 0
  ·exact h 1
  ·exact h 2
  ·exact h 3
  ·exact h 4
 ·show isLet (if ((v k).fdiv 3).fmod 2=1 then 64+k else 96+k)
  unfold isLet
  split<;>omega
 ·show isBl (blN (((v k).fdiv 18).fmod 4))
  rcases r4 (fm ((v k).fdiv 18) 4 (by decide)) with h | h | h | h<;>rw [h]
  ·exact .inl rfl
  ·exact .inr (.inl rfl)
  ·exact .inr (.inr (.inl rfl))
  ·exact .inr (.inr (.inr rfl))
theorem wdOf_let (v:Nat→Int):Let5 (wdOf v).c:=by
 refine ⟨(wdOf_ok v).c,fun k hk=>?_⟩
 show lw1 (if ((v k).fdiv 3).fmod 2=1 then 64+k else 96+k)=96+k
 have:k=0∨k=1∨k=2∨k=3∨k=4:=by omega
 rcases this with rfl | rfl | rfl | rfl | rfl<;>split<;>rfl
theorem dgp (n b:Int) (h:b=3∨b=6∨b=18):Builtin.divisionGoesByPylong n b=false:=by
 rcases h with rfl | rfl | rfl<;>rfl
theorem houses_ok (w:World) (b1 b2:Bool) (v:Nat→Int):HoOk w b1 b2 v (wdOf v).w:=by
 intro k hk t u
 have hC:sg1 (64+k)=upS (sg1 (96+k)):=by
  rw [(let_small (c:=96+k) (by omega)).2]
  have:k=0∨k=1∨k=2∨k=3∨k=4:=by omega
  rcases this with rfl | rfl | rfl | rfl | rfl<;>rfl
 have eW:(wdOf v).w k=wd (1+((v k).fmod 3).toNat) (if ((v k).fdiv 3).fmod 2=1 then 64+k else 96+k):=by
  show wd ((wdOf v).L k) _=_
  rw [wdOf_L v k hk]; rfl
 rw [eW]
 refine kHouse_ok w b1 b2 (96+k) (64+k) t (v k) u _ (dgp _ _ (.inl rfl)) hC ?_
 have h2:=fm ((v k).fdiv 3) 2 (by decide)
 by_cases g:((v k).fdiv 3).fmod 2=1
 ·refine .inl ⟨g,?_⟩
  show _∧wd (1+((v k).fmod 3).toNat) (if ((v k).fdiv 3).fmod 2=1 then 64+k else 96+k)=_∨_∧wd (1+((v k).fmod 3).toNat) (if ((v k).fdiv 3).fmod 2=1 then 64+k else 96+k)=_∨_∧wd (1+((v k).fmod 3).toNat) (if ((v k).fdiv 3).fmod 2=1 then 64+k else 96+k)=_
  rw [if_pos g]
  rcases r3 (fm (v k) 3 (by decide)) with h | h | h<;>rw [h]
  ·exact .inl ⟨rfl,rfl⟩
  ·exact .inr (.inl ⟨rfl,rfl⟩)
  ·exact .inr (.inr ⟨rfl,rfl⟩)
 ·refine .inr ⟨by omega,?_⟩
  show _∧wd (1+((v k).fmod 3).toNat) (if ((v k).fdiv 3).fmod 2=1 then 64+k else 96+k)=_∨_∧wd (1+((v k).fmod 3).toNat) (if ((v k).fdiv 3).fmod 2=1 then 64+k else 96+k)=_∨_∧wd (1+((v k).fmod 3).toNat) (if ((v k).fdiv 3).fmod 2=1 then 64+k else 96+k)=_
  rw [if_neg g]
  rcases r3 (fm (v k) 3 (by decide)) with h | h | h<;>rw [h]
  ·exact .inl ⟨rfl,rfl⟩
  ·exact .inr (.inl ⟨rfl,rfl⟩)
  ·exact .inr (.inr ⟨rfl,rfl⟩)
noncomputable def yOf (d:WD) (k:Nat):Str:=⟨⟨wr (d.f k) (d.L k) (d.c k) (d.b k+1)⟩⟩
theorem wr_ok (w:World) (b1 b2:Bool) (v:Nat→Int):WrOk w b1 b2 v (wdOf v).w (yOf (wdOf v)):=by
 intro k hk t u
 have O:=wdOf_ok v
 have hc:=O.c k hk
 show (kWr ((wdOf v).f k) ((wdOf v).L k) ((wdOf v).c k) ((wdOf v).b k+1) t (v k) u).Ok _ _ 42
 have hb:(seqIndex? (((v k).fdiv 18).fmod 4) blanks.length).bind (blanks.cps[·]?)=some ((wdOf v).b k+1):=by
  show _=some (blN (((v k).fdiv 18).fmod 4)+1)
  rcases r4 (fm ((v k).fdiv 18) 4 (by decide)) with h | h | h | h<;>rw [h]<;>decide +kernel
 have h4:=fm ((v k).fdiv 18) 4 (by decide)
 have h6:((v k).fdiv 6).fmod 3=((wdOf v).f k:Nat):=by
  have:=fm ((v k).fdiv 6) 3 (by decide)
  show _=(((((v k).fdiv 6).fmod 3).toNat:Nat):Int)
  omega
 have hs:∀ L,(wd L ((wdOf v).c k)).cps.all (·<128)=true:=by
  intro L
  show (⟨rep L ((wdOf v).c k)⟩:Array Nat).all (·<128)=true
  rw [List.all_toArray,List.all_eq_true]
  intro x hx
  have:x=(wdOf v).c k+1:=by
   induction L with
   | zero=>cases hx
   | succ L ih =>
    rcases List.mem_cons.mp hx with h | h
    ·exact h
    ·exact ih h
  rw [this]
  unfold isLet at hc
  simp; omega
 have hf:=O.f k
 have hL:=O.L k
 generalize (wdOf v).f k=f at *
 generalize (wdOf v).L k=L at *
 have e1:f=0∨f=1∨f=2:=by omega
 have e2:L=1∨L=2∨L=3:=by omega
 have p6:=dgp (v k) 6 (.inr (.inl rfl))
 have p18:=dgp (v k) 18 (.inr (.inr rfl))
 rcases e1 with rfl | rfl | rfl<;>rcases e2 with rfl | rfl | rfl
 ·exact kWr01_ok w b1 b2 _ _ t _ u _ p6 p18 h6 rfl (by omega) (by omega) hb (hs _)
 ·exact kWr02_ok w b1 b2 _ _ t _ u _ p6 p18 h6 rfl (by omega) (by omega) hb (hs _)
 ·exact kWr03_ok w b1 b2 _ _ t _ u _ p6 p18 h6 rfl (by omega) (by omega) hb (hs _)
 ·exact kWr11_ok w b1 b2 _ _ t _ u _ p6 p18 h6 rfl (by omega) (by omega) hb (hs _)
 ·exact kWr12_ok w b1 b2 _ _ t _ u _ p6 p18 h6 rfl (by omega) (by omega) hb (hs _)
 ·exact kWr13_ok w b1 b2 _ _ t _ u _ p6 p18 h6 rfl (by omega) (by omega) hb (hs _)
 ·exact kWr21_ok w b1 b2 _ _ t _ u _ p6 p18 h6 rfl (by omega) (by omega) hb (hs _)
 ·exact kWr22_ok w b1 b2 _ _ t _ u _ p6 p18 h6 rfl (by omega) (by omega) hb (hs _)
 ·exact kWr23_ok w b1 b2 _ _ t _ u _ p6 p18 h6 rfl (by omega) (by omega) hb (hs _)
noncomputable def wN (d:WD) (k:Nat):List Nat:=match d.f k with
 | 0=>reN (d.L k) (d.c k)++[d.b k]
 | 1=>33::(reN (d.L k) (d.c k)++[33,d.b k])
 | _=>esN (d.L k) (d.c k)++[d.b k]
theorem f3 (f:Nat):f=0∨f=1∨∃ n,f=n+2:=by
 rcases f with _ | _ | n
 ·exact .inl rfl
 ·exact .inr (.inl rfl)
 ·exact .inr (.inr ⟨n,rfl⟩)
theorem rep_reN (L c:Nat):rep L c=(reN L c).map (·+1):=by
 induction L with
 | zero=>rfl
 | succ L ih=>rw [rep,reN,List.map_cons,ih]
theorem esc_esN (L c:Nat):esc L c=(esN L c).map (·+1):=by
 induction L with
 | zero=>rfl
 | succ L ih=>rw [esc,esN,List.map_cons,List.map_cons,ih]
theorem yOf_wN (d:WD) (k:Nat):(yOf d k).cps.toList=(wN d k).map (·+1):=by
 show wr (d.f k) (d.L k) (d.c k) (d.b k+1)=_
 unfold wN
 rcases f3 (d.f k) with h | h | ⟨n,h⟩<;>rw [h]
 ·show rep _ _++[d.b k+1]=(reN (d.L k) (d.c k)++[d.b k]).map (·+1)
  rw [rep_reN,List.map_append]; rfl
 ·show 34::(rep _ _++[34,d.b k+1])=(33::(reN (d.L k) (d.c k)++[33,d.b k])).map (·+1)
  rw [rep_reN,List.map_cons,List.map_append]; rfl
 ·show esc _ _++[d.b k+1]=(esN (d.L k) (d.c k)++[d.b k]).map (·+1)
  rw [esc_esN,List.map_append]; rfl
noncomputable def wNs (d:WD):Nat→Nat→List Nat
 | 0,_=>[]
 | m+1,k=>wN d k++wNs d m (k+1)
theorem st_wN (d:WD):∀ m k,d.st m k=ldN (d.ld k) (wNs d m k)
 | 0,k=>rfl
 | m+1,k=>by
  rw [WD.st,st_wN d m (k+1),WD.fo]
  have e:d.ld (k+1)=match d.f k with
   | 1=>some (d.b k)
   | _=>none:=rfl
  have h:foN (d.f k) (d.L k) (d.c k) (d.b k)++ldN (d.ld (k+1)) (wNs d m (k+1))=wNs d (m+1) k:=by
   rw [e,wNs]
   unfold wN
   rcases f3 (d.f k) with h | h | ⟨n,h⟩<;>rw [h]
   ·rfl
   ·show 33::(reN (d.L k) (d.c k)++[33])++d.b k::wNs d m (k+1)=33::(reN (d.L k) (d.c k)++[33,d.b k])++wNs d m (k+1)
    simp
   ·rfl
  rw [← h]
  cases d.ld k<;>rfl
theorem text_is (d:WD):catS [yOf d 0,yOf d 1,yOf d 2,yOf d 3,yOf d 4]=tx (d.st 5 0):=by
 have e:d.st 5 0=wNs d 5 0:=st_wN d 5 0
 rw [e]
 show (⟨⟨_⟩⟩:Str)=⟨⟨_⟩⟩
 congr 2
 simp [yOf_wN,wNs]
theorem nlB_count (b:Nat) (h:isBl b):nlB b=(([b].count 9:Nat):Int):=by
 rcases h with rfl | rfl | rfl | rfl<;>rfl
theorem wN_count {d:WD} (h:d.Ok) (k:Nat) (hk:k<5):((wN d k).count 9:Int)=nlB (d.b k):=by
 have hc:=h.c k hk
 unfold isLet at hc
 have c9:¬ d.c k=9:=by omega
 have a:∀ L,(reN L (d.c k)).count 9=0:=by
  intro L; induction L with
  | zero=>rfl
  | succ L ih=>rw [reN,List.count_cons,ih]; simp [c9]
 have b:∀ L,(esN L (d.c k)).count 9=0:=by
  intro L; induction L with
  | zero=>rfl
  | succ L ih=>rw [esN,List.count_cons,List.count_cons,ih]; simp [c9]
 rw [nlB_count _ (h.b k)]
 unfold wN
 rcases f3 (d.f k) with h | h | ⟨n,h⟩<;>rw [h]
 ·show (((reN (d.L k) (d.c k)++[d.b k]).count 9:Nat):Int)=_
  rw [List.count_append,a,Nat.zero_add]
 ·show (((33::(reN (d.L k) (d.c k)++[33,d.b k])).count 9:Nat):Int)=_
  rw [List.count_cons,List.count_append,a,List.count_cons (a:=9) (b:=33)]
  simp
 ·show (((esN (d.L k) (d.c k)++[d.b k]).count 9:Nat):Int)=_
  rw [List.count_append,b,Nat.zero_add]
theorem wNs_count {d:WD} (h:d.Ok):∀ m k,k+m≤5→∀ n:Int,d.n n k+nlL (d.ld k)+((wNs d m k).count 9:Int)=d.n n (k+m)+nlL (d.ld (k+m))
 | 0,k,_,n=>by simp [wNs]
 | m+1,k,hk,n=>by
  have ih:=wNs_count h m (k+1) (by omega) n
  rw [show k+(m+1)=k+1+m by omega,← ih,wNs,List.count_append]
  have w:=wN_count h k (by omega)
  have e:d.n n (k+1)+nlL (d.ld (k+1))=d.n n k+nlL (d.ld k)+nlB (d.b k):=by
   show nA (d.ld k) (d.f k) (d.b k) (d.n n k)+nlL (match d.f k with
    | 1=>some (d.b k)
    | _=>none)=_
   rcases f3 (d.f k) with h | h | ⟨j,h⟩<;>rw [h]<;>cases d.ld k
   ·show d.n n k+nlB (d.b k)+0=d.n n k+0+nlB (d.b k)
    omega
   ·rename_i b
    show d.n n k+nlB b+nlB (d.b k)+0=d.n n k+nlB b+nlB (d.b k)
    omega
   ·show d.n n k+nlB (d.b k)=d.n n k+0+nlB (d.b k)
    omega
   ·rename_i b
    show d.n n k+nlB b+nlB (d.b k)=d.n n k+nlB b+nlB (d.b k)
    rfl
   ·show d.n n k+nlB (d.b k)+0=d.n n k+0+nlB (d.b k)
    omega
   ·rename_i b
    show d.n n k+nlB b+nlB (d.b k)+0=d.n n k+nlB b+nlB (d.b k)
    omega
  push_cast
  omega
end Pl
end Mine
namespace Mine
namespace Pl
open Mine.Lw
noncomputable def fP (ln cc:Nat→Nat) (i:Nat):Nat×Nat:=(ln i,cc i)
noncomputable def pkH (ln:Nat→Nat) (ps:List Nat) (w:Nat):List Nat:=(ps.filter fun q=>Nat.ble (ln q) (ln w)).reverse
section
variable (ln cc:Nat→Nat)
theorem tK_map (ps:List Nat) (w:Nat):tK (ps.map (fP ln cc)) (fP ln cc w)=(pkK ln ps w).map (fP ln cc):=by
 unfold tK pkK
 rw [List.filter_map]
 rfl
theorem tP_map (ps:List Nat) (w:Nat):tP (ps.map (fP ln cc)) (fP ln cc w)=(pkP ln ps w).map (fP ln cc):=by
 unfold tP pkP
 rw [tK_map,List.map_append]
 rfl
theorem tH_map (ps:List Nat) (w:Nat):tH (ps.map (fP ln cc)) (fP ln cc w)=(pkH ln ps w).map (fP ln cc):=by
 unfold tH pkH
 rw [List.filter_map,← List.map_reverse]
 rfl
theorem lnP_map:∀ ps:List Nat,lnP (ps.map (fP ln cc))=sumN ln ps
 | []=>rfl
 | i::l=>by rw [List.map_cons,lnP,lnP_map l]; rfl
theorem rep_rep (L c:Nat):rep L c=(List.replicate L c).map (·+1):=by
 induction L with
 | zero=>rfl
 | succ L ih=>rw [rep,List.replicate_succ,List.map_cons,ih]
theorem sgP_map:∀ ps:List Nat,sgP (ps.map (fP ln cc))=((exL ln ps).map cc).map (·+1)
 | []=>rfl
 | i::l=>by
  rw [List.map_cons,sgP,sgP_map l,exL,List.map_append,List.map_append,List.map_replicate]
  congr 1
  exact rep_rep _ _
theorem txP_map (ps:List Nat):txP (ps.map (fP ln cc))=tx ((exL ln ps).map cc):=by
 unfold txP tx
 rw [sgP_map]
theorem step (k:Nat):tP ((pk ln k).map (fP ln cc)) (fP ln cc (k+1))=(pk ln (k+1)).map (fP ln cc):=tP_map ln cc _ _
noncomputable abbrev ws4':List (Nat×Nat):=[fP ln cc 1,fP ln cc 2,fP ln cc 3,fP ln cc 4]
theorem wP_is:wP [fP ln cc 0] (ws4' ln cc)=(pk ln 4).map (fP ln cc):=by
 show tP (tP (tP (tP ((pk ln 0).map (fP ln cc)) (fP ln cc (0+1))) (fP ln cc (1+1))) (fP ln cc (2+1))) (fP ln cc (3+1))=_
 rw [step,step,step,step]
theorem wLk_is:wdP (fP ln cc 0)::wLk [fP ln cc 0] (ws4' ln cc)=[tx (lk ln cc 0),tx (lk ln cc 1),tx (lk ln cc 2),tx (lk ln cc 3),tx (lk ln cc 4)]:=by
 have e:wdP (fP ln cc 0)=tx (lk ln cc 0):=by
  rw [show tx (lk ln cc 0)=txP ([0].map (fP ln cc)) from (txP_map ln cc [0]).symm]
  show (⟨⟨rep _ _⟩⟩:Str)=⟨⟨rep _ _++[]⟩⟩
  rw [List.append_nil]
 rw [e]
 show [_,txP (tP ((pk ln 0).map (fP ln cc)) (fP ln cc (0+1))),txP (tP (tP ((pk ln 0).map (fP ln cc)) (fP ln cc (0+1))) (fP ln cc (1+1))),txP (tP (tP (tP ((pk ln 0).map (fP ln cc)) (fP ln cc (0+1))) (fP ln cc (1+1))) (fP ln cc (2+1))),txP (tP (tP (tP (tP ((pk ln 0).map (fP ln cc)) (fP ln cc (0+1))) (fP ln cc (1+1))) (fP ln cc (2+1))) (fP ln cc (3+1)))]=_
 rw [step,step,step,step,txP_map,txP_map,txP_map,txP_map]
 rfl
theorem wLw_is:(0:Int)::wLw [fP ln cc 0] (ws4' ln cc)=lows ln:=by
 show [(0:Int),(lnP (tK ((pk ln 0).map (fP ln cc)) (fP ln cc (0+1))):Nat),(lnP (tK (tP ((pk ln 0).map (fP ln cc)) (fP ln cc (0+1))) (fP ln cc (1+1))):Nat),(lnP (tK (tP (tP ((pk ln 0).map (fP ln cc)) (fP ln cc (0+1))) (fP ln cc (1+1))) (fP ln cc (2+1))):Nat),(lnP (tK (tP (tP (tP ((pk ln 0).map (fP ln cc)) (fP ln cc (0+1))) (fP ln cc (1+1))) (fP ln cc (2+1))) (fP ln cc (3+1))):Nat)]=_
 rw [step,step,step,tK_map,tK_map,tK_map,tK_map,lnP_map,lnP_map,lnP_map,lnP_map]
 rfl
noncomputable def hidN:List Nat:=pkH ln (pk ln 0) 1++pkH ln (pk ln 1) 2++pkH ln (pk ln 2) 3++pkH ln (pk ln 3) 4
theorem wH_is:wH [fP ln cc 0] (ws4' ln cc)=(hidN ln).map fun i=>wd (ln i) (cc i):=by
 show (tH ((pk ln 0).map (fP ln cc)) (fP ln cc (0+1))).map wdP++((tH (tP ((pk ln 0).map (fP ln cc)) (fP ln cc (0+1))) (fP ln cc (1+1))).map wdP++((tH (tP (tP ((pk ln 0).map (fP ln cc)) (fP ln cc (0+1))) (fP ln cc (1+1))) (fP ln cc (2+1))).map wdP++((tH (tP (tP (tP ((pk ln 0).map (fP ln cc)) (fP ln cc (0+1))) (fP ln cc (1+1))) (fP ln cc (2+1))) (fP ln cc (3+1))).map wdP++[])))=_
 rw [step,step,step,tH_map,tH_map,tH_map,tH_map,List.append_nil]
 unfold hidN
 rw [List.map_append,List.map_append,List.map_append,List.map_map,List.map_map,List.map_map,List.map_map,List.append_assoc,List.append_assoc]
 rfl
end
noncomputable def hidB (ln:Nat→Nat):Bool:=decide (hidN ln=(hidI (sI ln 1) (sI ln 0).reverse++hidI (sI ln 2) (sI ln 1).reverse++hidI (sI ln 3) (sI ln 2).reverse++hidI (sI ln 4) (sI ln 3).reverse).map Int.toNat)&&Nat.ble (hidN ln).length 6&&(hidN ln).all (Nat.blt · 5)
theorem hid243:(L3.all fun l0=>L3.all fun l1=>L3.all fun l2=>L3.all fun l3=>L3.all fun l4=>hidB (lnO l0 l1 l2 l3 l4))=true:=by decide +kernel
structure HidG (ln:Nat→Nat):Prop where
 is:hidN ln=(hidI (sI ln 1) (sI ln 0).reverse++hidI (sI ln 2) (sI ln 1).reverse++hidI (sI ln 3) (sI ln 2).reverse++hidI (sI ln 4) (sI ln 3).reverse).map Int.toNat
 le:(hidN ln).length≤6
 h5:∀ x∈hidN ln,x<5
theorem facts (l0 l1 l2 l3 l4:Nat) (h0:l0∈L3) (h1:l1∈L3) (h2:l2∈L3) (h3:l3∈L3) (h4:l4∈L3):Facts (lnO l0 l1 l2 l3 l4)∧HidG (lnO l0 l1 l2 l3 l4):=by
 have a:=all243
 have b:=hid243
 simp only [List.all_eq_true] at a b
 have a:=a l0 h0 l1 h1 l2 h2 l3 h3 l4 h4
 have b:=b l0 h0 l1 h1 l2 h2 l3 h3 l4 h4
 unfold allB at a
 rw [Bool.and_eq_true,List.all_eq_true,List.all_eq_true] at a
 refine ⟨⟨fun i j hij hj=>pair_of ?_,fun k hk=>row_of ?_⟩,?_⟩
 ·have:(i=0∧j=1)∨(i=0∧j=2)∨(i=1∧j=2)∨(i=0∧j=3)∨(i=1∧j=3)∨(i=2∧j=3)∨(i=0∧j=4)∨(i=1∧j=4)∨(i=2∧j=4)∨(i=3∧j=4):=by omega
  refine a.1 (i,j) ?_
  rcases this with ⟨rfl,rfl⟩ | ⟨rfl,rfl⟩ | ⟨rfl,rfl⟩ | ⟨rfl,rfl⟩ | ⟨rfl,rfl⟩ | ⟨rfl,rfl⟩ | ⟨rfl,rfl⟩ | ⟨rfl,rfl⟩ | ⟨rfl,rfl⟩ | ⟨rfl,rfl⟩<;>decide
 ·refine a.2 k ?_
  rcases five hk with rfl | rfl | rfl | rfl | rfl<;>decide
 ·unfold hidB at b
  simp only [Bool.and_eq_true,decide_eq_true_eq,List.all_eq_true] at b
  exact ⟨b.1.1,Nat.le_of_ble_eq_true b.1.2,fun x hx=>Nat.blt_eq.mp (b.2 x hx)⟩
end Pl
end Mine
namespace Mine
namespace Pl
open Mine.Lw
open Mine.Td (RW z100)
section
variable {prog:Program} {w:World} {kt:Addr→Option Obj} {x:Nat}
theorem ne_same (l b:Addr) (ps qs:List (Str×Tok)) (its its2:List Value) (n n2:Nat) (d d2:Option Addr) (sl sl2:Array (Option Value)) (h1:its=strValues ps) (h2:its2=strValues qs) (h:ps.map (·.1)=qs.map (·.1)) :
  (kNeL l b ⟨.type "list",d,.seq ⟨its⟩ n,sl⟩ ⟨.type "list",d2,.seq ⟨its2⟩ n2,sl2⟩ false).Ok (model prog w) kt x:=by
 subst h1; subst h2
 have hz:ps.length=qs.length:=by have:=congrArg List.length h; simpa using this
 have sz:∀ l:List (Str×Tok),(⟨strValues l⟩:Array Value).size=l.length:=fun l=>by show (l.map _).length=_; simp
 refine kNeL_ok l b _ _ n n2 d d2 sl sl2 (by rw [sz,sz,hz]) (fun _=>true) (fun j j1 j2=>?_) false (by simp)
 rw [sz] at j1 j2
 have e1:(⟨strValues ps⟩:Array Value)[j]=.str ps[j].1 ps[j].2:=by
  show (strValues ps)[j]=_
  simp [strValues]
 have e2:(⟨strValues qs⟩:Array Value)[j]=.str qs[j].1 qs[j].2:=by
  show (strValues qs)[j]=_
  simp [strValues]
 have e:ps[j].1=qs[j].1:=by
  have:=congrArg (fun L=>L[j]?) h
  simpa [j1,j2] using this
 rw [e1,e2,e]
 have:=EqGives.str qs[j].1 qs[j].1 ps[j].2 qs[j].2
 rw [decide_eq_true rfl] at this
 exact this
end
theorem v5_sv (r:Nat→Str) (t:Nat→Tok):v5 r t=strValues [(r 0,t 0),(r 1,t 1),(r 2,t 2),(r 3,t 3),(r 4,t 4)]:=rfl
theorem v5_at (r:Nat→Str) (t:Nat→Tok) (n:Nat) (h:n<5):(v5 r t)[n]?=some (.str (r n) (t n)):=by
 rcases five h with rfl | rfl | rfl | rfl | rfl<;>rfl
theorem apV_app:∀ (vs its:List Value),apV its vs=its++vs
 | [],its=>by simp [apV]
 | v::vs,its=>by rw [apV,apV_app vs]; simp
theorem valH_sv (r:Nat→Str) (t:Nat→Tok) (is:List Int) (h:∀ v∈is,∃ vn:Nat,v=vn∧vn<5):valH (v5 r t) is=strValues (is.map fun v=>(r v.toNat,t v.toNat)):=by
 unfold valH strValues
 rw [List.map_map]
 apply List.map_congr_left
 intro v hv
 obtain ⟨n,e,hn⟩:=h v hv
 have:v.toNat=n:=by omega
 show ((v5 r t)[v.toNat]?).getD .none=.str (r v.toNat) (t v.toNat)
 rw [this,v5_at r t n hn]
 rfl
theorem cat_exL (ln cc:Nat→Nat):∀ l:List Nat,catS (l.map fun i=>wd (ln i) (cc i))=tx ((exL ln l).map cc):=by
 have h:∀ l:List Nat,((l.map fun i=>wd (ln i) (cc i)).map fun s=>s.cps.toList).flatten=((exL ln l).map cc).map (·+1):=by
  intro l
  induction l with
  | nil=>rfl
  | cons i l ih =>
   rw [List.map_cons,List.map_cons,List.flatten_cons,ih,exL,List.map_append,List.map_append,List.map_replicate]
   congr 1
   exact rep_rep _ _
 intro l
 show (⟨⟨_⟩⟩:Str)=⟨⟨_⟩⟩
 rw [h]
theorem tl_out (ps:List (Str×Tok)) (h:ps.length≤6):[hdX (tlN 0 ps),hdX (tlN 1 ps),hdX (tlN 2 ps),hdX (tlN 3 ps),hdX (tlN 4 ps),hdX (tlN 5 ps)]=ps.map (·.1)++List.replicate (6-ps.length) st0:=by
 match ps,h with
 | [],_=>rfl
 | [_],_=>rfl
 | [_,_],_=>rfl
 | [_,_,_],_=>rfl
 | [_,_,_,_],_=>rfl
 | [_,_,_,_,_],_=>rfl
 | [_,_,_,_,_,_],_=>rfl
 | _::_::_::_::_::_::_::_,h=>simp at h
theorem strV_app (a b:List (Str×Tok)):strValues (a++b)=strValues a++strValues b:=by simp [strValues]
theorem strV_rep (n:Nat) (t:Tok):List.replicate n (.str st0 t)=strValues (List.replicate n (st0,t)):=by simp [strValues]
theorem zt_len (rs:List Str) (f:Nat→Tok):(zt rs f).length=rs.length:=by
 have:=congrArg List.length (zt_fst rs f)
 simpa using this
theorem hidI_sub (js:List Int):∀ is:List Int,∀ v∈hidI js is,v∈is
 | [],v,h=>by cases h
 | x::r,v,h=>by
  unfold hidI at h
  split at h
  ·exact .tail _ (hidI_sub js r v h)
  ·rcases List.mem_cons.mp h with rfl | h
   ·exact .head _
   ·exact .tail _ (hidI_sub js r v h)
noncomputable def lpOf (its:List Value) (v:Nat→Int):LP :=
 {its:=its,v:=v,d:=wdOf v,y:=yOf (wdOf v),e0:=epL ((wdOf v).st 5 0).tail 1,cnt:=(((((wdOf v).st 5 0).map (·+1)).count 10:Nat):Int),s1:=1+(((((wdOf v).st 5 0).map (·+1)).count 10:Nat):Int),
  lk:=fun k=>tx (lk (wdOf v).L (wdOf v).c k),lo:=fun k=>(low (wdOf v).L k:Nat),hid:=(hidN (wdOf v).L).map (wdOf v).w,bd:=(v 5).fmod 13,hn:=((hidN (wdOf v).L).length:Nat),mn:=((6-(hidN (wdOf v).L).length:Nat):Int),mm:=6-(hidN (wdOf v).L).length}
section
variable (w:World) (b1 b2:Bool) (v:Nat→Int) (its:List Value)
theorem factsOf:Facts (wdOf v).L∧HidG (wdOf v).L:=facts _ _ _ _ _ (lv_in v 0) (lv_in v 1) (lv_in v 2) (lv_in v 3) (lv_in v 4)
theorem g1_ok:(g1 (Pw w b1 b2) (lpOf its v)).Ok2 w b1 b2 84:=fam1_ok fun _ _=>kCh_ok w b1 b2 _ _ _ _ _ _ _ _ _ _ (houses_ok w b1 b2 v)
theorem g2_ok:(g2 (Pw w b1 b2) (lpOf its v)).Ok2 w b1 b2 84:=fam1_ok fun _ _=>kCw_ok w b1 b2 _ _ _ _ _ _ _ _ _ _ _ _ _ _ _ (wr_ok w b1 b2 v)
theorem text_len:((wdOf v).st 5 0).length≤46:=WD.st_len (wdOf_ok v) 5 0
theorem g3_ok:(g3 (lpOf its v)).Ok2 w b1 b2 84:=fam1_ok fun _ os=>kJoinE_ok _ _ [(yOf (wdOf v) 0,vT os 0 0),(yOf (wdOf v) 1,vT os 0 1),(yOf (wdOf v) 2,vT os 0 2),(yOf (wdOf v) 3,vT os 0 3),(yOf (wdOf v) 4,vT os 0 4)] _ _ _ _ _ rfl (text_is (wdOf v)) (by
 have:=text_len v
 show (tx ((wdOf v).st 5 0)).length≤100000
 rw [Td.tx_len]; omega)
theorem text_small (d:WD) (h:d.Ok):∀ m k,k+m≤5→∀ x∈wNs d m k,x<127
 | 0,_,_,x,hx=>by cases hx
 | m+1,k,hk,x,hx=>by
  rw [wNs,List.mem_append] at hx
  rcases hx with hx | hx
  ·have hc:=h.c k (by omega)
   have hb:=h.b k
   unfold isLet at hc
   unfold isBl at hb
   have a:∀ L,∀ y∈reN L (d.c k),y<127:=by
    intro L; induction L with
    | zero=>intro y hy; cases hy
    | succ L ih =>
     intro y hy
     rcases List.mem_cons.mp hy with rfl | hy
     ·omega
     ·exact ih y hy
   have b:∀ L,∀ y∈esN L (d.c k),y<127:=by
    intro L; induction L with
    | zero=>intro y hy; cases hy
    | succ L ih =>
     intro y hy
     rcases List.mem_cons.mp hy with rfl | hy
     ·omega
     ·rcases List.mem_cons.mp hy with rfl | hy
      ·omega
      ·exact ih y hy
   unfold wN at hx
   rcases f3 (d.f k) with q | q | ⟨n,q⟩<;>rw [q] at hx
   ·have hx:x∈reN (d.L k) (d.c k)++[d.b k]:=hx
    rcases List.mem_append.mp hx with h | h
    ·exact a _ x h
    ·rw [List.mem_singleton.mp h]; omega
   ·have hx:x∈33::(reN (d.L k) (d.c k)++[33,d.b k]):=hx
    rcases List.mem_cons.mp hx with rfl | h
    ·omega
    ·rcases List.mem_append.mp h with h | h
     ·exact a _ x h
     ·rcases List.mem_cons.mp h with rfl | h
      ·omega
      ·rw [List.mem_singleton.mp h]; omega
   ·have hx:x∈esN (d.L k) (d.c k)++[d.b k]:=hx
    rcases List.mem_append.mp hx with h | h
    ·exact b _ x h
    ·rw [List.mem_singleton.mp h]; omega
  ·exact text_small d h m (k+1) (by omega) x hx
theorem g4_ok:(g4 (Pw w b1 b2) (lpOf its v)).Ok2 w b1 b2 126:=fam1_ok fun c _=>by
 have e:(wdOf v).st 5 0=wNs (wdOf v) 5 0:=st_wN (wdOf v) 5 0
 have hs:=text_small (wdOf v) (wdOf_ok v) 5 0 (by decide)
 have hl:=text_len v
 have ne:(wdOf v).st 5 0≠[]:=by
  rw [e,wNs]
  unfold wN
  rcases f3 ((wdOf v).f 0) with q | q | ⟨n,q⟩<;>rw [q]<;>simp
 obtain ⟨c0,rem,h⟩:=List.exists_cons_of_ne_nil ne
 show (kLex _ ((wdOf v).st 5 0) (epL ((wdOf v).st 5 0).tail 1) _).Ok _ _ _
 rw [← e] at hs
 rw [h] at hs hl ⊢
 refine kLex_ok w b1 b2 c0 rem _ ?_ (by simp at hl; omega)
 show (⟨(c0::rem).map (·+1)⟩:Array Nat).all (·<128)=true
 rw [List.all_toArray,List.all_eq_true]
 intro x hx
 obtain ⟨y,hy,rfl⟩:=List.mem_map.mp hx
 have:=hs y hy
 simp; omega
theorem g5_ok:(g5 (Pw w b1 b2) (lpOf its v)).Ok2 w b1 b2 210:=fam2_ok fun _ _ _=>kCt_ok w b1 b2 _ _ _ _ _ _ _ _ _ _ _ _ _ _ _ (wdOf_ok v)
theorem g6_ok:(g6 (lpOf its v)).Ok2 w b1 b2 84:=fam1_ok fun _ _=>ne_same _ _ _ _ _ _ _ _ _ _ _ _ (v5_sv _ _) (v5_sv _ _) rfl
theorem g7_ok:(g7 (Pw w b1 b2) (lpOf its v)).Ok2 w b1 b2 169:=fam2_ok fun _ _ _=>kEnd_ok w b1 b2 _ _ _ _ _ _ _ (WD.ld_ok (wdOf_ok v) 5)
theorem g9_ok:(fCount (tx ((wdOf v).st 5 0)) nl1 (lpOf its v).cnt).Ok2 w b1 b2 84:=fCount_ok (by
 have h:=occ_is (((wdOf v).st 5 0).map (·+1)) 10
 have e:nl1=⟨#[10]⟩:=by decide +kernel
 rw [e,Td.tx_len]
 rw [List.length_map] at h
 show ((((((wdOf v).st 5 0).map (·+1)).count 10:Nat)):Int)=_
 rw [← h]
 rfl)
theorem n_is:(lpOf its v).n'=(lpOf its v).s1:=by
 have h:=wNs_count (wdOf_ok v) 5 0 (by decide) 1
 have e:(wdOf v).st 5 0=wNs (wdOf v) 5 0:=st_wN (wdOf v) 5 0
 have a:(lpOf its v).n'=(wdOf v).n 1 5+nlL ((wdOf v).ld 5):=by
  show nA ((wdOf v).ld 5) 1 0 ((wdOf v).n 1 5)=_
  cases (wdOf v).ld 5 with
  | none=>show _=_+0; rw [Int.add_zero]; rfl
  | some b=>rfl
 have b:((((wdOf v).st 5 0).map (·+1)).count 10)=(wNs (wdOf v) 5 0).count 9:=by
  rw [e]
  generalize wNs (wdOf v) 5 0=l
  induction l with
  | nil=>rfl
  | cons x l ih =>
   rw [List.map_cons,List.count_cons,List.count_cons,ih]
   congr 1
   by_cases q:x=9
   ·subst q; rfl
   ·have:¬ x+1=10:=by omega
    simp [q,this]
 rw [a]
 show _=1+(((((wdOf v).st 5 0).map (·+1)).count 10:Nat):Int)
 rw [b]
 have h:(1:Int)+0+((wNs (wdOf v) 5 0).count 9:Int)=(wdOf v).n 1 5+nlL ((wdOf v).ld 5):=h
 omega
theorem g11_ok:(fII "int.__ne__" (lpOf its v).n' (lpOf its v).s1 false).Ok2 w b1 b2 84:=int_ne_ok (by rw [n_is]; simp)
end
end Pl
end Mine
namespace Mine
namespace Pl
open Mine.Lw
open Mine.Td (RW z100)
section
variable (w:World) (b1 b2:Bool) (v:Nat→Int) (its:List Value)
theorem hsOk (t:Nat→Tok):Sn.HsOk (v5 (wdOf v).w t) (wdOf v).L 5:=by
 refine ⟨by show 5≤100; decide,fun k hk=>⟨(wdOf v).w k,t k,v5_at _ _ k hk,?_⟩⟩
 have a:∀ L c,(wd L c).length=L:=by
  intro L c
  show (rep L c).length=L
  rw [rep_rep]; simp
 have h:((wdOf v).w k).length=(wdOf v).L k:=a _ _
 exact ⟨h,by rw [h]; have:=(wdOf_ok v).L k; omega⟩
theorem g14_ok:(g14 (Pw w b1 b2) (lpOf its v) (sI (wdOf v).L)).Ok2 w b1 b2 210:=fam1_ok fun _ os =>
 kCs_ok w b1 b2 _ _ _ _ _ _ _ _ _ fun k kI hk hkI H eh t=>Sn.kSeen_ok w b1 b2 H _ eh kI t (wdOf v).L 5 k (hsOk v _) hk (by decide) hkI
theorem sI5 (k:Nat) (hk:k<5):∀ x∈sI (wdOf v).L k,∃ n:Nat,x=n∧n<5:=((factsOf v).1.row k hk).v
theorem row_cat (k:Nat) (hk:k<5):catS (((sI (wdOf v).L k).map fun x=>((wdOf v).w x.toNat)))=tx (lk (wdOf v).L (wdOf v).c k):=by
 have R:=(factsOf v).1.row k hk
 have:=cat_exL (wdOf v).L (wdOf v).c (pk (wdOf v).L k)
 rw [R.pk] at this
 unfold sN at this
 rw [List.map_map] at this
 refine Eq.trans ?_ (this.trans ?_)
 ·rfl
 ·unfold lk; rw [R.pk]; rfl
theorem lk_len (k:Nat) (hk:k<5):(tx (lk (wdOf v).L (wdOf v).c k)).length≤6:=by
 rw [Td.tx_len]
 unfold lk
 rw [List.length_map,exL_length]
 exact ((factsOf v).1.row k hk).su
theorem g15_ok:(g15 (Pw w b1 b2) (lpOf its v) (sI (wdOf v).L)).Ok2 w b1 b2 126:=fam2_ok fun c os px=>by
 have R:∀ k,∃ q:Int×Int,k<5→∀ (o:RO) (f:Nat→Tok),o.hs=v5 (wdOf v).w (vT os 1)→o.rv=nlV [] (sI (wdOf v).L k) f→∀ I A D ea,(kRo0 (Pw w b1 b2) o I A D 0 [] ea (valH (v5 (wdOf v).w (vT os 1)) (sI (wdOf v).L k)) q.1 q.2).Ok2 w b1 b2 84:=fun k=>by
  by_cases hk:k<5
  ·have R:=(factsOf v).1.row k hk
   obtain ⟨v',k',H⟩:=roStart w b1 b2 (v5 (wdOf v).w (vT os 1)) (sI (wdOf v).L k) R.v rfl R.ne (Nat.le_trans R.le (by decide))
   exact ⟨(v',k'),fun _=>H⟩
  ·exact ⟨(0,0),fun h=>absurd h hk⟩
 obtain ⟨q,hq⟩:=Classical.axiomOfChoice R
 refine kCl1_ok w b1 b2 _ _ _ _ _ (fun k=>valH (v5 (wdOf v).w (vT os 1)) (sI (wdOf v).L k)) _ (fun k=>(q k).1) (fun k=>(q k).2) ⟨fun k hk=>fam1_ok fun _ os'=>hq k hk _ (fun n=>decR (pxN px 0) k (n+2)) rfl rfl _ _ _ _,fun k hk=>fam1_ok fun _ os'=>?_⟩
 have e:apV [] (valH (v5 (wdOf v).w (vT os 1)) (sI (wdOf v).L k))=strValues ((sI (wdOf v).L k).map fun x=>((wdOf v).w x.toNat,vT os 1 x.toNat)):=by
  rw [apV_app,List.nil_append,valH_sv _ _ _ (sI5 v k hk)]
 refine kJoinE_ok _ _ _ _ _ _ _ _ e ?_ ?_
 ·rw [List.map_map]; exact row_cat v k hk
 ·have:=lk_len v k hk
  show (tx (lk (wdOf v).L (wdOf v).c k)).length≤100000
  omega
theorem lkV_sv (t:Nat→Tok):lkV (lpOf its v) t=strValues (zt (lk5 (lpOf its v)) t):=by
 unfold lkV
 rw [glV_zt,List.nil_append]
theorem g16_ok:(g16 (lpOf its v)).Ok2 w b1 b2 84:=fam2_ok fun _ _ _=>ne_same _ _ _ _ _ _ _ _ _ _ _ _ (lkV_sv v its _) (v5_sv _ _) rfl
theorem g17_ok:(g17 (lpOf its v)).Ok2 w b1 b2 84:=fam1_ok fun _ os=>kGetI_ok _ _ _ _ _ _ _ _ _ 5 rfl rfl (by show 6≤sizeLine; rw [sizeLine_eq]; decide)
theorem lo_lows:lo5 (lpOf its v)=lows (wdOf v).L:=rfl
theorem g19_ok:(g19 (lpOf its v) (sI (wdOf v).L)).Ok2 w b1 b2 252:=fam2_ok fun c os px=>by
 refine kTold_ok w b1 b2 (wdOf_let v) (ln:=(wdOf v).L) ⟨hsOk v _,rfl,fun k hk=>⟨_,rfl⟩,⟨vT os 2,rfl⟩,⟨vT os 3,?_⟩⟩ (factsOf v).1 _ _ _ _
 show nlV [] (lo5 (lpOf its v)) (vT os 3)=_
 rw [lo_lows,nlV_iL,List.nil_append]
theorem rev_v (k:Nat) (hk:k<5):∀ x∈(sI (wdOf v).L k).reverse,∃ n:Nat,x=n∧n<5:=fun x hx=>sI5 v k hk x (List.mem_reverse.mp hx)
theorem g20_ok:(g20 (Pw w b1 b2) (lpOf its v) (sI (wdOf v).L)).Ok2 w b1 b2 126:=fam2_ok fun c os px=>by
 have R:∀ j,∃ k':Int,0<j→j<5→∀ o:HO,HdFit (v5 (wdOf v).w (vT os 2)) (sI (wdOf v).L (j-1)).reverse (sI (wdOf v).L j) o→∀ l:List Value,l.length+(sI (wdOf v).L (j-1)).reverse.length≤1000 →
   (∀ I A D ea,(kHd0 (Pw w b1 b2) o I A D 0 l ea (valH (v5 (wdOf v).w (vT os 2)) (hidI (sI (wdOf v).L j) (sI (wdOf v).L (j-1)).reverse)) (lst 0 (sI (wdOf v).L (j-1)).reverse) k').Ok2 w b1 b2 84)∧∀ I A D ea ki v0 tv0,(kHd (Pw w b1 b2) o I A D 0 l ea ki v0 tv0 (valH (v5 (wdOf v).w (vT os 2)) (hidI (sI (wdOf v).L j) (sI (wdOf v).L (j-1)).reverse)) (lst 0 (sI (wdOf v).L (j-1)).reverse) k').Ok2 w b1 b2 84:=fun j=>by
  by_cases h0:0<j
  ·by_cases hj:j<5
   ·have R:=(factsOf v).1.row (j-1) (by omega)
    obtain ⟨k',H⟩:=hdStart w b1 b2 (v5 (wdOf v).w (vT os 2)) (sI (wdOf v).L (j-1)).reverse (sI (wdOf v).L j) (rev_v v (j-1) (by omega)) rfl (by simpa using R.ne)
    exact ⟨k',fun _ _=>H⟩
   ·exact ⟨0,fun _ h=>absurd h hj⟩
  ·exact ⟨0,fun h=>absurd h h0⟩
 obtain ⟨k',hk'⟩:=Classical.axiomOfChoice R
 have le3:∀ k,k<5→(sI (wdOf v).L k).length≤3:=fun k hk=>((factsOf v).1.row k hk).le
 have fit:∀ (j:Nat) (jI:Int) (os':List (Addr×Obj)) (L:Addr),jI=j→0<j→j<5→HdFit (v5 (wdOf v).w (vT os 2)) (sI (wdOf v).L (j-1)).reverse (sI (wdOf v).L j) (hoN L (v5 (wdOf v).w (vT os 2)) (rwX (sI (wdOf v).L) (pxN px 5)) (rwX (sI (wdOf v).L) (pxN px 5) j).v (rwX (sI (wdOf v).L) (pxN px 5) (j-1)).v.reverse jI os'):=fun j jI os' L hjI h0 hj=>by
  subst hjI
  refine ⟨rfl,⟨fun n=>decR (pxN px 5) (j-1) ((sI (wdOf v).L (j-1)).length-1-n+2),?_⟩,⟨_,rfl⟩,by show 5≤100; decide,⟨j,rfl,?_⟩⟩
  ·show (nlV [] (sI (wdOf v).L (j-1)) _).reverse=_
   rw [nlV_iL,List.nil_append,iL_rev]
  ·show (seL (rwX (sI (wdOf v).L) (pxN px 5)))[j]?=some (.ref (rwX (sI (wdOf v).L) (pxN px 5) (j:Int).toNat).a)
   have:j=1∨j=2∨j=3∨j=4:=by omega
   rcases this with rfl | rfl | rfl | rfl<;>rfl
 have len:∀ j,j<5→(hdV (sI (wdOf v).L) (v5 (lpOf its v).d.w (vT os 2)) j).length≤3:=fun j hj=>by
  have h1:∀ (js is:List Int),(hidI js is).length≤is.length:=by
   intro js is
   induction is with
   | nil=>exact Nat.le_refl _
   | cons x r ih=>unfold hidI; split<;>simp<;>omega
  show (valH _ _).length≤3
  unfold valH
  rw [List.length_map]
  have a:=h1 (sI (wdOf v).L j) (sI (wdOf v).L (j-1)).reverse
  rw [List.length_reverse] at a
  exact Nat.le_trans a (le3 (j-1) (by omega))
 have rl:∀ j,j<5→(sI (wdOf v).L j).reverse.length≤3:=fun j hj=>by rw [List.length_reverse]; exact le3 j hj
 have rev:∀ k,k<5→(fRev (rwX (sI (wdOf v).L) (pxN px 5) k).v).Ok2 w b1 b2 84:=fun k hk=>by
  have hl:(rwX (sI (wdOf v).L) (pxN px 5) k).v.length≤3:=by
   show (nlV [] (sI (wdOf v).L k) _).length≤3
   rw [nlV_length]
   have:=le3 k hk
   simpa using this
  exact fSliceL_ok none none (some (-1)) (fun _=>IsPart.none) (fun _=>IsPart.none) (fun t=>IsPart.int _ t) (by simp) (z100 (show (rwX (sI (wdOf v).L) (pxN px 5) k).v.length≤100 by omega)) (pick_rev _ hl)
 have getI:∀ (k:Nat) (kI:Int),kI=k→k<5→(fGetI ⟨seL (rwX (sI (wdOf v).L) (pxN px 5))⟩ kI (.ref (rwX (sI (wdOf v).L) (pxN px 5) k).a)).Ok2 w b1 b2 84:=fun k kI hk h5=>fGetI_ok k hk (by rcases five h5 with rfl | rfl | rfl | rfl | rfl<;>rfl) (z100 (show 5≤100 by decide))
 have l1:=len 1 (by decide)
 have l2:=len 2 (by decide)
 have l3:=len 3 (by decide)
 refine kHi1_ok w b1 b2 _ _ _ _ _ _ (fun j=>lst 0 (sI (wdOf v).L (j-1)).reverse) k' fun n=>?_
 refine ⟨getI 0 0 rfl (by decide),rev 0 (by decide),fam1_ok fun _ os'=>(hk' 1 (by decide) (by decide) _ (fit 1 1 os' _ rfl (by decide) (by decide)) _ (by have:=rl 0 (by decide); show 0+(sI (wdOf v).L 0).reverse.length≤1000; omega)).1 _ _ _ _,
  getI 1 1 rfl (by decide),rev 1 (by decide),fam1_ok fun _ os'=>(hk' 2 (by decide) (by decide) _ (fit 2 2 os' _ rfl (by decide) (by decide)) _ (by have:=rl 1 (by decide); rw [apV_app]; show ([]++_).length+(sI (wdOf v).L 1).reverse.length≤1000; rw [List.nil_append]; omega)).2 _ _ _ _ _ _ _,
  getI 2 2 rfl (by decide),rev 2 (by decide),fam1_ok fun _ os'=>(hk' 3 (by decide) (by decide) _ (fit 3 3 os' _ rfl (by decide) (by decide)) _ (by have:=rl 2 (by decide); rw [apV_app,apV_app]; show ([]++_++_).length+(sI (wdOf v).L 2).reverse.length≤1000; rw [List.nil_append,List.length_append]; omega)).2 _ _ _ _ _ _ _,
  getI 3 3 rfl (by decide),rev 3 (by decide),fam1_ok fun _ os'=>(hk' 4 (by decide) (by decide) _ (fit 4 4 os' _ rfl (by decide) (by decide)) _ (by have:=rl 3 (by decide); rw [apV_app,apV_app,apV_app]; show ([]++_++_++_).length+(sI (wdOf v).L 3).reverse.length≤1000; rw [List.nil_append,List.length_append,List.length_append]; omega)).2 _ _ _ _ _ _ _,trivial⟩
end
end Pl
end Mine
namespace Mine
namespace Pl
open Mine.Lw
open Mine.Td (RW z100)
section
variable (w:World) (b1 b2:Bool) (v:Nat→Int) (its:List Value)
noncomputable def hidAll:List Int:=hidI (sI (wdOf v).L 1) (sI (wdOf v).L 0).reverse++hidI (sI (wdOf v).L 2) (sI (wdOf v).L 1).reverse++hidI (sI (wdOf v).L 3) (sI (wdOf v).L 2).reverse++hidI (sI (wdOf v).L 4) (sI (wdOf v).L 3).reverse
theorem hdA_sv (th:Nat→Tok):hdA (lpOf its v) (sI (wdOf v).L) th=strValues ((hidAll v).map fun x=>((wdOf v).w x.toNat,th x.toNat)):=by
 have h:∀ j,0<j→j<5→hdV (sI (wdOf v).L) (v5 (lpOf its v).d.w th) j=strValues ((hidI (sI (wdOf v).L j) (sI (wdOf v).L (j-1)).reverse).map fun x=>((wdOf v).w x.toNat,th x.toNat)):=fun j h0 hj =>
  valH_sv _ _ _ fun x hx=>rev_v v (j-1) (by omega) x (hidI_sub _ _ x hx)
 unfold hdA hidAll
 rw [apV_app,apV_app,apV_app,apV_app,List.nil_append,h 1 (by decide) (by decide),h 2 (by decide) (by decide),h 3 (by decide) (by decide),h 4 (by decide) (by decide)]
 rw [List.map_append,List.map_append,List.map_append,strV_app,strV_app,strV_app]
theorem hidAll_N:(hidAll v).map Int.toNat=hidN (wdOf v).L:=(factsOf v).2.is.symm
theorem hid_strs (th:Nat→Tok):((hidAll v).map fun x=>((wdOf v).w x.toNat,th x.toNat)).map (·.1)=(lpOf its v).hid:=by
 show _=(hidN (wdOf v).L).map (wdOf v).w
 rw [← hidAll_N,List.map_map,List.map_map]
 rfl
theorem hidAll_len:(hidAll v).length=(hidN (wdOf v).L).length:=by rw [← hidAll_N,List.length_map]
theorem hdA_len (th:Nat→Tok):(hdA (lpOf its v) (sI (wdOf v).L) th).length=(hidN (wdOf v).L).length:=by
 rw [hdA_sv]
 unfold strValues
 rw [List.length_map,List.length_map,hidAll_len]
theorem pb_len (c:Nat→Tok):((lpOf its v).pb c).length=(hidN (wdOf v).L).length:=by
 show (zt _ _).length=_
 rw [zt_len]
 show ((hidN (wdOf v).L).map _).length=_
 rw [List.length_map]
theorem g21_ok:(g21 (Pw w b1 b2) (lpOf its v)).Ok2 w b1 b2 211:=fam2_ok fun c os px=>kCg_ok w b1 b2 _ _ _ _ _ _ _ _ _ _ _ (by
 have:=(factsOf v).2.le
 rw [pb_len]; omega)
theorem g22_ok:(g22 (lpOf its v) (sI (wdOf v).L)).Ok2 w b1 b2 84:=fam2_ok fun _ os px=>kLenL_ok _ _ _ _ _ (by rw [hdA_len]; rfl) (by
 have:=(factsOf v).2.le
 rw [hdA_len]; exact z100 (by omega))
theorem g23_ok:(fIIi "int.__sub__" 6 (lpOf its v).hn (lpOf its v).mn).Ok2 w b1 b2 84:=int_sub_ok (by
 have:=(factsOf v).2.le
 show (6:Int)-((hidN (wdOf v).L).length:Nat)=((6-(hidN (wdOf v).L).length:Nat):Int)
 omega)
theorem g24_ok:(g24 (lpOf its v)).Ok2 w b1 b2 84:=fam1_ok fun c os=>kMulS_ok _ _ _ _ _ _ _ _ rfl (by show 6-_≤1000; omega)
theorem g25_ok:(g25 (lpOf its v) (sI (wdOf v).L)).Ok2 w b1 b2 84:=fam2_ok fun _ os px=>kAddL_ok _ _ _ _ _ _ _ _ _ _ (by
 have:=(factsOf v).2.le
 rw [hdA_len,List.length_replicate]
 show _+(6-(hidN (wdOf v).L).length)≤1000
 omega)
theorem g26_ok:(g26 (lpOf its v) (sI (wdOf v).L)).Ok2 w b1 b2 84:=fam2_ok fun _ os px=>by
 have le:=(factsOf v).2.le
 have e:hdA (lpOf its v) (sI (wdOf v).L) (pxN px 24)++List.replicate (lpOf its v).mm (.str st0 (pxN px 1 1))=strValues (((hidAll v).map fun x=>((wdOf v).w x.toNat,pxN px 24 x.toNat))++List.replicate (lpOf its v).mm (st0,pxN px 1 1)):=by
  rw [hdA_sv,strV_rep,strV_app]
 refine ne_same _ _ [(hdX (tlN 0 ((lpOf its v).pb (tk 3 (sh3 (pxN px 12))))),hdT _ _),(hdX (tlN 1 ((lpOf its v).pb (tk 3 (sh3 (pxN px 12))))),hdT _ _),(hdX (tlN 2 ((lpOf its v).pb (tk 3 (sh3 (pxN px 12))))),hdT _ _),(hdX (tlN 3 ((lpOf its v).pb (tk 3 (sh3 (pxN px 12))))),hdT _ _),(hdX (tlN 4 ((lpOf its v).pb (tk 3 (sh3 (pxN px 12))))),hdT _ _),(hdX (tlN 5 ((lpOf its v).pb (tk 3 (sh3 (pxN px 12))))),hdT _ _)] _ _ _ _ _ _ _ _ _ rfl e ?_
 have t:=tl_out ((lpOf its v).pb (tk 3 (sh3 (pxN px 12)))) (by rw [pb_len]; omega)
 rw [pb_len] at t
 refine Eq.trans (show _=[hdX (tlN 0 ((lpOf its v).pb (tk 3 (sh3 (pxN px 12))))),hdX (tlN 1 ((lpOf its v).pb (tk 3 (sh3 (pxN px 12))))),hdX (tlN 2 ((lpOf its v).pb (tk 3 (sh3 (pxN px 12))))),hdX (tlN 3 ((lpOf its v).pb (tk 3 (sh3 (pxN px 12))))),hdX (tlN 4 ((lpOf its v).pb (tk 3 (sh3 (pxN px 12))))),hdX (tlN 5 ((lpOf its v).pb (tk 3 (sh3 (pxN px 12)))))] from rfl) (t.trans ?_)
 have z:((lpOf its v).pb (tk 3 (sh3 (pxN px 12)))).map (·.1)=(lpOf its v).hid:=zt_fst _ _
 rw [z,List.map_append,hid_strs v its,List.map_replicate]
 rfl
theorem g27_ok:(g27 (sI (wdOf v).L)).Ok2 w b1 b2 84:=fam2_ok fun c os px=>kGetI_ok _ _ _ _ _ _ _ _ _ 4 rfl rfl (z100 (show 5≤100 by decide))
theorem g28_ok:(g28 (sI (wdOf v).L)).Ok2 w b1 b2 84:=fam2_ok fun c os px=>by
 have hl:(rwX (sI (wdOf v).L) (pxN px 13) 4).v.length≤3:=by
  show (nlV [] (sI (wdOf v).L 4) _).length≤3
  rw [nlV_length]
  have:=((factsOf v).1.row 4 (by decide)).le
  simpa using this
 exact kSliceL_ok _ _ _ _ _ _ _ _ _ _ none none (some (-1)) _ IsPart.none IsPart.none (IsPart.int _ _) (by simp) (z100 (show (rwX (sI (wdOf v).L) (pxN px 13) 4).v.length≤100 by omega)) (pick_rev _ hl)
theorem gHo_ok (i:Int) (n:Nat) (hi:i=n) (hn:n<5):(gHo (lpOf its v) i n).Ok2 w b1 b2 84:=fam1_ok fun c os=>kGetI_ok _ _ _ _ _ _ _ _ _ n hi (by have:=v5_at (lpOf its v).d.w (vT os 0) n hn; simpa using this) (z100 (show 5≤100 by decide))
theorem okW_fP (k:Nat):okW (fP (wdOf v).L (wdOf v).c k):=by
 have:=(wdOf_ok v).L k
 show (wdOf v).L k=1∨(wdOf v).L k=2∨(wdOf v).L k=3
 omega
theorem walk_fam (A D:Addr) (ti t0:Tok) (ed ep esw:Nat) (l:LA) (ss:List Value) (ess:Nat) (n:Int) (tn:Tok) (epb:Nat) (t:Nat→Tok) :
  (fWL (Pw w b1 b2) A D ti t0 ed ep (v5 (wdOf v).w t) esw l ss ess n tn [] epb (lk5 (lpOf its v)) (lo5 (lpOf its v)) (lpOf its v).hid (wdP (fP (wdOf v).L (wdOf v).c 4)) (ptP (tK (wP [fP (wdOf v).L (wdOf v).c 0] [fP (wdOf v).L (wdOf v).c 1,fP (wdOf v).L (wdOf v).c 2,fP (wdOf v).L (wdOf v).c 3]) (fP (wdOf v).L (wdOf v).c 4))) ((pk (wdOf v).L 4).map (fP (wdOf v).L (wdOf v).c))).Ok2 w b1 b2 126:=by
 have H:=fWL_ok w b1 b2 A D ti t0 ed ep esw l ss ess n tn [] epb (fP (wdOf v).L (wdOf v).c 0) (fP (wdOf v).L (wdOf v).c 1) (fP (wdOf v).L (wdOf v).c 2) (fP (wdOf v).L (wdOf v).c 3) (fP (wdOf v).L (wdOf v).c 4) t (okW_fP v 0) (okW_fP v 1) (okW_fP v 2) (okW_fP v 3) (okW_fP v 4) (by decide)
 rw [wLk_is,wLw_is,wH_is,wP_is] at H
 exact H
theorem walk1_ok (fin:List (Nat×Nat)) (hf:(pk (wdOf v).L 4).map (fP (wdOf v).L (wdOf v).c)=fin) (h:(∃ q0,fin=[q0])∨(∃ q0 q1,fin=[q0,q1])∨∃ q0 q1 q2,fin=[q0,q1,q2]):(g13 (Pw w b1 b2) (lpOf its v) fin).Ok2 w b1 b2 168:=fam2_ok fun c os px=>by
 have H:=walk_fam w b1 b2 v its (pxN px 0 0) (pxN px 0 1+213) (pxN px 0 2) (pxN px 0 3) 1 0 (epN os 0) (laP px 8) [] (lpOf its v).ess (lpOf its v).n' (tokV (slotN os 12 0)) 0 (vT os 0)
 rw [hf] at H
 refine kWalkZ_ok ?_
 rcases h with ⟨q0,rfl⟩ | ⟨q0,q1,rfl⟩ | ⟨q0,q1,q2,rfl⟩
 ·exact kWalk1_ok w b1 b2 _ _ _ _ _ _ _ _ _ _ _ _ _ _ _ _ _ _ _ _ _ _ H
 ·exact kWalk2_ok w b1 b2 _ _ _ _ _ _ _ _ _ _ _ _ _ _ _ _ _ _ _ _ _ _ _ H
 ·exact kWalk3_ok w b1 b2 _ _ _ _ _ _ _ _ _ _ _ _ _ _ _ _ _ _ _ _ _ _ _ _ H
end
end Pl
end Mine
namespace Mine
namespace Pl
open Mine.Lw
open Mine.Td (RW z100)
section
variable (w:World) (b1 b2:Bool)
theorem gLen_ok {w:World} {b1 b2:Bool} (m:Nat) (n:Int) (h:n=m) (hm:m≤10):(gLen m n).Ok2 w b1 b2 84:=fam1_ok fun _ os=>by
 have:∀ m k,(lfV os 0 m k).length=m:=by
  intro m
  induction m with
  | zero=>intro k; rfl
  | succ m ih=>intro k; rw [lfV,List.length_cons,ih]
 exact kLenL_ok _ _ _ _ _ (by rw [this]; exact h) (by rw [this]; exact z100 (by omega))
theorem gMul_ok {w:World} {b1 b2:Bool} (k:Int) (m:Nat) (h:k=m) (hm:m≤10):(gMul k m).Ok2 w b1 b2 84:=fam1_ok fun c os=>kMulL_ok _ _ _ _ _ _ _ _ h (by omega)
theorem gAdd_ok {w:World} {b1 b2:Bool} (m k:Nat) (hm:m≤10) (hk:k≤10):(gAdd m k).Ok2 w b1 b2 84:=fam1_ok fun _ os=>by
 have:∀ i m k,(lfV os i m k).length=m:=by
  intro i m
  induction m with
  | zero=>intro k; rfl
  | succ m ih=>intro k; rw [lfV,List.length_cons,ih]
 exact kAddL_ok _ _ _ _ _ _ _ _ _ _ (by rw [this,this]; omega)
theorem allO {ex:List (Addr×Obj)}:∀ {as:List TP},as.foldr (fun p q=>p.o∈ex∧q) True→∀ p∈as,p.o∈ex
 | _::_,h,_,m=>by
  cases m with
  | head=>exact h.1
  | tail _ m=>exact allO h.2 _ m
theorem gEq1_ok {w:World} {b1 b2:Bool} (q w0:Str) (h:q=w0):(gEq1 q w0).Ok2 w b1 b2 84:=fam1_ok fun _ os=>by
 subst h
 exact kEqT_ok (by decide) _ _ _ _ _ _ _
  (allO (by refine ⟨?_,?_,?_,?_,?_,?_,trivial⟩<;>repeat (first | exact List.Mem.head _ | apply List.Mem.tail)))
  (allO (by refine ⟨?_,?_,?_,?_,?_,?_,trivial⟩<;>repeat (first | exact List.Mem.head _ | apply List.Mem.tail))) rfl
theorem gEq2_ok {w:World} {b1 b2:Bool} (q0 q1 w0 w1:Str) (h0:q1=w0) (h1:q0=w1):(gEq2 q0 q1 w0 w1).Ok2 w b1 b2 84:=fam1_ok fun _ os=>by
 subst h0; subst h1
 exact kEqT_ok (by decide) _ _ _ _ _ _ _
  (allO (by refine ⟨?_,?_,?_,?_,?_,?_,trivial⟩<;>repeat (first | exact List.Mem.head _ | apply List.Mem.tail)))
  (allO (by refine ⟨?_,?_,?_,?_,?_,?_,trivial⟩<;>repeat (first | exact List.Mem.head _ | apply List.Mem.tail))) rfl
theorem gEq3_ok {w:World} {b1 b2:Bool} (q0 q1 q2 w0 w1 w2:Str) (h0:q2=w0) (h1:q1=w1) (h2:q0=w2):(gEq3 q0 q1 q2 w0 w1 w2).Ok2 w b1 b2 84:=fam1_ok fun _ os=>by
 subst h0; subst h1; subst h2
 exact kEqT_ok (by decide) _ _ _ _ _ _ _
  (allO (by refine ⟨?_,?_,?_,?_,?_,?_,trivial⟩<;>repeat (first | exact List.Mem.head _ | apply List.Mem.tail)))
  (allO (by refine ⟨?_,?_,?_,?_,?_,?_,trivial⟩<;>repeat (first | exact List.Mem.head _ | apply List.Mem.tail))) rfl
theorem isW_sI (ln:Nat→Nat) (row:List Int) (h:sI ln 4=row):isW (sI ln) row=sI ln:=by
 funext k
 unfold isW
 split
 ·exact h.symm
 ·rfl
theorem up {w:World} {b1 b2:Bool} {F:Fam} {y:Nat} (h:F.Ok2 w b1 b2 y) (hy:y≤252):F.Ok2 w b1 b2 252:=h.mono hy
theorem gsA_ok (ns:List (Int×Tok)) (hz:ns.length≤63) (v:Nat→Int) (hv:v=foN6 0 (ns.take 12) v06) (c:Nat) (fin:List (Nat×Nat)) (hf:(pk (wdOf v).L 4).map (fP (wdOf v).L (wdOf v).c)=fin) (h:(∃ q0,fin=[q0])∨(∃ q0 q1,fin=[q0,q1])∨∃ q0 q1 q2,fin=[q0,q1,q2]) :
  AllG (Mo w b1 b2) (Kt w b1 b2) 252 (gsA (Pw w b1 b2) (lpOf (mkI ns) v) (sI (wdOf v).L) fin c):=by
 have le (a:Nat) (h:a≤252):a≤252:=h
 refine ⟨up (y:=126) (fam1_ok fun _ _=>?_) (by decide),up (g1_ok w b1 b2 v _) (by decide),up (g2_ok w b1 b2 v _) (by decide),up (g3_ok w b1 b2 v _) (by decide),up (g4_ok w b1 b2 v _) (by decide),up (g5_ok w b1 b2 v _) (by decide),up (g6_ok w b1 b2 v _) (by decide),up (g7_ok w b1 b2 v _) (by decide),str_ne_ok (by decide +kernel),up (g9_ok w b1 b2 v (mkI ns)) (by decide),int_add_ok rfl,up (g11_ok w b1 b2 v (mkI ns)) (by decide),up (y:=42) (fam1_ok fun _ _=>kAcc_ok w b1 b2) (by decide),
  up (walk1_ok w b1 b2 v _ fin hf h) (by decide),up (g14_ok w b1 b2 v _) (by decide),up (g15_ok w b1 b2 v _) (by decide),up (g16_ok w b1 b2 v _) (by decide),up (g17_ok w b1 b2 v _) (by decide),int_mod_ok rfl rfl,g19_ok w b1 b2 v _,up (g20_ok w b1 b2 v _) (by decide),up (g21_ok w b1 b2 v _) (by decide),up (g22_ok w b1 b2 v _) (by decide),up (g23_ok w b1 b2 v (mkI ns)) (by decide),up (g24_ok w b1 b2 v _) (by decide),up (g25_ok w b1 b2 v _) (by decide),up (g26_ok w b1 b2 v _) (by decide),up (g27_ok w b1 b2 v) (by decide),up (g28_ok w b1 b2 v) (by decide),trivial⟩
 subst hv
 exact kNums_ok w b1 b2 _ _ _ ns _ hz
theorem AllG.app {M:Model} {kt:Addr→Option Obj} {y:Nat}:∀ {a b:List (Fam×List Nat)},AllG M kt y a→AllG M kt y b→AllG M kt y (a++b)
 | [],_,_,h=>h
 | _::_,_,h,g=>⟨h.1,AllG.app h.2 g⟩
theorem kLaw_ok (dd:Option Addr) (sl:Array (Option Value)) (S:Addr) (ns:List (Int×Tok)) (es:Nat) (hz:ns.length≤63):(kLaw dd sl S (mkI ns) es).Ok2 w b1 b2 294:=by
 generalize hv:foN6 0 (ns.take 12) v06=v
 have hv:=hv.symm
 have R:=(factsOf v).1.row 4 (by decide)
 have P4:pk (wdOf v).L 4=(sI (wdOf v).L 4).map Int.toNat:=R.pk
 obtain ⟨i0,l1,h1⟩:=List.exists_cons_of_ne_nil R.ne
 obtain ⟨n0,e0,m0⟩:=R.v i0 (by rw [h1]; exact .head _)
 have t0:i0.toNat=n0:=by omega
 have le:=R.le
 rw [h1] at le
 cases l1 with
 | nil =>
  have hp:(pk (wdOf v).L 4).map (fP (wdOf v).L (wdOf v).c)=[fP (wdOf v).L (wdOf v).c n0]:=by rw [P4,h1]; show [_]=[_]; rw [t0]
  have A:=gsA_ok w b1 b2 ns hz v hv 0 _ hp (.inl ⟨_,rfl⟩)
  have B:AllG (Mo w b1 b2) (Kt w b1 b2) 252 (gsB1 (Pw w b1 b2) (lpOf (mkI ns) v) i0 n0 (wdP (fP (wdOf v).L (wdOf v).c n0))) :=
   ⟨up (gHo_ok w b1 b2 v _ i0 n0 e0 m0) (by decide),up (y:=84) (fam2_ok fun _ _ _=>kCp1_ok w b1 b2 _ _ _ _ _ _ _ _) (by decide),up (gLen_ok 1 1 rfl (by decide)) (by decide),int_sub_ok rfl,up (gMul_ok 5 5 rfl (by decide)) (by decide),up (gAdd_ok 1 5 (by decide) (by decide)) (by decide),up (gEq1_ok _ _ rfl) (by decide),trivial⟩
  rw [← isW_sI (wdOf v).L [i0] h1] at A
  exact kLaw1_ok w b1 b2 dd sl S es (lpOf (mkI ns) v) (sI (wdOf v).L) i0 n0 _ (AllG.app A B)
 | cons i1 l2 =>
  obtain ⟨n1,e1,m1⟩:=R.v i1 (by rw [h1]; exact .tail _ (.head _))
  have t1:i1.toNat=n1:=by omega
  cases l2 with
  | nil =>
   have hp:(pk (wdOf v).L 4).map (fP (wdOf v).L (wdOf v).c)=[fP (wdOf v).L (wdOf v).c n0,fP (wdOf v).L (wdOf v).c n1]:=by rw [P4,h1]; show [_,_]=[_,_]; rw [t0,t1]
   have A:=gsA_ok w b1 b2 ns hz v hv 2 _ hp (.inr (.inl ⟨_,_,rfl⟩))
   have B:AllG (Mo w b1 b2) (Kt w b1 b2) 252 (gsB2 (Pw w b1 b2) (lpOf (mkI ns) v) i1 i0 n1 n0 (wdP (fP (wdOf v).L (wdOf v).c n0)) (wdP (fP (wdOf v).L (wdOf v).c n1))) :=
    ⟨up (gHo_ok w b1 b2 v _ i1 n1 e1 m1) (by decide),up (gHo_ok w b1 b2 v _ i0 n0 e0 m0) (by decide),up (y:=84) (fam2_ok fun _ _ _=>kCp2_ok w b1 b2 _ _ _ _ _ _ _ _ _) (by decide),up (gLen_ok 2 2 rfl (by decide)) (by decide),int_sub_ok rfl,up (gMul_ok 4 4 rfl (by decide)) (by decide),up (gAdd_ok 2 4 (by decide) (by decide)) (by decide),up (gEq2_ok _ _ _ _ rfl rfl) (by decide),trivial⟩
   rw [← isW_sI (wdOf v).L [i0,i1] h1] at A
   exact kLaw2_ok w b1 b2 dd sl S es (lpOf (mkI ns) v) (sI (wdOf v).L) i1 i0 n1 n0 _ _ (AllG.app A B)
  | cons i2 l3 =>
   obtain ⟨n2,e2,m2⟩:=R.v i2 (by rw [h1]; exact .tail _ (.tail _ (.head _)))
   have t2:i2.toNat=n2:=by omega
   cases l3 with
   | nil =>
    have hp:(pk (wdOf v).L 4).map (fP (wdOf v).L (wdOf v).c)=[fP (wdOf v).L (wdOf v).c n0,fP (wdOf v).L (wdOf v).c n1,fP (wdOf v).L (wdOf v).c n2]:=by rw [P4,h1]; show [_,_,_]=[_,_,_]; rw [t0,t1,t2]
    have A:=gsA_ok w b1 b2 ns hz v hv 4 _ hp (.inr (.inr ⟨_,_,_,rfl⟩))
    have B:AllG (Mo w b1 b2) (Kt w b1 b2) 252 (gsB3 (Pw w b1 b2) (lpOf (mkI ns) v) i2 i1 i0 n2 n1 n0 (wdP (fP (wdOf v).L (wdOf v).c n0)) (wdP (fP (wdOf v).L (wdOf v).c n1)) (wdP (fP (wdOf v).L (wdOf v).c n2))) :=
     ⟨up (gHo_ok w b1 b2 v _ i2 n2 e2 m2) (by decide),up (gHo_ok w b1 b2 v _ i1 n1 e1 m1) (by decide),up (gHo_ok w b1 b2 v _ i0 n0 e0 m0) (by decide),up (y:=84) (fam2_ok fun _ _ _=>kCp3_ok w b1 b2 _ _ _ _ _ _ _ _ _ _) (by decide),up (gLen_ok 3 3 rfl (by decide)) (by decide),int_sub_ok rfl,up (gMul_ok 3 3 rfl (by decide)) (by decide),up (gAdd_ok 3 3 (by decide) (by decide)) (by decide),up (gEq3_ok _ _ _ _ _ _ rfl rfl rfl) (by decide),trivial⟩
    rw [← isW_sI (wdOf v).L [i0,i1,i2] h1] at A
    exact kLaw3_ok w b1 b2 dd sl S es (lpOf (mkI ns) v) (sI (wdOf v).L) i2 i1 i0 n2 n1 n0 _ _ _ (AllG.app A B)
   | cons _ _=>simp at le
end
end Pl
end Mine
namespace Mine
namespace Fin
open PySem.Calls
noncomputable def as2:List Addr:=[0,1,2,3,4,5,6,7,8,9,10,11,12,13,14,15,16,17,18,19,20,21,22,23,24,25,26,27,28,29,30,31,32,33,34,35,36,39,44,45,46,47,48,49,50,51,52,53,54,55,56,57,58,59,60,61,62,63,64,65,66,67,68,69,70,71,72,73,74,75,76,77,78,79,80,81,82,83,84,85,86,87,88,89,90,91,92,93,94,95,96,97,98,99,100,101,102,103,104,105,106,107,108,109,110,111,112,113,114,115,116,117,127,128,129,130,131,132,133,134,135,136,137,138,139,140,141,142,143,144,145,146,147,148,149,150,151,152,153,154,155,156,157,158,159,162,163,164,165,166,167,168,169,170,171,172,173,174,175,176,177,178,179,180,181,182,183,184,185,186,187,188,189,190,191,192,193,194,195,196,197,198,199,200,201,202,203,204,205,206,207,208,209,210,211,212]
noncomputable def q2:Program:={P2 with main:={P2.main with body:=P2.main.body.drop 21}}
noncomputable def loose2:List Str:=["_wall","_MAX_STRING_SIZE","_MOVE_COST","_CASE_COST","_substitution_cost","_levenshtein_distance","EMPTYSTRING","_Accumulator","_netrclex","_law_numbers","_law_house","_law_written","_law_lexer","_law_walk","_law_seen","_law_other_size","_law_told_by_the_least"]
theorem oldK_of {h h':Heap} {l:List Addr} (hk:∀ b o,h.get? b=some o→b∉l→h'.get? b=some o)
  (ht:∀ b o,b∈l→h.get? b=some o→h'.get? b=some o∨(isCodeTable h b∧o.cls=.none∧∃ vs more,o.data=.fields vs∧h'.get? b=some {o with data:=.fields (vs++more)})):OldK h h' :=
 ⟨fun b o e=>by
  by_cases hb:b∈l
  ·rcases ht b o hb e with x | x
   ·exact .inl x
   ·exact .inr (.inl x)
  ·exact .inl (hk b o e hb),fun b o e=>by
  by_cases hb:b∈l
  ·rcases ht b o hb e with x | ⟨_,_,vs,more,_,x⟩
   ·exact ⟨_,x⟩
   ·exact ⟨_,x⟩
  ·exact ⟨_,hk b o e hb⟩⟩
theorem law_w (w:World) (dd:Option Addr) (sl:Array (Option Value)) (S:Addr) (ns:List (Int×Tok)) (es:Nat) (hz:ns.length≤63):(Lw.kLaw dd sl S (mkI ns) es).Ok (model P2 w) (kt2 w.params) 294:=by
 refine byRow2 (P:=fun w=>(Lw.kLaw dd sl S (mkI ns) es).Ok (model P2 w) (kt2 w.params) 294) "comprehension-iter-twice" (fun w=>?_) (fun w=>?_) w
 ·exact byRow2 (P:=fun w=>(Lw.kLaw dd sl S (mkI ns) es).Ok (model P2 (w.withFollow "comprehension-iter-twice" false)) (kt2 (w.withFollow "comprehension-iter-twice" false).params) 294) "special-get-raises"
   (fun w=>Pl.kLaw_ok w false false dd sl S ns es hz) (fun w=>Pl.kLaw_ok w true false dd sl S ns es hz) w
 ·exact byRow2 (P:=fun w=>(Lw.kLaw dd sl S (mkI ns) es).Ok (model P2 (w.withFollow "comprehension-iter-twice" true)) (kt2 (w.withFollow "comprehension-iter-twice" true).params) 294) "special-get-raises"
   (fun w=>Pl.kLaw_ok w false true dd sl S ns es hz) (fun w=>Pl.kLaw_ok w true true dd sl S ns es hz) w
noncomputable def ktAll (p:Obj→Bool):PySem.W.X.KT→Bool
 | .nil=>true
 | .node v l r=>v.all p&&ktAll p l&&ktAll p r
theorem ktAll_get {p:Obj→Bool}:∀ {t:PySem.W.X.KT} {j:Nat} {o:Obj},ktAll p t=true→t.get j=some o→p o=true
 | .nil,_,_,_,e=>by cases e
 | .node v l r,j,o,h,e=>by
  unfold ktAll at h
  simp only [Bool.and_eq_true] at h
  rw [PySem.W.X.KT.get_node] at e
  split at e
  ·subst e; exact h.1.1
  ·split at e
   ·exact ktAll_get h.1.2 e
   ·exact ktAll_get h.2 e
noncomputable def noList (o:Obj):Bool:=match o.data with
 | .seq ..=>(match o.cls with
  | .type t=>!(t=="list")
  | _=>true)
 | _=>true
theorem noLists (w:World):ktAll noList (ktT w.params)=true:=by kernel_rfl
theorem ints_are:∀ {vs:List Value} {zs:List Int},IntsAre vs zs→∃ ns:List (Int×Tok),vs=mkI ns∧ns.length=zs.length
 | _,_,.nil=>⟨[],rfl,rfl⟩
 | _,_,.cons n t h=>by
  obtain ⟨ns,e,l⟩:=ints_are h
  exact ⟨(n,t)::ns,by rw [e]; rfl,by simp [l]⟩
noncomputable def Says (w:World) (h:Heap):Prop:=PySem.W.X.AllIn h (K2 w.params)∧InK K2 w h
theorem allIn_keeps {h h':Heap} (k:∀ b o,h.get? b=some o→h'.get? b=some o):∀ {K:Frag},PySem.W.X.AllIn h K→PySem.W.X.AllIn h' K
 | [],_=>trivial
 | _::_,x=>⟨k _ _ x.1,allIn_keeps k x.2⟩
theorem bool_get {α:Type} {b:Bool} {x:Option α} {o:α} (e:(match b with | true=>none | false=>x)=some o):x=some o:=by
 cases b
 ·exact e
 ·cases e
theorem kt2_get {P:Params} {a:Addr} {o:Obj} (e:kt2 P a=some o):(ktT P).get a=some o:=bool_get (b:=Nat.beq a 182||Nat.beq a 77||Nat.beq a 84) e
theorem get_in {K:Frag} {h:Heap} (Y:PySem.W.X.AllIn h K) {a:Addr} {o:Obj} (q:(PySem.W.X.KT.of K).get a=some o):h.get? a=some o:=by
 have:=(PySem.W.X.holds_of Y).get q
 rwa [Nat.one_mul,Nat.add_zero] at this
theorem kt_in {w:World} {h:Heap} (Y:Says w h):∀ a o,kt2 w.params a=some o→h.get? a=some o:=fun a o e=>get_in Y.1 (kt2_get e)
theorem kt_noList {w:World} {a:Addr} {o:Obj} (e:kt2 w.params a=some o):noList o=true:=ktAll_get (noLists w) (kt2_get e)
theorem lookT {w:World} {h:Heap} (Y:Says w h) {a:Addr} {o:Obj} (e:(K2 w.params).lookup a=some o):h.get? a=some o:=Y.2 _ _ e
theorem bare_of {g:Array GenState} (h:GensOk #[] g):AllBare g:=by
 obtain ⟨l,rfl,hl⟩:=h
 intro x hx
 rw [hl x (by simpa using hx)]
 rfl
noncomputable def tabOk (K:Frag) (c b:Addr):Bool:=match K.lookup c with
 | some o=>(match o.cls with
  | .type t=>t=="code"
  | _=>false)&&(match o.data with
  | .fields vs=>(match (vs[11]?:Option Value) with
   | some (Value.ref b')=>Nat.beq b' b
   | _=>false)
  | _=>false)
 | none=>false
theorem tabOk_spec {K:Frag} {h:Heap} (Y:K.In h) {c b:Addr} (e:tabOk K c b=true):isCodeTable h b:=by
 unfold tabOk at e
 split at e
 ·rename_i o q
  rw [Bool.and_eq_true] at e
  obtain ⟨e1,e2⟩:=e
  split at e1
  ·rename_i t q1
   split at e2
   ·rename_i vs q2
    split at e2
    ·rename_i b' q3
     have:=Nat.eq_of_beq_eq_true e2
     subst this
     exact ⟨c,o,vs,Y _ _ q,by rw [q1,eq_of_beq e1],q2,q3⟩
    ·cases e2
   ·cases e2
  ·cases e1
 ·cases e
theorem tab_of {h h':Heap} {b:Addr} {o:Obj} (hc:isCodeTable h b) (ho:o=tabE) {i j:Int} {g:Addr} (h4:h'.get? b=some (tabO i j g)) :
  h'.get? b=some o∨(isCodeTable h b∧o.cls=.none∧∃ vs more,o.data=.fields vs∧h'.get? b=some {o with data:=.fields (vs++more)}):=by
 subst ho
 exact .inr ⟨hc,rfl,#[],#[.int i 0,.int j 0,.ref g],rfl,by rw [h4]; rfl⟩
theorem law_ends {w:World} {s₁:Shared} {S:Addr} {vs:List Value} {zs:List Int} (Y:Says w s₁.heap) (lim:s₁.heap.NoLimit) (hL:s₁.heap.IsList S vs.toArray) (hI:IntsAre vs zs) (hz:zs.length≤63) (hg:s₁.gens=#[]) {R:Result→Shared→Prop}
  (hR:∀ s',OldK s₁.heap s'.heap→s'.os=s₁.os→AllBare s'.gens→R (.ok (.ret (.bool true))) s'):codeAny (model P2 w) callerA (.call (.ref 212) ⟨[.ref S],[]⟩) R s₁:=by
 obtain ⟨ns,rfl,hn⟩:=ints_are hI
 obtain ⟨dd,es,sl,hS⟩:=PySem.W.X.isList_open hL
 have t77:s₁.heap.get? 77=some tabE:=lookT Y (by kernel_rfl)
 have t84:s₁.heap.get? 84=some tabE:=lookT Y (by kernel_rfl)
 have t182:s₁.heap.get? 182=some tabE:=lookT Y (by kernel_rfl)
 have lst:∀ {a:Addr} {o:Obj},s₁.heap.get? a=some o→o.cls≠.type "list"→S≠a:=fun h1 h2 h3=>by
  subst h3
  rw [hS] at h1
  cases h1
  exact h2 rfl
 have n77:S≠77:=lst t77 nofun
 have n84:S≠84:=lst t84 nofun
 have n182:S≠182:=lst t182 nofun
 have hk:kt2 w.params S=none:=by
  cases e:kt2 w.params S with
  | none=>rfl
  | some o =>
   have h1:=kt_in Y _ _ e
   rw [hS] at h1
   cases h1
   exact absurd ((kt_noList e).symm.trans (show noList (scO dd sl (mkI ns) es)=false by kernel_rfl)) nofun
 refine codeAny_of_con (law_w w dd sl S ns es (by omega)) rfl (by decide) (by decide) lim (kt_in Y) (fun q hq=>?_) (fun q hq=>?_) ?_ (fun xs s' A=>?_)
 ·simp only [Lw.kLaw,List.mem_cons,List.not_mem_nil,or_false] at hq
  rcases hq with rfl | rfl | rfl | rfl
  ·exact hS
  ·exact t77
  ·exact t84
  ·exact t182
 ·simp only [Lw.kLaw,List.mem_cons,List.not_mem_nil,or_false] at hq
  rcases hq with rfl | rfl | rfl | rfl
  ·exact hk
  ·kernel_rfl
  ·kernel_rfl
  ·kernel_rfl
 ·show [S,77,84,182].Nodup
  simp [n77,n84,n182]
 ·have gv:=A.give
  have g77:s'.heap.get? 77=some (tabO 72 19 (xs 0)):=gv (77,_) (.tail _ (.head _))
  have g84:s'.heap.get? 84=some (tabO 75 32 (xs 1)):=gv (84,_) (.tail _ (.tail _ (.head _)))
  have g182:s'.heap.get? 182=some (tabO 150 18 (xs 2)):=gv (182,_) (.tail _ (.tail _ (.tail _ (.head _))))
  have gS:s'.heap.get? S=some (scO dd sl (mkI ns) es):=gv (S,_) (.head _)
  refine hR s' (oldK_of (l:=[S,77,84,182]) A.keep fun b o hb ho=>?_) A.os (bare_of (hg ▸ A.gens))
  simp only [List.mem_cons,List.not_mem_nil,or_false] at hb
  rcases hb with rfl | rfl | rfl | rfl
  ·left
   rw [hS] at ho
   cases ho
   exact gS
  ·exact tab_of (tabOk_spec (K:=K2 w.params) (c:=81) Y.2 (by kernel_rfl)) (by rw [t77] at ho; exact (Option.some.inj ho).symm) g77
  ·exact tab_of (tabOk_spec (K:=K2 w.params) (c:=88) Y.2 (by kernel_rfl)) (by rw [t84] at ho; exact (Option.some.inj ho).symm) g84
  ·exact tab_of (tabOk_spec (K:=K2 w.params) (c:=184) Y.2 (by kernel_rfl)) (by rw [t182] at ho; exact (Option.some.inj ho).symm) g182
theorem left_of {p q:Program} {loose:List Str} {Xt:Shared→Bool} {α:Type} {Yf:Shared→α} {Ya:World→α} {N:Nat} {H:World→Heap} {G:Array GenState} {D:Drawn} {K:Nat}
  (b:∀ w:World,(fencedOpening treeTable p w N).map (fun s=>(s.heap,s.gens,s.drawn,s.toks))=some (H w,G,D,K))
  (r:∀ (w:World) (os:OsState),(topFrom treeTable p w N ⟨H w,G,D,K,os⟩).map (fun s=>(openSeen q loose (importedModules p.main.body) Xt true s,Yf s))=some (openGood q loose,Ya w)):LeftO p q loose Xt Yf Ya N:=fun w=>by
 obtain ⟨⟨h,g,d,t,os⟩,e1,e2⟩:=Option.map_eq_some_iff.mp (b w)
 unfold openEnds
 rw [e1]
 injection e2 with e3 e4
 injection e4 with e4 e5
 injection e5 with e5 e6
 cases e3; cases e4; cases e5; cases e6
 exact r w os
theorem boot2 (w:World):(fencedOpening treeTable P2 w 2700).map (fun s=>(s.heap,s.gens,s.drawn,s.toks))=some (boot_heap w.params,Array.mk [],boot_drawn,boot_toks):=boot_open rfl (by decide) (fun _=>rfl) w
theorem run2 (w:World) (os:OsState):(topFrom treeTable P2 w 2700 ⟨boot_heap w.params,Array.mk [],boot_drawn,boot_toks,os⟩).map (fun s=>(openSeen q2 loose2 (importedModules P2.main.body) (fun _=>true) true s,as2.map s.heap.get?))=some (openGood q2 loose2,(K2 w.params).map fun p=>some p.2):=by kernel_rfl
theorem left2:LeftO P2 q2 loose2 (fun _=>true) (fun s:Shared=>as2.map s.heap.get?) (fun w=>(K2 w.params).map fun p=>some p.2) 2700:=left_of boot2 run2
theorem hd2:PySem.Challenge.rw_rl0053_02.Holds:=by
 refine holds_law (by kernel_rfl) fun said=>?_
 refine W.holds_open (q:=q2) (loose:=loose2) (Xt:=fun _=>true) (XP:=fun _ _=>True) (Yf:=fun s:Shared=>as2.map s.heap.get?) (Ya:=fun w=>(K2 w.params).map fun p=>some p.2) (YP:=Says) (N:=2700) ?hl
  (fun w s e=>⟨PySem.W.X.allIn_of (by rw [← (show as2=(K2 w.params).map (·.1) by kernel_rfl)]; exact e),InK.of (fun _=>by kernel_rfl) w s e⟩) (fun w h h' x k=>⟨allIn_keeps k x.1,InK.keeps w h h' x.2 k⟩) (fun _ _=>trivial) (fun _ _ _ _ _=>trivial) (by rfl) (by rfl) (by rfl) (fun s _=>recFacts_nil rfl) (by kernel_rfl) said (by kernel_rfl) ⟨rfl,rfl,rfl,rfl,rfl,by decide +kernel⟩ ?hw ?hc
 case hw=>w_witness2
 case hl=>exact left2
 case hc =>
  intro w s₀ s₁ mg mb G Y a o pm cd doc dV kV ho hd hcd hD hmg hg args vals as hpre hlay hrd hwl hlo
  clear hd ho hcd hD
  have e:mg (Str.ofString "law")=some (.ref a):=hmg
  clear hmg
  refine Ground.open G ?_
  intro T B D TE TW
  wrow_args hpre hlay hrd hwl hlo
  rename_i zs _ _ _ _ _ _ _ S vs _ hL _ _ _ hI _ hz _
  have ea:a=212:=by
   have:=e.symm.trans (mg_of Y.2 (Top.g T) (v:=.ref 212) (by kernel_rfl))
   exact Value.ref.inj (Option.some.inj this)
  subst ea
  refine enter_call (law_ends Y T.nolimit hL hI (by omega) hg fun s' hK hos hb=>⟨.inl ⟨_,.bool true,[],rfl,fun _=>rfl,.bool true,by kernel_rfl,fun _=>⟨List.nodup_nil,nofun⟩⟩,hK,hos,hb⟩)
end Fin
end Mine
theorem PySem.Challenge.cw_rl0053_02_holds : PySem.Challenge.rw_rl0053_02.Holds :=
 Mine.Fin.hd2
